/-
  Seat b6277aF: the plain law of the runs.
-/
import Derived.Test.YbulkdyyyFmtPush
import Derived.Test.YbulkdyyyFmtSort
namespace Go.Proofs.YbulkdyyyFmt
open Go.Sort Go.Shelf
set_option linter.unusedVariables false

def Wide32 (rs : List Rn) : Prop := ∀ x ∈ rs, U32 x.first ∧ U32 x.last

theorem pushR_nil (r : Rn) : pushR [] r = [r] := rfl
theorem pushR_last (rs : List Rn) (l r : Rn) : pushR (rs ++ [l]) r = if r.first ≤ l.last + 1 then rs ++ [⟨l.first, if l.last < r.last then r.last else l.last⟩] else rs ++ [l] ++ [r] := by
  unfold pushR
  have e : (rs ++ [l])[(rs ++ [l]).length - 1]? = some l := by simp
  rw [e]
  have e2 : ∀ v, (rs ++ [l]).set ((rs ++ [l]).length - 1) v = rs ++ [v] := fun v => by simp
  simp only [e2]

/-- What one push does. -/
structure Pushed (rs : List Rn) (r : Rn) (ps : List Rn) : Prop where
  runs : Runs ps
  holds : ∀ c, holdsC c ps = (holdsC c rs || decide (r.first ≤ c ∧ c ≤ r.last))
  firsts : ∀ q ∈ ps, q.first ≤ r.first
  wide : Wide32 rs → U32 r.first → U32 r.last → Wide32 ps
  len : ps.length ≤ rs.length + 1
  ne : ps ≠ []

theorem holdsC_append (c : Int) (xs ys : List Rn) : holdsC c (xs ++ ys) = (holdsC c xs || holdsC c ys) := by simp [holdsC]
theorem holdsC_one (c : Int) (r : Rn) : holdsC c [r] = decide (r.first ≤ c ∧ c ≤ r.last) := by simp [holdsC]

theorem push_law (rs : List Rn) (r : Rn) (h : Runs rs) (hf : ∀ q ∈ rs, q.first ≤ r.first) (hr : r.first ≤ r.last) : Pushed rs r (pushR rs r) := by
  rcases List.eq_nil_or_concat rs with rfl | ⟨rs', l, rfl⟩
  · rw [pushR_nil]
    refine ⟨⟨List.pairwise_singleton _ _, by simpa using hr⟩, fun c => ?_, by simp, fun _ h1 h2 => by intro x hx; simp at hx; subst hx; exact ⟨h1, h2⟩, by simp, by simp⟩
    rw [holdsC_one]
    simp [holdsC]
  · rw [List.concat_eq_append] at *
    rw [pushR_last]
    obtain ⟨hp, hb⟩ := h
    rw [List.pairwise_append] at hp
    obtain ⟨hp1, _, hp3⟩ := hp
    have hl := hb l (by simp)
    have hlf := hf l (by simp)
    have hp4 : ∀ q ∈ rs', q.last < l.first := fun q hq => hp3 q hq l (by simp)
    split
    · rename_i hc
      obtain ⟨mx, hmx⟩ : ∃ mx, (if l.last < r.last then r.last else l.last) = mx := ⟨_, rfl⟩
      rw [hmx]
      have hm : l.last ≤ mx ∧ r.last ≤ mx ∧ (mx = l.last ∨ mx = r.last) := by
        by_cases hlt : l.last < r.last
        · rw [if_pos hlt] at hmx; omega
        · rw [if_neg hlt] at hmx; omega
      refine ⟨⟨?_, ?_⟩, fun c => ?_, ?_, ?_, by simp, by simp⟩
      · rw [List.pairwise_append]
        refine ⟨hp1, List.pairwise_singleton _ _, fun q hq p hp => ?_⟩
        simp at hp
        subst hp
        exact hp4 q hq
      · intro q hq
        simp at hq
        rcases hq with hq | rfl
        · exact hb q (by simp [hq])
        · dsimp only; omega
      · rw [holdsC_append, holdsC_append, holdsC_one, holdsC_one, Bool.or_assoc]
        congr 1
        rw [← Bool.decide_or]
        refine decide_eq_decide.2 ?_
        dsimp only
        omega
      · intro q hq
        simp at hq
        rcases hq with hq | rfl
        · exact hf q (by simp [hq])
        · exact hlf
      · intro hw h1 h2 q hq
        simp at hq
        rcases hq with hq | rfl
        · exact hw q (by simp [hq])
        · have hwl := hw l (by simp)
          refine ⟨hwl.1, ?_⟩
          rcases hm.2.2 with e | e
          · dsimp only; rw [e]; exact hwl.2
          · dsimp only; rw [e]; exact h2
    · rename_i hc
      refine ⟨⟨?_, ?_⟩, fun c => ?_, ?_, ?_, by simp, by simp⟩
      · rw [List.pairwise_append]
        refine ⟨?_, List.pairwise_singleton _ _, fun q hq p hp => ?_⟩
        · rw [List.pairwise_append]
          exact ⟨hp1, List.pairwise_singleton _ _, hp3⟩
        · simp at hp hq
          subst hp
          rcases hq with hq | rfl
          · have := hp4 q hq; omega
          · omega
      · intro q hq
        simp at hq
        rcases hq with hq | rfl | rfl
        · exact hb q (by simp [hq])
        · exact hl
        · exact hr
      · rw [holdsC_append, holdsC_one]
      · intro q hq
        simp at hq
        rcases hq with hq | rfl | rfl
        · exact hf q (by simp [hq])
        · exact hlf
        · exact Int.le_refl _
      · intro hw h1 h2 q hq
        simp at hq
        rcases hq with hq | rfl | rfl
        · exact hw q (by simp [hq])
        · exact hw _ (by simp)
        · exact ⟨h1, h2⟩

/-- One span taken up. -/
def takeUp (R : Int → List Rn) (s : Sn) : Int → List Rn := fun k => if s.first ≤ s.last ∧ k = s.site then pushR (R k) ⟨s.first, s.last⟩ else R k
def runsOf (ys : List Sn) : Int → List Rn := ys.foldl takeUp (fun _ => [])
theorem runsOf_snoc (ys : List Sn) (s : Sn) : runsOf (ys ++ [s]) = takeUp (runsOf ys) s := by simp [runsOf]

structure RunsAt (ys : List Sn) (k : Int) : Prop where
  runs : Runs (runsOf ys k)
  holds : ∀ c, holdsC c (runsOf ys k) = true ↔ ∃ s ∈ ys, s.site = k ∧ s.first ≤ c ∧ c ≤ s.last
  firsts : ∀ q ∈ runsOf ys k, ∃ s ∈ ys, s.site = k ∧ q.first ≤ s.first
  wide : (∀ s ∈ ys, U32 s.first ∧ U32 s.last) → Wide32 (runsOf ys k)
  len : (runsOf ys k).length ≤ ys.length

theorem runsAt (ys : List Sn) (h : Ordered ys) (k : Int) : RunsAt ys k := by
  obtain ⟨zs, rfl⟩ : ∃ zs, ys = zs.reverse := ⟨ys.reverse, by simp⟩
  induction zs with
  | nil => exact ⟨⟨List.Pairwise.nil, by simp [runsOf]⟩, by simp [runsOf, holdsC], by simp [runsOf], by intro _; simp [runsOf, Wide32], by simp [runsOf]⟩
  | cons s zs ih =>
    rw [List.reverse_cons] at *
    unfold Ordered at h
    rw [List.pairwise_append] at h
    obtain ⟨h1, _, h3⟩ := h
    have ih := ih h1
    generalize zs.reverse = ys at *
    have hord : ∀ y ∈ ys, y.site = s.site → y.first ≤ s.first := fun y hy e => by
      have := h3 y hy s (by simp)
      rw [ltS] at this
      simp at this
      have := this.2 e.symm
      omega
    have hE : runsOf (ys ++ [s]) k = if s.first ≤ s.last ∧ k = s.site then pushR (runsOf ys k) ⟨s.first, s.last⟩ else runsOf ys k := by rw [runsOf_snoc]; rfl
    by_cases hc : s.first ≤ s.last ∧ k = s.site
    · rw [if_pos hc] at hE
      have hP := push_law (runsOf ys k) ⟨s.first, s.last⟩ ih.runs (fun q hq => by
        obtain ⟨y, hy, e1, e2⟩ := ih.firsts q hq
        have := hord y hy (e1.trans hc.2)
        dsimp only
        omega) hc.1
      rw [← hE] at hP
      refine ⟨hP.runs, fun c => ?_, fun q hq => ⟨s, by simp, hc.2.symm, hP.firsts q hq⟩, fun hw => hP.wide (ih.wide fun y hy => hw y (by simp [hy])) (hw s (by simp)).1 (hw s (by simp)).2, ?_⟩
      · rw [hP.holds, Bool.or_eq_true, ih.holds]
        constructor
        · rintro (⟨y, hy, e⟩ | e)
          · exact ⟨y, by simp [hy], e⟩
          · simp at e
            exact ⟨s, by simp, hc.2.symm, e⟩
        · rintro ⟨y, hy, e⟩
          simp at hy
          rcases hy with hy | rfl
          · exact .inl ⟨y, hy, e⟩
          · exact .inr (by simpa using e.2)
      · have := hP.len
        have := ih.len
        simp
        omega
    · rw [if_neg hc] at hE
      refine ⟨hE ▸ ih.runs, fun c => ?_, fun q hq => ?_, fun hw => hE ▸ ih.wide fun y hy => hw y (by simp [hy]), ?_⟩
      · rw [hE, ih.holds]
        constructor
        · rintro ⟨y, hy, e⟩
          exact ⟨y, by simp [hy], e⟩
        · rintro ⟨y, hy, e⟩
          simp at hy
          rcases hy with hy | rfl
          · exact ⟨y, hy, e⟩
          · exact (hc ⟨by omega, e.1.symm⟩).elim
      · rw [hE] at hq
        obtain ⟨y, hy, e⟩ := ih.firsts q hq
        exact ⟨y, by simp [hy], e⟩
      · have := ih.len
        rw [hE]
        simp
        omega

end Go.Proofs.YbulkdyyyFmt
