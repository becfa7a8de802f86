/-
  Seat b6277aF: a rule for a region that draws its order, by an invariant; the append of one source onto a row just made.
-/
import Derived.Test.YbulkdyyyFmtRows
import Derived.WalkKit
import Derived.WalkSpells
import Derived.WalkLawsBesides
import Derived.ProofKit
import Derived.Orders
import Derived.Maps.AppendAt
namespace Go.Proofs.YbulkdyyyFmt
open Go.RowKit

theorem wpAny_inv {P : Program} {md : Region.Mode} {ops : Array Oper} {Q : Exit → Act → World → Prop} (Inv : Array Bool → Act → World → Prop)
    (hstep : ∀ l a w, Inv l a w → (Region.ready md ops l = [] → Q .normal a w) ∧ ∀ i, i ∈ Region.ready md ops l → wpOp P ops Q i (fun a' w' => Inv (l.setIfInBounds i true) a' w') a w) :
    ∀ (fuel : Nat) (l : Array Bool) (a : Act) (w : World), l.toList.count false ≤ fuel → Inv l a w → wpAny P md ops Q fuel l a w := by
  have key : ∀ (l : Array Bool) (i : Nat), i ∈ Region.ready md ops l → ∃ h : i < l.toList.length, l.toList[i] = false := by
    intro l i hi
    have h := (mem_ready.1 hi).1
    rcases Nat.lt_or_ge i l.size with hlt | hge
    · exact ⟨by simpa using hlt, by simpa [Array.getD, hlt] using h⟩
    · simp [Array.getD, Nat.not_lt.2 hge] at h
  intro fuel
  induction fuel with
  | zero =>
    intro l a w hc hI
    have hr : Region.ready md ops l = [] := by
      cases hr : Region.ready md ops l with
      | nil => rfl
      | cons i rest =>
        obtain ⟨hlt, hf⟩ := key l i (by rw [hr]; simp)
        have : 0 < l.toList.count false := List.count_pos_iff.2 (by rw [← hf]; exact List.getElem_mem hlt)
        omega
    exact ⟨hr, (hstep l a w hI).1 hr⟩
  | succ fuel ih =>
    intro l a w hc hI
    refine ⟨(hstep l a w hI).1, fun i hi => wpOp_mono (fun a' w' h => ih _ _ _ ?_ h) ((hstep l a w hI).2 i hi)⟩
    obtain ⟨hlt, hf⟩ := key l i hi
    have hp : 0 < l.toList.count false := List.count_pos_iff.2 (by rw [← hf]; exact List.getElem_mem hlt)
    rw [Array.toList_setIfInBounds, List.count_set hlt, hf]
    simp
    simp at hc hp
    omega

theorem wpOp_value {P : Program} {ops : Array Oper} {Q : Exit → Act → World → Prop} {i : Nat} {K : Act → World → Prop} {a : Act} {w w' : World} {o : Oper} {v : Value} (ho : ops[i]? = some o) (hg : o.guard = none)
    (hr : (execOp a.eval o).run P w = .ok (.value v) w') (hK : K (a.put o.dst v) w') : wpOp P ops Q i K a w := by
  unfold wpOp
  simp only [ho]
  have hw : Region.wanted o (yielded ops a.tmps) = true := by simp [Region.wanted, hg]
  rw [if_pos hw]
  left
  unfold Oper.wp
  rw [hr]
  exact hK

/-- What is known of a slice that is appended: its cells. -/
def Src (w : World) (a : Option Addr) (n c : Nat) (news : List Value) : Prop :=
  news.length = n ∧ (∀ u ∈ news, u.oneCell' = true) ∧ n ≤ 2000000 ∧ ((a = none ∧ n = 0 ∧ c = 0) ∨ ∃ x, a = some x ∧ ∀ j u, news[j]? = some u → w.cell? (x.add j) = some u)

theorem Src.below {w w' : World} {B : Nat} {a : Option Addr} {n c : Nat} {news : List Value} (h : Src w a n c news) (hb : Below B w w') (hB : w.heap.size ≤ B) : Src w' a n c news := by
  obtain ⟨h1, h2, h3, h4⟩ := h
  refine ⟨h1, h2, h3, ?_⟩
  rcases h4 with h4 | ⟨x, hx, hc⟩
  · exact .inl h4
  · exact .inr ⟨x, hx, fun j u hu => by
      have h := hc j u hu
      rw [hb.cell (Nat.lt_of_lt_of_le (World.block_lt_of_cell? _ _ h) hB)]; exact h⟩

/-- 'append(make([]T, 0, 65), src...)': the row stays where it has room; else a new one. -/
theorem append_src {P : Program} {w : World} {B : Nat} {t ty e : TypeId} {i : TypeInfo} {z : Value} {bytes : Nat} (ht : P.underlying t = some (.slice e)) (hi : P.info? e = some i) (hz : i.zero = some z)
    (hsize : i.size = 1) (hby : i.bytes = bytes) (hbb : bytes ≤ 8) (hzs : z.cells.size = 1) {g : Nat} (hown : w.ownsRow B e 1 (.slice (some ⟨g, 0, none⟩) 0 65) 0 [])
    {a : Option Addr} {n c : Nat} {news : List Value} (hs : Src w a n c news) (hB : B ≤ w.heap.size) :
    ∃ g' cap w', (Builtin.append_ #[t, t] ty #[.slice (some ⟨g, 0, none⟩) 0 65, .slice a n c]).run P w = .ok (.slice (some ⟨g', 0, none⟩) n cap) w' ∧
      w'.ownsRow B e 1 (.slice (some ⟨g', 0, none⟩) n cap) n news ∧ w.grownBy w' (some g) ∧ (g' = g ∨ g' = w.heap.size) ∧ (n ≤ 65 → cap = 65) := by
  obtain ⟨h1, h2, h3, h4⟩ := hs
  rcases h4 with ⟨rfl, rfl, rfl⟩ | ⟨x, rfl, hc⟩
  · obtain rfl : news = [] := List.eq_nil_of_length_eq_zero h1
    exact ⟨g, 65, w, run_append_owned_none w B t ty e i 1 ht hi _ 0 [] hown, hown, World.grownBy.refl _ _, .inl rfl, fun _ => rfl⟩
  · by_cases hn : n ≤ 65
    · obtain ⟨w', hr, ho, hg⟩ := run_append_fits (P := P) w B t ty e i 1 ht hi hsize g 0 65 [] hown x n c news (by simpa using h1) hc h2 (by omega)
      simp only [Nat.zero_add, List.nil_append] at hr ho
      exact ⟨g, 65, w', hr, ho, hg, .inl rfl, fun _ => rfl⟩
    · obtain ⟨v', w', hr, ho, hg, hnil, hat⟩ := run_append_own_at (P := P) w B t ty e i z 1 bytes ht hi hz hsize hby hzs (by omega) _ 0 [] hown x n c news (by simpa using h1) hc h2 (by unfold maxLen; omega) (by
        have : (0 + n) * bytes ≤ 2000000 * 8 := Nat.mul_le_mul (by omega) hbb
        omega) hB
      simp only [Nat.zero_add, List.nil_append] at ho
      rcases ho.2 with ⟨_, h0⟩ | ⟨g', cap, cur, rfl, hrest⟩
      · omega
      · refine ⟨g', cap, w', hr, ho, hg, ?_, fun h => absurd h hn⟩
        simpa [Value.ownBlock] using hat

end Go.Proofs.YbulkdyyyFmt
