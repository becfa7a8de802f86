/-
  The proof of 'Rows.LawS6277AWholeSaid'.
-/
import Derived.Test.YbulkdyyyHead
import Derived.Test.YbulkdyyyRows
import Derived.WalkKit
import Derived.ProofKit
import Derived.OpenShut
import Derived.ShutString
import Derived.ChangeOld
import Derived.Below
import Derived.SizedLaws
import Derived.Deep.SlicePairs
namespace Go.Proofs.Ybulkdyyy.lawS6277AWhole
open Go.ChangeShapes Go.WideShapes Go.ChangeAt Go.RowKit Go.Deep
set_option linter.unusedVariables false

theorem own : ownKnob Yba.prog.godebug = none := by kernel_rfl
theorem laidOut : laidOutB Yba.prog = true := by kernel_rfl
theorem cells25 : Yba.prog.cellsOf 25 = 2 := by kernel_rfl
theorem cells23 : Yba.prog.cellsOf 23 = 1 := by kernel_rfl
theorem cells4 : Yba.prog.cellsOf 4 = 1 := by kernel_rfl
theorem cells3 : Yba.prog.cellsOf 3 = 1 := by kernel_rfl
theorem bytes25 : Yba.prog.bytesOf 25 = 32 := by kernel_rfl
theorem bytes3 : Yba.prog.bytesOf 3 = 8 := by kernel_rfl

/-- A slice of numbers that came in: nil, or a row of cells that hold the numbers zs. -/
def Pre (w : World) (a : Option Addr) (n c : Nat) (zs : List Int) : Prop :=
  zs.length = n ∧ ((a = none ∧ n = 0 ∧ c = 0) ∨ ∃ x, a = some x ∧ ∀ j u, (zs.map (Value.int .i64))[j]? = some u → w.cell? (x.add j) = some u)

theorem Pre.src {w : World} {a : Option Addr} {n c : Nat} {zs : List Int} (h : Pre w a n c zs) (hn : n ≤ 2000000) : Src w a n c (zs.map (Value.int .i64)) :=
  ⟨by simpa using h.1, ints_oneCell _ _, hn, h.2⟩

theorem walk {a0 sa wa : Option Addr} {n0 k0 sn sc wn wc : Nat} {zs ys : List Int} {w : World} (vn : Nat → Nat) (h0 : (n0 : Int) ≤ 140737488355328) (h1 : (sn : Int) ≤ 140737488355328) (h2 : (wn : Int) ≤ 140737488355328)
    (hin : ∀ k, k < n0 → KidRaw w a0 k (vn k)) (hvn : ∀ k, k < n0 → (vn k : Int) ≤ 140737488355328) (hS : Pre w sa sn sc zs) (hW : Pre w wa wn wc ys) :
    Calls Yba.prog 3 #[.slice a0 n0 k0, .slice sa sn sc, .slice wa wn wc] w fun e w' => e = .returned (.bool true) ∧ Below w.heap.size w w' := by
  by_cases hbig : (1048576 : Int) < (n0 : Int) + (sn : Int) + (wn : Int)
  · exact law_big h0 h1 h2 hbig
  · exact law_any vn (by omega) hin hvn (hS.src (by omega)) (hW.src (by omega))

section
variable {H : Type} {enc : TypeId × Value → H} {w : World} {base : Nat} {spare : Nat → Bool} {held : Bool}

theorem weightsAll_mem {P : Program} {e : TypeId} : ∀ {elems : List (DataW H)} {d : DataW H}, d ∈ elems → ∀ n ∈ d.weights P e, n ∈ DataW.weightsAll P e elems
  | x :: r, d, hd, n, hn => by
    simp only [DataW.weightsAll, List.mem_append]
    rcases List.mem_cons.1 hd with rfl | hd
    · exact .inl hn
    · exact .inr (weightsAll_mem hd n hn)

theorem ints_pre {fuel : Nat} {v : Value} {d : DataW H} {pl : List MemPlace} (h : DataW.trod enc Yba.prog w base spare held fuel 23 [v] = some (d, pl)) (hw : ∀ n ∈ d.weights Yba.prog 23, n ≤ reachBytes) :
    ∃ a n c zs, v = .slice a n c ∧ (n : Int) ≤ 140737488355328 ∧ Pre w a n c zs := by
  rcases open_ints Yba.underlying23 Yba.underlying3 cells3 h with ⟨hcs, _⟩ | ⟨x, l, c, zs, hcs, _, hl, hm, hz, hd, hcell, hwz⟩
  · cases hcs
    exact ⟨none, 0, 0, [], rfl, by omega, rfl, .inl ⟨rfl, rfl, rfl⟩⟩
  · cases hcs
    cases hd
    have hlz : l ≤ zs.length := by rw [hz]; split <;> omega
    have hb := hw ((zs.take l).length * 8 + (zs.drop l).length * 8) (by simp [DataW.weights, Yba.underlying23, bytes3, lits]; omega)
    unfold reachBytes at hb
    simp at hb
    refine ⟨some x, l, c, zs.take l, rfl, by omega, by simp; omega, .inr ⟨x, rfl, fun j u hu => ?_⟩⟩
    have hj : j < l := by
      have := (List.getElem?_eq_some_iff.1 hu).1
      simp at this; omega
    rw [hcell j (by omega)]
    rw [← hu]
    simp [hj, show j < zs.length by omega]

theorem bool_pre {fuel : Nat} {v : Value} {d : DataW H} {pl : List MemPlace} (h : DataW.trod enc Yba.prog w base spare held fuel 4 [v] = some (d, pl)) : ∃ q, v = .bool q := by
  cases fuel with
  | zero => simp [DataW.trod] at h
  | succ n =>
    unfold DataW.trod at h
    rw [Yba.underlying4] at h
    cases v <;> simp at h ⊢

theorem kids_pre {fuel : Nat} {v : Value} {d : DataW H} {pl : List MemPlace} (h : DataW.trod enc Yba.prog w base spare held fuel 22 [v] = some (d, pl)) (hw : ∀ n ∈ d.weights Yba.prog 22, n ≤ reachBytes) :
    ∃ (a : Option Addr) (n c : Nat) (vn : Nat → Nat), v = .slice a n c ∧ (n : Int) ≤ 140737488355328 ∧ (∀ k, k < n → KidRaw w a k (vn k)) ∧ (∀ k, k < n → (vn k : Int) ≤ 140737488355328) := by
  rcases open_slice_pairs Yba.underlying22 Yba.underlying25 cells25 rfl rfl cells23 cells4 h with ⟨hcs, _⟩ | ⟨a, len, cap, m, f, V0, V1, D0, D1, P0, P1, hcs, hb, hl, hm, hmm, hd, hx⟩
  · cases hcs
    exact ⟨none, 0, 0, fun _ => 0, rfl, by omega, fun k hk => by omega, fun k hk => by omega⟩
  · cases hcs
    cases hd
    have hlm : len ≤ m := by rw [hmm]; split <;> omega
    have hbb := hw ((len + (m - len)) * 32) (by simp [DataW.weights, Yba.underlying22, bytes25])
    unfold reachBytes at hbb
    have each : ∀ k, k < len → ∃ n : Nat, KidRaw w (some a) k n ∧ (n : Int) ≤ 140737488355328 := fun k hk => by
      obtain ⟨e0, e1, t0, t1⟩ := hx k (by omega)
      obtain ⟨q, hq⟩ := bool_pre t1
      have hwd : ∀ n ∈ (D0 k).weights Yba.prog 23, n ≤ reachBytes := fun n hn => by
        refine hw n ?_
        have hmem : n ∈ (DataW.agg [D0 k, D1 k]).weights Yba.prog 25 := by simp [DataW.weights, Yba.underlying25, DataW.weightsEach, hn]
        have := weightsAll_mem (P := Yba.prog) (e := 25) (elems := (List.range len).map fun i => .agg [D0 i, D1 i]) (d := .agg [D0 k, D1 k]) (List.mem_map.2 ⟨k, List.mem_range.2 hk, rfl⟩) n hmem
        simp only [DataW.weights, Yba.underlying22, List.mem_cons, List.mem_append]
        exact .inr (.inl this)
      obtain ⟨va, n, vc, vs, hv, hn, hp⟩ := ints_pre t0 hwd
      rw [hv] at e0
      rw [hq] at e1
      obtain ⟨b, o, s⟩ := a
      have hs : s = none := by simpa [Addr.add] using World.cell?_spot (hx 0 (by omega)).1
      subst hs
      rw [Addr.add_lit] at e0 e1
      exact ⟨n, ⟨b, o, va, vc, vs, q, rfl, e0, by simpa [Nat.add_assoc] using e1, hp.1, hp.2⟩, hn⟩
    obtain ⟨vn, hvn⟩ := choose_lt each
    exact ⟨some a, len, cap, vn, rfl, by omega, fun k hk => (hvn k hk).1, fun k hk => (hvn k hk).2⟩
end

set_option maxRecDepth 100000 in
theorem lifted (os : Os) (started : os.Started) (H : Type) (enc : TypeId × Value → H) :
    ReturnsInHanded {} Yba.checked os 3 .any (Rows.lawS6277AWholeSpec.pre6 enc Yba.prog Yba.f3 Rows.lawS6277AWholeRow.domain false) (Rows.lawS6277AWholeSpec.post enc Yba.prog Yba.f3 false true false false) := by
  refine returnsInHanded_of_change_sized (C := Yba.checked) own started (by kernel_rfl) Yba.func3
    (ChangeSpec.witness6 (enc := enc) (C := Yba.checked) false ⟨#[], #[.slice none 0 0, .slice none 0 0, .slice none 0 0], []⟩ 8 (by kernel_rfl) (by kernel_rfl) (by kernel_rfl) (by kernel_rfl)) ?_
  intro W base args ds gs before hval0 hW hcnd hsz _
  have hval : ∀ (j : Nat) t v, Yba.f3.params[j]? = some t → args[j]? = some v → Value.okWide Yba.prog W .any base t v := hval0
  have hW' := hW
  obtain ⟨p, q, hA0, hV, rfl, hfz, hnd⟩ := hW
  have hA : DataW.TrodAll enc Yba.prog W 0 (fun _ => true) true Yba.f3.params.toList args.toList ds p := hA0
  have hsz' : (DataW.weightsEach Yba.prog (Yba.f3.params.toList ++ Rows.lawS6277AWholeSpec.plain.varTypes Yba.prog) (ds ++ gs)).all (· ≤ reachBytes) = true := hsz
  rw [Yba.params3] at hA hval hsz'
  obtain ⟨v0, vs0, d0, ds0, p0, q0, hargs, rfl, rfl, h0, r0⟩ := trodAll_cons hA
  obtain ⟨v1, vs1, d1, ds1, p1, q1, rfl, rfl, rfl, h1, r1⟩ := trodAll_cons r0
  obtain ⟨v2, vs2, d2, ds2, p2, q2, rfl, rfl, rfl, h2, r2⟩ := trodAll_cons r1
  obtain ⟨rfl, rfl, rfl⟩ := trodAll_nil r2
  obtain rfl : args = #[v0, v1, v2] := by cases args; simp_all
  obtain ⟨rfl, rfl⟩ := trodVars_none hV
  have hwt : ∀ (j : Nat) t d, ([22, 23, 23] ++ Rows.lawS6277AWholeSpec.plain.varTypes Yba.prog)[j]? = some t → ([d0, d1, d2] ++ [])[j]? = some d → ∀ n ∈ d.weights Yba.prog t, n ≤ reachBytes := fun j t d ht hd n hn => by
    simpa using List.all_eq_true.1 hsz' n (DataW.weights_mem_each ht hd n hn)
  obtain ⟨a0, n0, k0, rfl⟩ := okWide_slice Yba.underlying22 (hval 0 22 v0 rfl rfl)
  obtain ⟨a1, n1, k1, rfl⟩ := okWide_slice Yba.underlying23 (hval 1 23 v1 rfl rfl)
  obtain ⟨a2, n2, k2, rfl⟩ := okWide_slice Yba.underlying23 (hval 2 23 v2 rfl rfl)
  have c0 := h0
  have c1 := h1
  have c2 := h2
  have lt0 : ∀ x ∈ p0, x.block < W.heap.size := by obtain ⟨m, hm⟩ := c0; exact DataW.trod_lt m _ _ _ hm
  have lt1 : ∀ x ∈ p1, x.block < W.heap.size := by obtain ⟨m, hm⟩ := c1; exact DataW.trod_lt m _ _ _ hm
  have lt2 : ∀ x ∈ p2, x.block < W.heap.size := by obtain ⟨m, hm⟩ := c2; exact DataW.trod_lt m _ _ _ hm
  obtain ⟨f0, g0⟩ := h0
  obtain ⟨f1, g1⟩ := h1
  obtain ⟨f2, g2⟩ := h2
  obtain ⟨_, _, _, vn, e0, hn0, hin, hvn⟩ := kids_pre (v := .slice a0 n0 k0) (by simpa [Value.cells] using g0) (hwt 0 22 d0 rfl rfl)
  obtain ⟨_, _, _, zs, e1, hn1, hp1⟩ := ints_pre (v := .slice a1 n1 k1) (by simpa [Value.cells] using g1) (hwt 1 23 d1 rfl rfl)
  obtain ⟨_, _, _, ys, e2, hn2, hp2⟩ := ints_pre (v := .slice a2 n2 k2) (by simpa [Value.cells] using g2) (hwt 2 23 d2 rfl rfl)
  cases e0
  cases e1
  cases e2
  clear hA0 hval0
  refine (walk vn hn0 hn1 hn2 hin hvn hp1 hp2).mono fun e W' ⟨he, bel⟩ => ?_
  subst he
  exact ⟨_, rfl, _, _, _, [], _, [], hW', trodAll_mk1 (shut_bool Yba.underlying4 _), (trodAll_cons_mk (Below.trod laidOut (by kernel_rfl) (of_decide_eq_true (by kernel_rfl)) c0 bel lt0) (trodAll_cons_mk (Below.trod laidOut (by kernel_rfl) (of_decide_eq_true (by kernel_rfl)) c1 bel lt1) (trodAll_cons_mk (Below.trod laidOut (by kernel_rfl) (of_decide_eq_true (by kernel_rfl)) c2 bel lt2) trodAll_mk0))), rfl, bel.frame _, fun h => by cases h⟩

theorem over : Rows.lawS6277AWholeRow.holds Yba.pinned (OpenSpec.ofChange Rows.lawS6277AWholeSpec) :=
  OpenClaim.holds_of_wide 3 Yba.f3 rfl rfl rfl rfl rfl rfl rfl ⟨rfl, rfl, rfl, rfl, rfl⟩ rfl rfl rfl rfl rfl (by kernel_rfl) Yba.func3 (by kernel_rfl)
    (of_decide_eq_true (by kernel_rfl)) (by unfold Func.isWrapper; first | (rw [if_pos (by decide +kernel)]; kernel_rfl) | (rw [if_neg (by decide +kernel)]; exact ⟨rfl, rfl⟩))
    (fun os started H enc _ => lifted os started H enc)

/-- THE STATEMENT -/
theorem proved : Rows.LawS6277AWholeSaid := over
end Go.Proofs.Ybulkdyyy.lawS6277AWhole
