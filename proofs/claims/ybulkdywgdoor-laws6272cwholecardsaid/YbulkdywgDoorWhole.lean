/-
  Seat b6272aD: the proof of the row 'LawS6272CWhole' and of its tied card.
-/
import Derived.Test.YbulkdywgDoorRead
import Derived.Test.YbulkdywgDoorCards
import Derived.Test.YbulkdywgDoorTie
import Derived.OpenVars
import Derived.ChangeVars
import Derived.SizedLaws
import Derived.SevenTiedAt
import Derived.Stop.Joined
namespace Go.Proofs.YbulkdywgDoor
open Go.ChangeShapes Go.WideShapes Go.ChangeAt Go.RowKit Go.Deep
set_option linter.unusedVariables false

theorem own : ownKnob Ybad.prog.godebug = none := by kernel_rfl

set_option maxRecDepth 100000 in
theorem lifted (os : Os) (started : os.Started) (H : Type) (enc : TypeId × Value → H) :
    ReturnsInHanded {} Ybad.checked os 3 .any (fun w args => (Rows.lawS6272CWholeSpec.pre enc Ybad.prog Ybad.f3 [] false w args ∧ laidMetH Ybad.prog Rows.lawS6272CWholeRow.laid w) ∧ sizedMet enc Ybad.prog Ybad.f3 (OpenSpec.ofChange Rows.lawS6272CWholeSpec) false w args)
      (Rows.lawS6272CWholeSpec.post enc Ybad.prog Ybad.f3 false true false false) := by
  refine returnsInHanded_of_change_and (C := Ybad.checked) (X := fun w _ => laidMetH Ybad.prog Rows.lawS6272CWholeRow.laid w) (fun _ _ _ hh h => h.of_heap hh) own started (by kernel_rfl) Ybad.func3
    (ChangeSpec.witness_shaped (enc := enc) (C := Ybad.checked) (os := os) (X := fun w _ => laidMetH Ybad.prog Rows.lawS6272CWholeRow.laid w) false (World.doorLaid Ybad.prog 400 os)
      #[.agg #[.int .u8 0, .int .i32 0, .int .u32 0, .int .i64 0, .int .u32 0, .int .u32 0, .int .i64 0, .int .i64 0, .int .i64 0, .string ⟨#[]⟩, .string ⟨#[]⟩, .int .u8 0, .int .u64 0, .int .i32 0, .bool false, .int .i64 0, .int .i64 0], .slice none 0 0, .slice none 0 0, .slice none 0 0, .agg #[.int .u8 0, .int .i64 0, .int .i64 0, .int .i64 0, .bool false, .bool false]] 8 rfl (World.shaped_of_RefB (by kernel_rfl) (by kernel_rfl)) (by kernel_rfl) (by kernel_rfl) (by kernel_rfl)
      (laidMetH_of_parts3 (fuel := 8) (laidMet_of_run' 8 (by kernel_rfl) (by kernel_rfl)) (by kernel_rfl) (by kernel_rfl))) ?_
  intro W base args ds gs before hval0 hW _ hsz hL _
  have hval : ∀ (j : Nat) t v, Ybad.f3.params[j]? = some t → args[j]? = some v → Value.okWide Ybad.prog W .any base t v := hval0
  have hW' := hW
  obtain ⟨p, q, hA0, hV0, rfl, hfz, hnd⟩ := hW
  have hA : DataW.TrodAll enc Ybad.prog W 0 (fun _ => true) true Ybad.f3.params.toList args.toList ds p := hA0
  have hV : DataW.TrodVars enc Ybad.prog W (fun _ => true) Rows.lawS6272CWholeSpec.vars gs q := hV0
  have hsz' : (DataW.weightsEach Ybad.prog (Ybad.f3.params.toList ++ Rows.lawS6272CWholeSpec.plain.varTypes Ybad.prog) (ds ++ gs)).all (· ≤ reachBytes) = true := hsz
  rw [Ybad.params3] at hA hval hsz'
  obtain ⟨v0, vs0, d0, ds0, p0, q0, hargs, rfl, rfl, h0, r0⟩ := trodAll_cons hA
  obtain ⟨v1, vs1, d1, ds1, p1, q1, rfl, rfl, rfl, h1, r1⟩ := trodAll_cons r0
  obtain ⟨v2, vs2, d2, ds2, p2, q2, rfl, rfl, rfl, h2, r2⟩ := trodAll_cons r1
  obtain ⟨v3, vs3, d3, ds3, p3, q3, rfl, rfl, rfl, h3, r3⟩ := trodAll_cons r2
  obtain ⟨v4, vs4, d4, ds4, p4, q4, rfl, rfl, rfl, h4, r4⟩ := trodAll_cons r3
  obtain ⟨rfl, rfl, rfl⟩ := trodAll_nil r4
  obtain rfl : args = #[v0, v1, v2, v3, v4] := by cases args; simp_all
  obtain ⟨g1, hgs⟩ : ∃ g1, gs = [g1] := by
    obtain ⟨_, _, _, _, d, _, e, _⟩ := trodVars_one hV
    exact ⟨d, e⟩
  subst hgs
  have hwt : ∀ (j : Nat) t d, ([25, 26, 27, 27, 29] ++ Rows.lawS6272CWholeSpec.plain.varTypes Ybad.prog)[j]? = some t → ([d0, d1, d2, d3, d4] ++ [g1])[j]? = some d → ∀ n ∈ d.weights Ybad.prog t, n ≤ reachBytes := fun j t d ht hd n hn => by
    simpa using List.all_eq_true.1 hsz' n (DataW.weights_mem_each ht hd n hn)
  obtain ⟨a1, n1, k1, rfl⟩ := okWide_slice Ybad.underlying26 (hval 1 26 v1 rfl rfl)
  obtain ⟨a2, n2, k2, rfl⟩ := okWide_slice Ybad.underlying27 (hval 2 27 v2 rfl rfl)
  obtain ⟨a3, n3, k3, rfl⟩ := okWide_slice Ybad.underlying27 (hval 3 27 v3 rfl rfl)
  obtain ⟨m, x0, o0, y0, key0, kp, rfl, mo, mq, hq, hk0, hkp, hkey⟩ := msg_pre (hval 0 25 v0 rfl rfl) h0
  obtain ⟨bt, now, told, typ, cmp, fr, rfl, hbt⟩ := st_pre (hval 4 29 v4 rfl rfl) h4
  obtain ⟨hkin, hpos⟩ := kinds_of_laid hL
  have c0 := h0
  have c1 := h1
  have c2 := h2
  have c3 := h3
  have c4 := h4
  have lt0 : ∀ x ∈ p0, x.block < W.heap.size := by obtain ⟨m, hm⟩ := c0; exact DataW.trod_lt m _ _ _ hm
  have lt1 : ∀ x ∈ p1, x.block < W.heap.size := by obtain ⟨m, hm⟩ := c1; exact DataW.trod_lt m _ _ _ hm
  have lt2 : ∀ x ∈ p2, x.block < W.heap.size := by obtain ⟨m, hm⟩ := c2; exact DataW.trod_lt m _ _ _ hm
  have lt3 : ∀ x ∈ p3, x.block < W.heap.size := by obtain ⟨m, hm⟩ := c3; exact DataW.trod_lt m _ _ _ hm
  have lt4 : ∀ x ∈ p4, x.block < W.heap.size := by obtain ⟨m, hm⟩ := c4; exact DataW.trod_lt m _ _ _ hm
  obtain ⟨f1, i1⟩ := h1
  obtain ⟨f2, i2⟩ := h2
  obtain ⟨f3, i3⟩ := h3
  obtain ⟨_, _, _, hs, e1, hn1, hI⟩ := it_pre (v := .slice a1 n1 k1) (by simpa [Value.cells] using i1) (hwt 1 26 d1 rfl rfl)
  obtain ⟨_, _, _, ys, e2, hn2, hY⟩ := rz_pre (v := .slice a2 n2 k2) (by simpa [Value.cells] using i2) (hwt 2 27 d2 rfl rfl)
  obtain ⟨_, _, _, zs, e3, hn3, hZ⟩ := rz_pre (v := .slice a3 n3 k3) (by simpa [Value.cells] using i3) (hwt 3 27 d3 rfl rfl)
  cases e1
  cases e2
  cases e3
  clear hA0 hval0
  refine (law_any (s := { held := itemsOf hs, res := resOf ys, rv := rvOf zs, now := now, told := told, typ := typ, cmp := cmp, fresh := fr }) hn1 hn2 hn3 hI hY hZ rfl rfl rfl mo mq hq hkin hpos hk0 hkp hkey hbt).mono fun e W' ⟨he, bel⟩ => ?_
  subst he
  exact ⟨_, rfl, _, _, _, [], _, _, hW', trodAll_mk1 (shut_bool Ybad.underlying4 _), (trodAll_cons_mk (Below.trod laid (by kernel_rfl) (of_decide_eq_true (by kernel_rfl)) c0 bel lt0) (trodAll_cons_mk (Below.trod laid (by kernel_rfl) (of_decide_eq_true (by kernel_rfl)) c1 bel lt1) (trodAll_cons_mk (Below.trod laid (by kernel_rfl) (of_decide_eq_true (by kernel_rfl)) c2 bel lt2) (trodAll_cons_mk (Below.trod laid (by kernel_rfl) (of_decide_eq_true (by kernel_rfl)) c3 bel lt3) (trodAll_cons_mk (Below.trod laid (by kernel_rfl) (of_decide_eq_true (by kernel_rfl)) c4 bel lt4) trodAll_mk0))))), Below.trodVars laid bel (by kernel_rfl) hV, bel.frame _, fun h => by cases h⟩

theorem row_holds : Rows.LawS6272CWholeSaid :=
  OpenClaim.holds_of_wide 3 Ybad.f3 rfl rfl rfl rfl rfl rfl rfl ⟨rfl, rfl, rfl, rfl, rfl⟩ rfl rfl rfl rfl rfl (by kernel_rfl) Ybad.func3 (by kernel_rfl)
    (of_decide_eq_true (by kernel_rfl)) (by unfold Func.isWrapper; first | (rw [if_pos (by decide +kernel)]; kernel_rfl) | (rw [if_neg (by decide +kernel)]; exact ⟨rfl, rfl⟩))
    (fun os started H enc _ => lifted os started H enc)

/-- THE STATEMENT -/
theorem card_holds : Rows.LawS6272CWholeCardSaid :=
  Claim7.holds_tied_plain_at .later [] [.data] true (true, "6dbfa2652a2a3358925c1a4ee6d02e41439194c5dd8b06bddcfa48ef15fbab27") false
    row_holds (fun _ h => by cases h) (by kernel_rfl) (fun _ h => by cases h) lawS6272CWhole_row_tie rfl ⟨rfl, rfl⟩ (by kernel_rfl) rfl
    (fun f fn hf hfn => by
      obtain rfl : f = 3 := Option.some.inj ((show Ybad.prog.funcNamed Rows.lawS6272CWholeRow.func = some 3 by kernel_rfl).symm.trans hf) |>.symm
      obtain rfl : fn = Ybad.f3 := (Option.some.inj (Ybad.func3.symm.trans hfn)).symm
      exact ⟨by kernel_rfl, fun j t ht => by
        rw [Ybad.params3] at ht
        have hm : t ∈ [25, 26, 27, 27, 29] := by simpa using Array.mem_of_getElem? ht
        have hall : ([25, 26, 27, 27, 29].all fun u => !Ybad.prog.wantsStandIn u) = true := by kernel_rfl
        exact (show Ybad.prog.wantsStandIn t = false by simpa using List.all_eq_true.1 hall t hm)⟩)
    (by kernel_rfl)
end Go.Proofs.YbulkdywgDoor
