/-
  Seat b6277a: node.last and newInner.
-/
import Derived.Test.YbulkdyyyLit
import Derived.BigQuiet
import Derived.Deep.QuietTactic
import Derived.Deep.RegionHeld3
import Derived.Deep.AppendLies
import Derived.Deep.RegionLaw
namespace Go.Proofs.Ybulkdyyy
open Go.RowKit
set_option linter.unusedVariables false

theorem below_drewN {B : Nat} {a w : World} (h : Below B a w) (q : Nat) : Below B a (w.drewN q) := ⟨h.os, h.tape, h.output, h.size, h.block⟩

/-- A child: a leaf whose last value is x, or an inner node over one leaf whose last value is x. -/
def KidOk (w : World) (b : Nat) (x : Int) : Prop :=
  (w.cell? ⟨b, 1, none⟩ = some (.slice none 0 0) ∧ ∃ gv m c, w.cell? ⟨b, 0, none⟩ = some (.slice (some ⟨gv, 0, none⟩) (m + 1) c) ∧ m ≤ 2000000 ∧ w.cell? ⟨gv, m, none⟩ = some (.int .i64 x)) ∨
  (∃ ka kn kc gl, w.cell? ⟨b, 1, none⟩ = some (.slice (some ka) kn kc) ∧ w.cell? ⟨b, 4, none⟩ = some (.slice (some ⟨gl, 0, none⟩) 1 1) ∧ w.cell? ⟨gl, 0, none⟩ = some (.int .i64 x))

theorem KidOk.below {w w' : World} {B b : Nat} {x : Int} (h : KidOk w b x) (hb : Below B w w') (hB : w.heap.size ≤ B) : KidOk w' b x := by
  have hc : ∀ {p : Addr} {v : Value}, w.cell? p = some v → w'.cell? p = some v := fun {p v} h => by
    rw [hb.cell (Nat.lt_of_lt_of_le (World.block_lt_of_cell? _ _ h) hB)]; exact h
  rcases h with ⟨h1, gv, m, c, h2, h3, h4⟩ | ⟨ka, kn, kc, gl, h1, h2, h3⟩
  · exact .inl ⟨hc h1, gv, m, c, hc h2, h3, hc h4⟩
  · exact .inr ⟨ka, kn, kc, gl, hc h1, hc h2, hc h3⟩

set_option maxHeartbeats 1000000 in
theorem last_any (b : Nat) (x : Int) (w : World) (h : KidOk w b x) :
    Calls Yba.prog 9 #[.pointer (some ⟨b, 0, none⟩)] w fun e w' => e = .returned (.int .i64 x) ∧ ∃ q, w' = w.drewN q := by
  have hnil := fun (w : World) a n c => Lib.run_eql_slice_nil (P := Yba.prog) w 26 28 a n c 0 0 Yba.underlying26
  rcases h with ⟨h1, gv, m, c, h2, h3, h4⟩ | ⟨ka, kn, kc, gl, h1, h2, h3⟩
  · go_enter Yba.func9, Yba.ntmps9
    go_wp2
    go_quiet (fail)
    go_wp2
    go_ret
    exact ⟨rfl, _, rfl⟩
  · go_enter Yba.func9, Yba.ntmps9
    go_wp2
    go_quiet (fail)
    go_wp2
    go_ret
    exact ⟨rfl, _, rfl⟩

/-- 'append(xs, u)', one element onto a row of the call's own, as a step of a region that draws. -/
theorem step_append_one {P : Program} {w : World} {ops : Array Oper} {o : Oper} {a : Act} {K : Act → World → Prop} {Q : Exit → Act → World → Prop} {E : Prop} (hgd : o.guard = none) (s x : Operand) (t : TypeId)
    (ho : o.op = .call { callee := .builtin .append, args := #[s, x], argTypes := #[t, t] })
    (B : Nat) (e : TypeId) (i : TypeInfo) (z : Value) (ht : P.underlying t = some (.slice e)) (hi : P.info? e = some i) (hz : i.zero = some z) (hsize : i.size = 1) (hby : i.bytes = 8) (hzs : z.cells.size = 1)
    (g k cap : Nat) (xs : List Value) (hs : a.eval s = .slice (some ⟨g, 0, none⟩) k cap) (hown : w.ownsRow B e 1 (.slice (some ⟨g, 0, none⟩) k cap) k xs) (hcap : k ≤ 65 → cap = 65)
    (gb : Nat) (u : Value) (hx : a.eval x = .slice (some ⟨gb, 0, none⟩) 1 1) (hu : w.cell? ⟨gb, 0, none⟩ = some u) (h1 : u.oneCell' = true) (hk : k ≤ 2000000) (hB : B ≤ w.heap.size)
    (h : ∀ g' cap' w', w'.ownsRow B e 1 (.slice (some ⟨g', 0, none⟩) (k + 1) cap') (k + 1) (xs ++ [u]) → w.grownBy w' (some g) → (g' = g ∨ g' = w.heap.size) → (k + 1 ≤ 65 → cap' = 65) → K (a.put o.dst (.slice (some ⟨g', 0, none⟩) (k + 1) cap')) w') :
    if Region.wanted o (yielded ops a.tmps) = true then Oper.wp P o a w K Q else E := by
  have hw : Region.wanted o (yielded ops a.tmps) = true := by simp [Region.wanted, hgd]
  rw [if_pos hw]
  have hnews : ∀ j v, [u][j]? = some v → w.cell? ((⟨gb, 0, none⟩ : Addr).add j) = some v := by
    intro j v hj
    match j, hj with
    | 0, hj => simp at hj; subst hj; simpa [Addr.add] using hu
  have key : ∃ g' cap' w', (Builtin.append_ #[t, t] o.type #[.slice (some ⟨g, 0, none⟩) k cap, .slice (some ⟨gb, 0, none⟩) 1 1]).run P w = .ok (.slice (some ⟨g', 0, none⟩) (k + 1) cap') w' ∧
      w'.ownsRow B e 1 (.slice (some ⟨g', 0, none⟩) (k + 1) cap') (k + 1) (xs ++ [u]) ∧ w.grownBy w' (some g) ∧ (g' = g ∨ g' = w.heap.size) ∧ (k + 1 ≤ 65 → cap' = 65) := by
    by_cases hroom : k + 1 ≤ cap
    · obtain ⟨w', hr, h2, h3⟩ := run_append_fits (P := P) w B t o.type e i 1 ht hi hsize g k cap xs hown _ 1 1 [u] rfl hnews (by simpa using h1) hroom
      exact ⟨g, cap, w', hr, h2, h3, .inl rfl, fun h => hcap (by omega)⟩
    · obtain ⟨v', w', hr, h2, h3, _, hat⟩ := run_append_own_at (P := P) w B t o.type e i z 1 8 ht hi hz hsize hby hzs (by omega) _ k xs hown _ 1 1 [u] rfl hnews (by simpa using h1) (by unfold maxLen; omega) (by omega) hB
      rcases h2.2 with ⟨_, h0⟩ | ⟨g', cap', cur, rfl, hrest⟩
      · omega
      · exact ⟨g', cap', w', hr, h2, h3, by simpa [Value.ownBlock] using hat, fun h => by have := hcap (by omega); omega⟩
  obtain ⟨g', cap', w', hr, h2, h3, h4, h5⟩ := key
  unfold Oper.wp
  simp [execOp, ho, resolve, invoke, builtin, hs, hx, hr, Result.andThen]
  exact h g' cap' w' h2 h3 h4 h5

theorem cell5 {w : World} {b : Nat} {v0 v1 v2 v3 v4 : Value} {t : TypeId} (h : w.heap[b]? = some (.cells #[v0, v1, v2, v3, v4] t (0, 0))) : w.cell? ⟨b, 4, none⟩ = some v4 := by rw [cell_of_row w _ _ _ _ _ h]; rfl

/-- A call of 'last', as a step of a region that draws. -/
theorem step_last {w : World} {ops : Array Oper} {o : Oper} {a : Act} {K : Act → World → Prop} {Q : Exit → Act → World → Prop} {E : Prop} (hgd : o.guard = none) (s : Operand)
    (ho : o.op = .call { callee := .value (.func 9), args := #[s], argTypes := #[28] }) (b : Nat) (x : Int) (hs : a.eval s = .pointer (some ⟨b, 0, none⟩)) (hk : KidOk w b x)
    (h : ∀ q, K (a.put o.dst (.int .i64 x)) (w.drewN q)) : if Region.wanted o (yielded ops a.tmps) = true then Oper.wp Yba.prog o a w K Q else E := by
  have hw : Region.wanted o (yielded ops a.tmps) = true := by simp [Region.wanted, hgd]
  rw [if_pos hw]
  have hf : a.eval (.func 9) = .func (.func 9) #[] #[] := rfl
  have hcall : (execOp a.eval o).run Yba.prog w = (callFunc 9 #[.pointer (some ⟨b, 0, none⟩)]).run Yba.prog w := by
    simp [execOp, ho, resolve, invoke, hs, hf, Deferred.ofValue]
  have hgo : (callFunc 9 #[.pointer (some ⟨b, 0, none⟩)]).run Yba.prog w = .ok (.enter 9 #[.pointer (some ⟨b, 0, none⟩)]) w := by kernel_rfl
  unfold Oper.wp
  rw [hcall, hgo]
  simp only [Oper.upon]
  refine (last_any b x w hk).mono ?_
  rintro e w' ⟨rfl, q, rfl⟩
  exact h q

/-- What newInner's node holds when k children have been passed. -/
structure NodeAt (B : Nat) (w0 wr : World) (nb g0 g1 g2 g3 c0 c1 c2 c3 kn sn wn k : Nat) (kv sv wv lv : List Value) : Prop where
  below : Below B w0 wr
  size : B ≤ wr.heap.size
  node : wr.heap[nb]? = some (.cells #[.slice none 0 0, .slice (some ⟨g0, 0, none⟩) kn c0, .slice (some ⟨g1, 0, none⟩) sn c1, .slice (some ⟨g2, 0, none⟩) wn c2, .slice (some ⟨g3, 0, none⟩) k c3] 30 (0, 0))
  base : B ≤ nb
  own0 : wr.ownsRow B 28 1 (.slice (some ⟨g0, 0, none⟩) kn c0) kn kv
  own1 : wr.ownsRow B 3 1 (.slice (some ⟨g1, 0, none⟩) sn c1) sn sv
  own2 : wr.ownsRow B 3 1 (.slice (some ⟨g2, 0, none⟩) wn c2) wn wv
  own3 : wr.ownsRow B 3 1 (.slice (some ⟨g3, 0, none⟩) k c3) k lv
  cap0 : kn ≤ 65 → c0 = 65
  cap1 : sn ≤ 65 → c1 = 65
  cap2 : wn ≤ 65 → c2 = 65
  cap3 : k ≤ 65 → c3 = 65
  ne30 : g3 ≠ g0
  ne31 : g3 ≠ g1
  ne32 : g3 ≠ g2
  nb0 : g0 ≠ nb
  nb1 : g1 ≠ nb
  nb2 : g2 ≠ nb
  nb3 : g3 ≠ nb

theorem ownsRow_drewN {w : World} {base : Nat} {e : TypeId} {size : Nat} {v : Value} {n : Nat} {xs : List Value} (h : w.ownsRow base e size v n xs) (q : Nat) : (w.drewN q).ownsRow base e size v n xs := h

theorem node_step {B : Nat} {w0 wr w4 : World} {nb g0 g1 g2 g3 c0 c1 c2 c3 kn sn wn k g4 c4 q : Nat} {kv sv wv lv lv' : List Value} {X : Obj} (h : NodeAt B w0 wr nb g0 g1 g2 g3 c0 c1 c2 c3 kn sn wn k kv sv wv lv)
    (hg : ((wr.drewN q).alloc X).grownBy w4 (some g3)) (ho : w4.ownsRow B 3 1 (.slice (some ⟨g4, 0, none⟩) (k + 1) c4) (k + 1) lv') (hat : g4 = g3 ∨ g4 = wr.heap.size + 1) (hc : k + 1 ≤ 65 → c4 = 65) :
    NodeAt B w0 (w4.setCell ⟨nb, 4, none⟩ (.slice (some ⟨g4, 0, none⟩) (k + 1) c4)) nb g0 g1 g2 g4 c0 c1 c2 c4 kn sn wn (k + 1) kv sv wv lv' := by
  have l0 : g0 < wr.heap.size := (h.own0.lt _ rfl).2
  have l1 : g1 < wr.heap.size := (h.own1.lt _ rfl).2
  have l2 : g2 < wr.heap.size := (h.own2.lt _ rfl).2
  have l3 : B ≤ g3 ∧ g3 < wr.heap.size := h.own3.lt _ rfl
  have ln := lt_of_block h.node
  have hs4 : wr.heap.size + 1 ≤ w4.heap.size := by have := hg.size; simpa using this
  have hsz := h.size
  have hnode : w4.heap[nb]? = some (.cells #[.slice none 0 0, .slice (some ⟨g0, 0, none⟩) kn c0, .slice (some ⟨g1, 0, none⟩) sn c1, .slice (some ⟨g2, 0, none⟩) wn c2, .slice (some ⟨g3, 0, none⟩) k c3] 30 (0, 0)) := by
    rw [hg.block nb (by simp; omega) (by simpa using fun e => h.nb3 e.symm), Below.heap_alloc _ _ _ (by exact ln)]; exact h.node
  have k4 : g4 ≠ nb := hat.elim (fun e => by rw [e]; exact h.nb3) (fun e => by omega)
  have keep : ∀ {e : TypeId} {gx n c : Nat} {xs : List Value}, wr.ownsRow B e 1 (.slice (some ⟨gx, 0, none⟩) n c) n xs → g3 ≠ gx → gx ≠ nb → (w4.setCell ⟨nb, 4, none⟩ (.slice (some ⟨g4, 0, none⟩) (k + 1) c4)).ownsRow B e 1 (.slice (some ⟨gx, 0, none⟩) n c) n xs := fun {e gx n c xs} ho h1 h2 =>
    ownsRow_setCell_other (((ownsRow_drewN ho q).alloc X).kept hg (.inr (by simpa [Value.ownBlock] using fun e => h1 e.symm))) (by simpa [Value.ownBlock] using h2) _
  refine ⟨?_, by simp; omega, ?_, h.base, keep h.own0 h.ne30 h.nb0, keep h.own1 h.ne31 h.nb1, keep h.own2 h.ne32 h.nb2, ownsRow_setCell_other ho (by simpa [Value.ownBlock] using k4) _, h.cap0, h.cap1, h.cap2, hc, ?_, ?_, ?_, h.nb0, h.nb1, h.nb2, k4⟩
  · exact (((below_drewN h.below q).alloc hsz X).grown hg (by simp; omega) (by intro j hj; cases hj; exact l3.1)).setCell h.base _
  · rw [heap_setCell_same w4 nb 4 _ 30 _ hnode]; rfl
  · exact hat.elim (fun e => by rw [e]; exact h.ne30) (fun e => by omega)
  · exact hat.elim (fun e => by rw [e]; exact h.ne31) (fun e => by omega)
  · exact hat.elim (fun e => by rw [e]; exact h.ne32) (fun e => by omega)

theorem take_snoc (xs : List Int) (k : Nat) (y : Int) (h : k < xs.length) (hy : xs.getD k 0 = y) : (xs.take k).map (Value.int .i64) ++ [.int .i64 y] = (xs.take (k + 1)).map (Value.int .i64) := by
  rw [List.take_succ_eq_append_getElem h, List.map_append]
  simp at hy
  simp [← hy, h]

set_option maxHeartbeats 1000000 in
set_option maxRecDepth 100000 in
theorem inner_any (ka sa wa : Option Addr) (kn kc sn sc wn wc : Nat) (kv sv wv : List Value) (kb : Nat → Nat) (xs : List Int) (w : World) (hk : Src w ka kn kc kv) (hs : Src w sa sn sc sv) (hw : Src w wa wn wc wv)
    (hkv : ∀ j, j < kn → kv[j]? = some (.pointer (some ⟨kb j, 0, none⟩))) (hkid : ∀ j, j < kn → KidOk w (kb j) (xs.getD j 0)) (hxs : xs.length = kn) :
    Calls Yba.prog 6 #[.slice ka kn kc, .slice sa sn sc, .slice wa wn wc] w fun e w' => ∃ nb g0 g1 g2 g3 c0 c1 c2 c3, e = .returned (.pointer (some ⟨nb, 0, none⟩)) ∧ NodeAt w.heap.size w w' nb g0 g1 g2 g3 c0 c1 c2 c3 kn sn wn kn kv sv wv (xs.map (Value.int .i64)) := by
  obtain ⟨i0, hi0, hz0, hz1, hz2⟩ := info_parts Yba.info3
  have HK : Hid (Src w ka kn kc kv) := hk
  have HKV : Hid (∀ j, j < kn → kv[j]? = some (.pointer (some ⟨kb j, 0, none⟩))) := hkv
  have HKI : Hid (∀ j, j < kn → KidOk w (kb j) (xs.getD j 0)) := hkid
  go_enter Yba.func6, Yba.ntmps6
  go_wp2
  refine lit_region (fun _ => undef) hk hs hw (fun L V g w1 hall hI => ?_)
  clear hk hs hw hkv hkid
  obtain ⟨c0, e0, hc0, ho0⟩ := hI.ch0.2.2 (hall 2 (by omega))
  obtain ⟨c1, e1, hc1, ho1⟩ := hI.ch1.2.2 (hall 5 (by omega))
  obtain ⟨c2, e2, hc2, ho2⟩ := hI.ch2.2.2 (hall 8 (by omega))
  obtain ⟨e3, ho3⟩ := hI.ch3 (hall 9 (by omega))
  obtain ⟨_, nb, e21, hnode, hBn, hne⟩ := hI.box (hall 11 (by omega))
  have e7 := (hI.asg (hall 12 (by omega))).2.trans e21
  have hn0 : NodeAt w.heap.size w w1 nb (g 0) (g 1) (g 2) (g 3) c0 c1 c2 65 kn sn wn 0 kv sv wv [] :=
    ⟨hI.below, hI.size, by rw [hnode, e0, e1, e2, e3], hBn, ho0, ho1, ho2, ho3, hc0, hc1, hc2, fun _ => rfl,
      hI.rows.2 3 0 (hall 9 (by omega)) (hall 0 (by omega)) (by omega), hI.rows.2 3 1 (hall 9 (by omega)) (hall 3 (by omega)) (by omega), hI.rows.2 3 2 (hall 9 (by omega)) (hall 6 (by omega)) (by omega),
      hne 0 (hall 0 (by omega)), hne 1 (hall 3 (by omega)), hne 2 (hall 6 (by omega)), hne 3 (hall 9 (by omega))⟩
  unfold frameV
  rw [e7]
  have HN0 : Hid (NodeAt w.heap.size w w1 nb (g 0) (g 1) (g 2) (g 3) c0 c1 c2 65 kn sn wn 0 kv sv wv []) := hn0
  clear e0 e1 e2 e3 hc0 hc1 hc2 ho0 ho1 ho2 ho3 e21 hnode hBn hne e7 hn0 hI hall
  have hkb : kn ≤ 2000000 := HK.out.2.2.1
  go_wp2
  go_loopw [9, 24] (fun _ i wr => ∃ (k g3 c3 : Nat), k ≤ kn ∧ i = .int .i64 k ∧ Hid (NodeAt w.heap.size w wr nb (g 0) (g 1) (g 2) g3 c0 c1 c2 c3 kn sn wn k kv sv wv ((xs.take k).map (Value.int .i64)))) (fun _ i _ => kn - (intOf i).toNat)
  case atStart => exact ⟨0, g 3, 65, Nat.zero_le _, rfl, HN0.out⟩
  case round =>
    obtain ⟨k, g3, c3, hkk, rfl, HN⟩ := hrel
    by_cases hlt : k < kn
    · have hcell5 : wr.cell? ⟨nb, 4, none⟩ = some (.slice (some ⟨g3, 0, none⟩) k c3) := by rw [cell_of_row wr _ _ _ _ _ HN.out.node]; rfl
      have hfree5 : wr.frozen? ⟨nb, 4, none⟩ = false := frozen_of_row wr _ _ _ _ HN.out.node
      have hkw : Src wr ka kn kc kv := HK.out.below HN.out.below (Nat.le_refl _)
      have HKW : Hid (KidOk wr (kb k) (xs.getD k 0)) := (HKI.out k hlt).below HN.out.below (Nat.le_refl _)
      rcases hkw.2.2.2 with ⟨_, h0, _⟩ | ⟨x, rfl, hcx⟩
      · omega
      have hx0 := hcx k _ (HKV.out k hlt)
      obtain ⟨b, o, s⟩ := x
      have hsn : s = none := by simpa [Addr.add] using World.cell?_spot (hcx 0 _ (HKV.out 0 (by omega)))
      subst hsn
      rw [Addr.add_lit] at hx0
      clear hkw hcx
      have kk : (k : Int) < (kn : Int) := by omega
      have hnbs := lt_of_block HN.out.node
      have hown3 := HN.out.own3
      have hsz := HN.out.size
      have hc3 := HN.out.cap3
      have HO3 : Hid (wr.ownsRow w.heap.size 3 1 (.slice (some ⟨g3, 0, none⟩) k c3) k ((xs.take k).map (Value.int .i64))) := hown3
      have HC3 : Hid (k ≤ 65 → c3 = 65) := hc3
      clear hown3 hc3
      have HND : Hid (wr.heap[nb]? = some (.cells #[.slice none 0 0, .slice (some ⟨g 0, 0, none⟩) kn c0, .slice (some ⟨g 1, 0, none⟩) sn c1, .slice (some ⟨g 2, 0, none⟩) wn c2, .slice (some ⟨g3, 0, none⟩) k c3] 30 (0, 0))) := HN.out.node
      have hne3 : nb ≠ g3 := fun e => HN.out.nb3 e.symm
      obtain ⟨y, hy⟩ : ∃ y, xs.getD k 0 = y := ⟨_, rfl⟩
      rw [hy] at HKW
      have HY : Hid (xs.getD k 0 = y) := hy
      clear hy
      have hal : ∀ (q : Nat) (ob : Obj), ((wr.drewN q).alloc ob).cell? ⟨nb, 4, none⟩ = some (.slice (some ⟨g3, 0, none⟩) k c3) := fun q ob => (World.cell?_alloc_lt (wr.drewN q) ob ⟨nb, 4, none⟩ hnbs).trans hcell5
      go_wp2
      go_region_law ((first | (refine step_last (by rfl) (.tmp 33) (by rfl) (kb k) y (by rfl) (by exact HKW.out) ?_; intro q) | (refine step_append_one (by rfl) (.tmp 32) (.tmp 35) 23 (by rfl) w.heap.size 3 i0 (.int .i64 0) Yba.underlying23 hi0 hz0 hz1 hz2 rfl g3 k c3 _ (by rfl) (by exact HO3.out.alloc _) HC3.out wr.heap.size (.int .i64 y) (by rfl) (by exact World.cell?_alloc_new (wr.drewN _) _ _ 0) rfl (by omega) (by simp; omega) ?_; intro g4 c4 w4 hown4 hgrow4 hat4 hcap4; have hnd4 := (hgrow4.block nb (by simp; omega) (by simpa using hne3)).trans ((Below.heap_alloc _ _ _ (by exact hnbs)).trans HND.out); have q5 := cell5 hnd4; have q6 := frozen_of_row w4 nb 4 _ _ hnd4; have HND4 : Hid _ := hnd4; have HOW4 : Hid _ := hown4; have HGR4 : Hid _ := hgrow4; have HAT4 : Hid _ := hat4; have HCA4 : Hid _ := hcap4; clear hnd4 hown4 hgrow4 hat4 hcap4)))
      all_goals
        go_wp2
        go_roundw
        case rel =>
          have hs' := take_snoc xs k y (by omega) HY.out
          have ho' := HOW4.out
          rw [hs'] at ho'
          exact ⟨k + 1, g4, c4, by omega, by go_num, node_step HN.out HGR4.out ho' (by simpa using HAT4.out) HCA4.out⟩
        case measure => simp [intOf]; omega
    · obtain rfl : k = kn := by omega
      go_wp2
      go_ret
      refine ⟨nb, g 0, g 1, g 2, g3, c0, c1, c2, c3, rfl, ?_⟩
      have := HN.out
      rwa [List.take_of_length_le (by omega)] at this

end Go.Proofs.Ybulkdyyy
