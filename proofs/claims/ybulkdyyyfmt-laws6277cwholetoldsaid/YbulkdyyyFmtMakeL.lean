/-
  Seat b6277aF: the rope's leaves and nodes are laid (L).
-/
import Derived.Test.YbulkdyyyFmtFind
import Derived.Test.YbulkdyyyFmtLitL
import Derived.Test.YbulkdyyyFmtStep
import Derived.Deep.RegionHeld3
import Derived.Lib.SliceRun
namespace Go.Proofs.YbulkdyyyFmt.MakeL
open Go.RowKit Go.Sort Go.Proofs.YbulkdyyyFmt Go.Proofs.YbulkdyyyFmt.LitL
set_option linter.unusedVariables false
set_option linter.unnecessarySimpa false
set_option maxRecDepth 100000

theorem row_of_owns {α : Type} {f : α → List Value} {s : Nat} (hf : ∀ x, (f x).length = s) (hs : 0 < s) {w : World} {B : Nat} {e : TypeId} {g n cap : Nat} {xs : List α} (h : w.ownsRow B e s (.slice (some ⟨g, 0, none⟩) n cap) n (xs.flatMap f)) (hn : n ≤ 2000000) (hl : xs.length = n) : Row f s w (some ⟨g, 0, none⟩) n cap xs := by
  rcases h.2 with ⟨h0, _⟩ | ⟨g', cap', cur, hv, h1, h2, h3, h4, h5, h6⟩
  · cases h0
  · cases hv
    refine ⟨hl, hn, h3, h4, hs, by rw [flatMap_len hf, hl], .inr ⟨g, 0, cur, rfl, ⟨e, h2⟩, by omega, fun j u hu => ?_⟩⟩
    rw [← h6, List.getElem?_take] at hu
    split at hu
    · simpa using hu
    · cases hu

theorem src_cells {α : Type} {f : α → List Value} {s : Nat} {w : World} {b o n c : Nat} {xs : List α} (h : Row f s w (some ⟨b, o, none⟩) n c xs) : ∀ j u, (xs.flatMap f)[j]? = some u → w.cell? ((⟨b, o, none⟩ : Addr).add j) = some u := by
  intro j u hu
  rcases h.row with ⟨h0, _⟩ | ⟨b', o', cs, h1, h2, h3, h4⟩
  · cases h0
  · cases h1
    rw [Addr.add_lit, h2.cell]
    exact h4 j u hu

theorem heap2 {W : World} {B k : Nat} {v0 v1 : Value} (h : k ≠ B) : (((W.setCell ⟨B, 0, none⟩ v0).setCell ⟨B, 1, none⟩ v1).drew).heap[k]? = W.heap[k]? :=
  (heap_setCell_other _ ⟨B, 1, none⟩ k v1 h).trans (heap_setCell_other W ⟨B, 0, none⟩ k v0 h)
theorem heap3 {W : World} {B k : Nat} {v0 v1 v2 : Value} (h : k ≠ B) : ((((W.setCell ⟨B, 0, none⟩ v0).setCell ⟨B, 1, none⟩ v1).setCell ⟨B, 2, none⟩ v2).drew).heap[k]? = W.heap[k]? :=
  (heap_setCell_other _ ⟨B, 2, none⟩ k v2 h).trans ((heap_setCell_other _ ⟨B, 1, none⟩ k v1 h).trans (heap_setCell_other W ⟨B, 0, none⟩ k v0 h))
theorem keepB {W W' : World} {p : Addr} {v : Value} (h : W.cell? p = some v) (he : W'.heap[p.block]? = W.heap[p.block]?) : W'.cell? p = some v := by
  rw [World.cell?_of_block (w := W) he]
  exact h

theorem src_one {w : World} {b : Nat} {x : Ln} (h : Blk w b #[.slice x.a x.n x.c, .int .u32 x.clock, .string x.text]) : ∀ j u, ([x].flatMap Ln.cells)[j]? = some u → w.cell? ((⟨b, 0, none⟩ : Addr).add j) = some u := by
  intro j u hu
  rw [Addr.add_lit, h.cell, Nat.zero_add]
  simpa [Ln.cells] using hu

theorem infoE : (Ybaf.prog.info? 48).map (fun i => (i.zero, i.size, i.bytes)) = some (some (.agg #[.slice none 0 0, .int .u32 0, .string ⟨#[]⟩]), 3, 48) := by kernel_rfl

set_option maxHeartbeats 2000000 in
theorem leaf_any (a : Option Addr) (n c : Nat) (vs : List Ln) (w : World) (hr : Row Ln.cells 3 w a n c vs) (h0 : 0 < n) (h64 : n ≤ 64) :
    Calls Ybaf.prog 22 #[.slice a n c] w fun e w' => ∃ b, e = .returned (.pointer (some ⟨b, 0, none⟩)) ∧ LeafIn Ln.cells 3 w.heap.size w' b vs ∧ Kept (fun _ => False) w w' := by
  obtain ⟨i0, hi0, hz0, hz1, hz2⟩ := info_parts infoE
  obtain ⟨b1, o1, rfl⟩ := hr.some_of h0
  obtain ⟨w1, hmk, how, hgr⟩ := run_make_own (P := Ybaf.prog) (w := w) w.heap.size 36 48 i0 (.agg #[.slice none 0 0, .int .u32 0, .string ⟨#[]⟩]) 3 Ybaf.underlying36 hi0 hz0 hz1 .i64 .i64 65 (by rw [hz2]; omega) (by unfold maxLen; omega) (Nat.le_refl _)
  have hk1 : Kept (fun _ => False) w w1 := (Kept.refl _ w).grown hgr (fun k e => by cases e)
  have hr1 : Row Ln.cells 3 w1 (some ⟨w.heap.size, 0, none⟩) 0 65 [] := row_of_owns ln_len (by omega) how (by omega) rfl
  have hsrc := hr.kept hk1 (fun _ _ => id)
  have hvl := hr.len
  have HR1 : Hid (Row Ln.cells 3 w1 (some ⟨w.heap.size, 0, none⟩) 0 65 []) := hr1
  have HSRC : Hid (Row Ln.cells 3 w1 (some ⟨b1, o1, none⟩) n c vs) := hsrc
  have HK1 : Hid (Kept (fun _ => False) w w1) := hk1
  have hsz1 := hk1.size
  have hmk' : (Instr.makeSlice 36 (.int .i64 0) (.int .i64 65)).run Ybaf.prog w = .ok (.slice (some ⟨w.heap.size, 0, none⟩) 0 65) w1 := hmk
  have hbu : ∀ a n c, Ybaf.prog.built 112 [(0, .slice a n c)] = some #[.slice a n c, .slice none 0 0, .slice none 0 0, .slice none 0 0, .slice none 0 0] := fun a n c => by kernel_rfl
  clear how hgr hr1 hsrc hk1 hr hmk
  go_enter Ybaf.func22, Ybaf.ntmps22
  go_wp2_with (at_builtin; refine wpList_append_row _ rfl (.tmp 3) (.tmp 4) 36 rfl ln_len ln_one 48 i0 (.agg #[.slice none 0 0, .int .u32 0, .string ⟨#[]⟩]) 48 Ybaf.underlying36 hi0 hz0 hz1 hz2 rfl (some ⟨w.heap.size, 0, none⟩) 0 65 [] rfl HR1.out ⟨b1, o1, none⟩ n c vs rfl hvl (src_cells HSRC.out) (by omega) (by omega) ?_; intro a5 c5 w5 hrow hgrow hnew hnone; have HR5 : Hid _ := hrow; have HG5 : Hid _ := hgrow; have HW5 : Hid _ := hnew; clear hrow hgrow hnew hnone)
  go_ret
  have hlt5 := HR5.out.lt
  have hle := HG5.out.size
  have hr5 : Row Ln.cells 3 w5 a5 vs.length c5 vs := by have := HR5.out; simp only [Nat.zero_add, List.nil_append] at this; rw [hvl]; exact this
  refine ⟨_, rfl, ⟨a5, c5, by omega, fun k e => (HW5.out k e).elim (fun h => by simp [blkOf] at h; omega) (fun h => by omega), by simpa [hvl] using Blk.new w5 #[.slice a5 n c5, .slice none 0 0, .slice none 0 0, .slice none 0 0, .slice none 0 0] 112, hr5.alloc _⟩, ?_⟩
  refine Kept.alloc ?_ _
  have hg := HG5.out
  refine ⟨hg.os.trans HK1.out.os, hg.tape.trans HK1.out.tape, hg.output.trans HK1.out.output, by omega, fun k hk _ => ?_⟩
  exact (hg.block k (by omega) (fun e => by simp [blkOf] at e; omega)).trans (HK1.out.block k hk id)

set_option maxHeartbeats 1000000 in
theorem size_any (B b : Nat) (vs : List Ln) (w : World) (hL : Leaf Ln.cells 3 B w b vs) :
    Calls Ybaf.prog 23 #[.pointer (some ⟨b, 0, none⟩)] w fun e w' => e = .returned (.int .i64 vs.length) ∧ w' = w := by
  obtain ⟨a, c, hb1, hb2, hblk, hrow⟩ := hL
  have c0 : w.cell? ⟨b, 0, none⟩ = some (.slice a vs.length c) := hblk.cell 0
  have c1 : w.cell? ⟨b, 1, none⟩ = some (.slice none 0 0) := hblk.cell 1
  have hnil := fun (w : World) a n c => Lib.run_eql_slice_nil (P := Ybaf.prog) w 91 52 a n c 0 0 Ybaf.underlying91
  clear hblk hrow hb2
  go_enter Ybaf.func23, Ybaf.ntmps23
  go_wp2
  go_ret
  exact ⟨rfl, rfl⟩

set_option maxHeartbeats 1000000 in
theorem last_any (B b : Nat) (vs : List Ln) (x : Ln) (w : World) (hL : Leaf Ln.cells 3 B w b vs) (hx : vs.getLast? = some x) :
    Calls Ybaf.prog 34 #[.pointer (some ⟨b, 0, none⟩)] w fun e w' => e = .returned (.agg #[.slice x.a x.n x.c, .int .u32 x.clock, .string x.text]) ∧ Kept (fun _ => False) w w' := by
  obtain ⟨a, c, hb1, hb2, hblk, hrow⟩ := hL
  have hne : vs ≠ [] := by rintro rfl; simp at hx
  obtain ⟨m, hm⟩ : ∃ m, vs.length = m + 1 := ⟨vs.length - 1, by have := List.length_pos_iff.2 hne; omega⟩
  obtain ⟨b1, o1, rfl⟩ := hrow.some_of (by omega)
  have hxx : vs[m]? = some x := by rw [List.getLast?_eq_getElem?, hm] at hx; simpa using hx
  have q0 := hrow.cell ln_len hxx 0 (by omega)
  have q1 := hrow.cell ln_len hxx 1 (by omega)
  have q2 := hrow.cell ln_len hxx 2 (by omega)
  simp only [Ln.cells, List.getElem?_cons_zero, List.getElem?_cons_succ, Nat.add_zero] at q0 q1 q2
  have hsm := hrow.small
  rw [hm] at hblk
  have c0 : w.cell? ⟨b, 0, none⟩ = some (.slice (some ⟨b1, o1, none⟩) (m + 1) c) := hblk.cell 0
  have c1 : w.cell? ⟨b, 1, none⟩ = some (.slice none 0 0) := hblk.cell 1
  have hnil := fun (w : World) a n c => Lib.run_eql_slice_nil (P := Ybaf.prog) w 91 52 a n c 0 0 Ybaf.underlying91
  have hbl : b < w.heap.size := hblk.lt
  have hb1l : b1 < w.heap.size := World.block_lt_of_cell? w _ q0
  have hms : m + 1 ≤ 2000000 := by omega
  clear hblk hrow hb2 hxx hx hne hm hsm
  have hwm : IntKind.i64.wrap (m : Int) = (m : Int) := w64 (by omega) (by omega)
  have hne1 : b ≠ w.heap.size := by omega
  have hne2 : b1 ≠ w.heap.size := by omega
  have hi1 : (m : Int) < (m : Int) + 1 := by omega
  have hi2 : (0 : Int) ≤ (m : Int) := by omega
  go_enter Ybaf.func34, Ybaf.ntmps34
  go_wp2_with fail
  obtain ⟨W, hW⟩ : ∃ W, w.alloc (.cells #[.slice none 0 0, .int .u32 0, .string ⟨#[]⟩] 48) = W := ⟨_, rfl⟩
  have hka : Kept (fun _ => False) w W := by rw [← hW]; exact (Kept.refl _ w).alloc _
  have hb2 : Blk W w.heap.size #[.slice none 0 0, .int .u32 0, .string ⟨#[]⟩] := by rw [← hW]; exact Blk.new w _ 48
  rw [hW]
  replace c0 := cell_keptF hka c0
  replace q0 := cell_keptF hka q0
  replace q1 := cell_keptF hka q1
  replace q2 := cell_keptF hka q2
  have z0 := hb2.cell 0
  have z1 := hb2.cell 1
  have z2 := hb2.cell 2
  have f0 := hb2.free 0
  have f1 := hb2.free 1
  have f2 := hb2.free 2
  simp at z0 z1 z2
  have HKA : Hid (Kept (fun _ => False) w W) := hka
  have HSZ : Hid (W.heap.size = w.heap.size + 1) := by show W.heap.size = w.heap.size + 1; rw [← hW]; simp
  clear hW hka hb2 c1
  go_region_held3 (fun w' => w'.cell? ⟨b, 0, none⟩ = some (.slice (some ⟨b1, o1, none⟩) (m + 1) c) ∧ w'.cell? ⟨b1, o1 + m * 3, none⟩ = some (.slice x.a x.n x.c) ∧ w'.cell? ⟨b1, o1 + m * 3 + 1, none⟩ = some (.int .u32 x.clock) ∧ w'.cell? ⟨b1, o1 + m * 3 + 2, none⟩ = some (.string x.text)) (first | exact ⟨keepB c0 (heap3 hne1), keepB q0 (heap3 hne2), keepB q1 (heap3 hne2), keepB q2 (heap3 hne2)⟩ | go_keep) (fail)
  all_goals
    go_wp2_with fail
    refine bodyPost_ret (v := .agg #[.slice x.a x.n x.c, .int .u32 x.clock, .string x.text]) (by simp [results, Ybaf.results34, go_sem, z0, z1, z2]; try rfl) rfl ?_
    exact ⟨rfl, ((((HKA.out.over (p := ⟨w.heap.size, 0, none⟩) (Nat.le_refl _) _).over (p := ⟨w.heap.size, 1, none⟩) (Nat.le_refl _) _).over (p := ⟨w.heap.size, 2, none⟩) (Nat.le_refl _) _)).drew⟩

theorem src_of {f : Nat → List Value} (hf : ∀ x, (f x).length = 1) (h1 : ∀ x, ∀ u ∈ f x, u.oneCell' = true) {w : World} {a : Option Addr} {n c : Nat} {xs : List Nat} (h : Row f 1 w a n c xs) : Src w a n c (xs.flatMap f) := by
  refine ⟨by rw [flatMap_len hf, h.len]; omega, fun u hu => ?_, h.small, ?_⟩
  · obtain ⟨x, _, hx⟩ := List.mem_flatMap.1 hu
    exact h1 x u hx
  · rcases h.row with ⟨rfl, h0⟩ | ⟨b, o, cs, rfl, h2, h3, h4⟩
    · exact .inl ⟨rfl, by have := h.le; omega, h0⟩
    · exact .inr ⟨_, rfl, src_cells h⟩

theorem lasts_of : ∀ vss : List (List Ln), (∀ us ∈ vss, us ≠ []) → ∃ ls : List Ln, ls.length = vss.length ∧ ∀ (i : Nat) (v : Ln) (vs : List Ln), ls[i]? = some v → vss[i]? = some vs → vs.getLast? = some v
  | [], _ => ⟨[], rfl, fun i v vs h => by simp at h⟩
  | us :: r, h => by
    obtain ⟨ls, h1, h2⟩ := lasts_of r (fun x hx => h x (List.mem_cons_of_mem _ hx))
    obtain ⟨v, hv⟩ : ∃ v, us.getLast? = some v := by
      cases hg : us.getLast? with
      | none => exact absurd (List.getLast?_eq_none_iff.1 hg) (h us (List.mem_cons_self ..))
      | some v => exact ⟨v, rfl⟩
    refine ⟨v :: ls, by simp [h1], fun i x vs hi hvs => ?_⟩
    cases i with
    | zero => simp at hi hvs; subst hi hvs; exact hv
    | succ i => exact h2 i x vs (by simpa using hi) (by simpa using hvs)

/-- What the node holds when k children have been passed. -/
structure NI (w wr : World) (nb g0 g1 g2 c0 c1 c2 n k : Nat) (al : Option Addr) (cl : Nat) (bs : List Nat) (zs : List Nat) (ls : List Ln) : Prop where
  blk : Blk wr nb #[.slice none 0 0, .slice (some ⟨g0, 0, none⟩) n c0, .slice (some ⟨g1, 0, none⟩) n c1, .slice (some ⟨g2, 0, none⟩) n c2, .slice al k cl]
  kids : Row ptrCells 1 wr (some ⟨g0, 0, none⟩) n c0 bs
  sizes : Row intCells 1 wr (some ⟨g1, 0, none⟩) n c1 zs
  lasts : Row Ln.cells 3 wr al k cl (ls.take k)
  far : w.heap.size ≤ nb ∧ w.heap.size ≤ g0 ∧ w.heap.size ≤ g1 ∧ g0 ≠ nb ∧ g1 ≠ nb
  off : ∀ b, blkOf al = some b → w.heap.size ≤ b ∧ b ≠ nb ∧ b ≠ g0 ∧ b ≠ g1
  kept : Kept (fun _ => False) w wr

theorem ni_step {w wr w2 w5 : World} {nb g0 g1 g2 c0 c1 c2 n k : Nat} {al a5 : Option Addr} {cl c5 : Nat} {bs zs : List Nat} {ls : List Ln} {x : Ln} {ob : Obj} (h : NI w wr nb g0 g1 g2 c0 c1 c2 n k al cl bs zs ls) (hk2 : Kept (fun _ => False) wr w2) (hg : (w2.alloc ob).grownBy w5 (blkOf al))
    (hr : Row Ln.cells 3 w5 a5 (k + 1) c5 (ls.take k ++ [x])) (hx : ls[k]? = some x) (hn : NewAt (w2.alloc ob) al a5) : NI w (w5.setCell ⟨nb, 4, none⟩ (.slice a5 (k + 1) c5)) nb g0 g1 g2 c0 c1 c2 n (k + 1) a5 c5 bs zs ls := by
  have hnb := h.blk.lt
  have hg0 := h.kids.lt g0 rfl
  have hg1 := h.sizes.lt g1 rfl
  have hs2 := hk2.size
  have hsw := h.kept.size
  have hoff : ∀ b, blkOf a5 = some b → w.heap.size ≤ b ∧ b ≠ nb ∧ b ≠ g0 ∧ b ≠ g1 := fun b e => by
    rcases hn b e with e1 | e1
    · exact h.off b e1
    · simp at e1
      exact ⟨by omega, by omega, by omega, by omega⟩
  have hb5 := ((h.blk.kept hk2 id).alloc ob).grown hg (fun e => (h.off nb e.symm).2.1 rfl)
  refine ⟨by simpa using hb5.set 4 (.slice a5 (k + 1) c5), ?_, ?_, ?_, h.far, hoff, ?_⟩
  · exact (((h.kids.kept hk2 (fun _ _ => id)).alloc ob).grown hg (fun b e e' => by simp [blkOf] at e; subst e; exact (h.off g0 e'.symm).2.2.1 rfl)).other (fun e => by simp [blkOf] at e; exact h.far.2.2.2.1 e) _ _
  · exact (((h.sizes.kept hk2 (fun _ _ => id)).alloc ob).grown hg (fun b e e' => by simp [blkOf] at e; subst e; exact (h.off g1 e'.symm).2.2.2 rfl)).other (fun e => by simp [blkOf] at e; exact h.far.2.2.2.2 e) _ _
  · rw [take_snoc hx]
    exact hr.other (fun e => (hoff nb e).2.1 rfl) _ _
  · refine Kept.over (p := ⟨nb, 4, none⟩) ?_ h.far.1 _
    have hk3 := (h.kept.trans hk2).alloc ob
    exact ⟨hg.os.trans hk3.os, hg.tape.trans hk3.tape, hg.output.trans hk3.output, Nat.le_trans hk3.size hg.size, fun i hi _ => (hg.block i (Nat.lt_of_lt_of_le hi hk3.size) (fun e => by have := (h.off i e.symm).1; omega)).trans (hk3.block i hi id)⟩

set_option maxHeartbeats 4000000 in
theorem inner_any (C : Nat → Prop) (ak az aw : Option Addr) (n ck cz cw : Nat) (bs ws : List Nat) (vss : List (List Ln)) (w : World) (hk : Row ptrCells 1 w ak n ck bs) (hs : Row intCells 1 w az n cz (vss.map List.length)) (hwt : Row intCells 1 w aw n cw ws) (h0 : 0 < n) (h64 : n ≤ 64)
    (hv : vss.length = n) (hne : ∀ us ∈ vss, us ≠ []) (hleaf : ∀ (i b' : Nat) (vs : List Ln), bs[i]? = some b' → vss[i]? = some vs → LeafP Ln.cells 3 C w b' vs) :
    Calls Ybaf.prog 24 #[.slice ak n ck, .slice az n cz, .slice aw n cw] w fun e w' => ∃ b, e = .returned (.pointer (some ⟨b, 0, none⟩)) ∧ InnerP Ln.cells 3 (fun k => C k ∨ w.heap.size ≤ k) w' b vss ∧ Kept (fun _ => False) w w' := by
  obtain ⟨i0, hi0, hz0, hz1, hz2⟩ := info_parts infoE
  obtain ⟨ls, hll, hls⟩ := lasts_of vss hne
  obtain ⟨bk, ok, rfl⟩ := hk.some_of h0
  have hbl := hk.len
  have HKIDS : Hid (Row ptrCells 1 w (some ⟨bk, ok, none⟩) n ck bs) := hk
  have HLEAF : Hid _ := hleaf
  have HLS : Hid (∀ (i : Nat) (v : Ln) (vs : List Ln), ls[i]? = some v → vss[i]? = some vs → vs.getLast? = some v) := hls
  go_enter Ybaf.func24, Ybaf.ntmps24
  go_wp2
  refine lit_region (fun _ => undef) (src_of ptr_len ptr_one hk) (src_of int_len int_one hs) (src_of int_len int_one hwt) (fun L V g w1 hall hI => ?_)
  clear hk hs hwt hleaf hls
  obtain ⟨c0, e0, hc0, ho0⟩ := hI.ch0.2.2 (hall 2 (by omega))
  obtain ⟨c1, e1, hc1, ho1⟩ := hI.ch1.2.2 (hall 5 (by omega))
  obtain ⟨c2, e2, hc2, ho2⟩ := hI.ch2.2.2 (hall 8 (by omega))
  obtain ⟨e3, ho3⟩ := hI.ch3 (hall 9 (by omega))
  obtain ⟨_, nb, e21, hnode, hBn, hneb⟩ := hI.box (hall 11 (by omega))
  have e7 := (hI.asg (hall 12 (by omega))).2.trans e21
  have hn0 : NI w w1 nb (g 0) (g 1) (g 2) c0 c1 c2 n 0 (some ⟨g 3, 0, none⟩) 65 bs (vss.map List.length) ls := by
    refine ⟨⟨_, by rw [hnode, e0, e1, e2, e3]⟩, row_of_owns ptr_len (by omega) ho0 (by omega) hbl, row_of_owns int_len (by omega) ho1 (by omega) (by simpa using hv), row_of_owns ln_len (by omega) (by simpa using ho3) (by omega) (by simp), ⟨hBn, (ho0.lt _ rfl).1, (ho1.lt _ rfl).1, hneb 0 (hall 0 (by omega)), hneb 1 (hall 3 (by omega))⟩, fun b e => ?_, keptF_of hI.below⟩
    simp [blkOf] at e
    subst e
    exact ⟨(ho3.lt _ rfl).1, hneb 3 (hall 9 (by omega)), hI.rows.2 3 0 (hall 9 (by omega)) (hall 0 (by omega)) (by omega), hI.rows.2 3 1 (hall 9 (by omega)) (hall 3 (by omega)) (by omega)⟩
  unfold frameV
  rw [e7]
  have HN0 : Hid (NI w w1 nb (g 0) (g 1) (g 2) c0 c1 c2 n 0 (some ⟨g 3, 0, none⟩) 65 bs (vss.map List.length) ls) := hn0
  clear e0 e1 e2 e3 hc0 hc1 hc2 ho0 ho1 ho2 ho3 e21 hnode hBn hneb e7 hn0 hI hall
  go_wp2
  go_loopw [9, 24] (fun _ i wr => ∃ (k : Nat) (al : Option Addr) (cl : Nat), k ≤ n ∧ i = .int .i64 k ∧ Hid (NI w wr nb (g 0) (g 1) (g 2) c0 c1 c2 n k al cl bs (vss.map List.length) ls)) (fun _ i _ => n - (intOf i).toNat)
  case atStart => exact ⟨0, _, 65, Nat.zero_le _, rfl, HN0.out⟩
  case round =>
    obtain ⟨k, al, cl, hkk, rfl, HN⟩ := hrel
    by_cases hlt : k < n
    · obtain ⟨bl, hbk⟩ : ∃ bl, bs[k]? = some bl := ⟨bs[k]'(by omega), by simp⟩
      obtain ⟨vs, hvs⟩ : ∃ vs, vss[k]? = some vs := ⟨vss[k]'(by omega), by simp⟩
      obtain ⟨x, hx⟩ : ∃ x, ls[k]? = some x := ⟨ls[k]'(by omega), by simp⟩
      have q0 := (HKIDS.out.kept HN.out.kept (fun _ _ => id)).cell ptr_len hbk 0 (by omega)
      simp only [ptrCells, List.getElem?_cons_zero, Nat.add_zero, Nat.mul_one] at q0
      have hleafk := ((HLEAF.out k bl vs hbk hvs).kept HN.out.kept (fun _ _ => id)).leaf
      have hlast := HLS.out k x vs hx hvs
      have HLF : Hid (Leaf Ln.cells 3 wr.heap.size wr bl vs) := hleafk
      have HLA : Hid (vs.getLast? = some x) := hlast
      have HX : Hid (ls[k]? = some x) := hx
      have c4 : wr.cell? ⟨nb, 4, none⟩ = some (.slice al k cl) := HN.out.blk.cell 4
      have kk : (k : Int) < (n : Int) := by omega
      have HQ : Hid (some nb ≠ blkOf al) := fun e => (HN.out.off nb e.symm).2.1 rfl
      clear hbk hvs hx hleafk hlast
      go_wp2
      go_region_law (first
        | (refine step_call1 (by rfl) (.tmp 33) 34 52 (by rfl) (.pointer (some ⟨bl, 0, none⟩)) (by rfl) (enters_of Ybaf.func34 (by kernel_rfl) rfl) (R := fun v w' => v = .agg #[.slice x.a x.n x.c, .int .u32 x.clock, .string x.text] ∧ Kept (fun _ => False) wr w') ((last_any wr.heap.size bl vs x wr.drew (HLF.out.kept (Kept.refl _ wr).drew) HLA.out).mono fun e w' ⟨he, hk⟩ => ⟨_, he, rfl, ⟨hk.os, hk.tape, hk.output, hk.size, hk.block⟩⟩) ?_; rintro v w2 ⟨rfl, hk2⟩; have hn2 : Blk w2 nb _ := HN.out.blk.kept hk2 id; have d4 : w2.cell? ⟨nb, 4, none⟩ = some (.slice al k cl) := hn2.cell 4; have dal : ∀ ob, (w2.alloc ob).cell? ⟨nb, 4, none⟩ = some (.slice al k cl) := fun ob => cell_keptF ((Kept.refl _ w2).alloc ob) d4; have HK2 : Hid (Kept (fun _ => False) wr w2) := hk2; clear hk2 hn2)
        | (refine step_append_row (by rfl) (.tmp 32) (.tmp 35) 36 (by rfl) ln_len ln_one 48 i0 (.agg #[.slice none 0 0, .int .u32 0, .string ⟨#[]⟩]) 48 Ybaf.underlying36 hi0 hz0 hz1 hz2 rfl al k cl (ls.take k) (by rfl) (by exact ((HN.out.lasts.kept HK2.out (fun _ _ => id)).alloc _)) ⟨w2.heap.size, 0, none⟩ 1 1 [x] (by rfl) rfl (by exact src_one (Blk.new w2 _ _)) (by omega) (by omega) ?_; intro a5 c5 w5 hrow hgrow hnew; have hbx := ((HN.out.blk.kept HK2.out id).alloc _).grown hgrow HQ.out; have v4 : w5.cell? ⟨nb, 4, none⟩ = some (.slice al k cl) := hbx.cell 4; have v5 := hbx.free 4; have HBX : Hid (Blk w5 nb _) := hbx; have HR5 : Hid _ := hrow; have HG5 : Hid _ := hgrow; have HW5 : Hid _ := hnew; clear hrow hgrow hnew hbx)
        | fail)
      all_goals
        go_wp2
        go_roundw
        case rel => exact ⟨k + 1, a5, c5, by omega, by go_num, ni_step HN.out HK2.out HG5.out HR5.out HX.out HW5.out⟩
        case measure => simp [intOf]; omega
    · obtain rfl : k = n := by omega
      go_wp2
      go_ret
      have hN := HN.out
      have ht : ls.take k = ls := List.take_of_length_le (by omega)
      have hl := hN.lasts
      rw [ht] at hl
      have hlw := hN.kept.size
      refine ⟨nb, rfl, ⟨some ⟨g 0, 0, none⟩, c0, some ⟨g 1, 0, none⟩, c1, some ⟨g 2, 0, none⟩, c2, al, cl, bs, ls, ⟨.inr hN.far.1, fun k e => .inr (by simp [blkOf] at e; subst e; exact hN.far.2.1), fun k e => .inr (by simp [blkOf] at e; subst e; exact hN.far.2.2.1), fun k e => .inr (hN.off k e).1⟩, by rw [hv]; exact hN.blk, by rw [hv]; exact hN.kids, by rw [hv]; exact hN.sizes, by rw [hv]; exact hl, HLS.out, fun i b' vs e1 e2 => ?_⟩, hN.kept⟩
      exact ((HLEAF.out i b' vs e1 e2).kept hN.kept (fun _ _ => id)).mono (fun k hc _ => .inl hc)

end Go.Proofs.YbulkdyyyFmt.MakeL
