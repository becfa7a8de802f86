/-
  Seat b6277aF: a rope's walk: each, All.
-/
import Derived.Test.YbulkdyyyFmtNode
import Derived.RangeFuncLeaves
import Derived.Shelf.Abstract
import Derived.Lib.SliceRun
import Derived.OwnWalkIn
import Derived.TacticsInMore
import Derived.LoopNIn
import Derived.LoopIn
namespace Go.Proofs.YbulkdyyyFmt
open Go.RowKit Go.Shelf
set_option linter.unusedVariables false
attribute [local go_sem] Oper.semAt_some

/-- A yield that always goes on, over the list XS. -/
def Yields {α : Type} (l fb : Nat) (encs : α → Array Value) (J : List α → World → Prop) (XS : List α) : Prop :=
  ∀ pre x W1 m, J pre W1 → pre ++ [x] <+: XS → YieldAt Fence.wide m Ybaf.prog l (encs x) W1 fun e W' => e = .returned (.bool true) ∧ J (pre ++ [x]) W' ∧ Kb fb W1 W'

def lnEnc (x : Int × Ln) : Array Value := #[.int .i64 x.1, .agg #[.slice x.2.a x.2.n x.2.c, .int .u32 x.2.clock, .string x.2.text]]

set_option maxRecDepth 100000 in
set_option maxHeartbeats 2000000 in
theorem each_leaf {B fb l : Nat} {J : List (Int × Ln) → World → Prop} {XS : List (Int × Ln)} (hY : Yields l fb lnEnc J XS) (hJ : ∀ pre W o, J pre W → J pre (W.alloc o))
    {W : World} {b : Nat} {vs : List Ln} {i : Int} {pre : List (Int × Ln)} (hL : Leaf Ln.cells 3 B W b vs) (hF : Far B fb W) (hfb : fb < W.heap.size) (hB : B ≤ W.heap.size) (hi : 0 ≤ i) (hi2 : i + vs.length ≤ 2000000) (h0 : J pre W) (hx : pre ++ idx i vs <+: XS) (n : Nat) :
    CallsIn Fence.wide n Ybaf.prog 58 #[.pointer (some ⟨b, 0, none⟩), .int .i64 i, .func (.yield l) #[] #[]] W fun e W' => e = .returned (.bool true) ∧ J (pre ++ idx i vs) W' ∧ Kb fb W W' := by
  have hdd : ∀ k : Nat, (Fence.wide.depth.isSome = true → 1 ≤ k) := fun k h => by cases h
  have hnil := fun (w : World) a n c => Lib.run_eql_slice_nil (P := Ybaf.prog) w 91 52 a n c 0 0 Ybaf.underlying91
  have HL : Hid (Leaf Ln.cells 3 B W b vs) := hL
  obtain ⟨a, c, hb1, hb2, hblk, hrow⟩ := hL
  have c0 : W.cell? ⟨b, 0, none⟩ = some (.slice a vs.length c) := hblk.cell 0
  have c1 : W.cell? ⟨b, 1, none⟩ = some (.slice none 0 0) := hblk.cell 1
  have HROW : Hid _ := hrow
  have HB2 : Hid _ := hb2
  have HX : Hid _ := hx
  have HY : Hid _ := hY
  have HJ : Hid _ := hJ
  clear hblk hrow hb2 hx hY hJ
  refine callsIn_of_wp Ybaf.func58 rfl trivial ?_ rfl
  simp only [Ybaf.ntmps58, List.size_toArray, List.length_cons, List.length_nil, Nat.reduceAdd, Nat.reduceSub, Array.replicate_succ, Array.replicate_zero, List.push_toArray, List.append_toArray, List.nil_append, List.cons_append]
  gi_wp2
  gi_loopw [21] (fun v wr => ∃ k : Nat, k ≤ vs.length ∧ v = .int .i64 k ∧ Hid (J (pre ++ idx i (vs.take k)) wr ∧ Kb fb W wr)) (fun v _ => vs.length - (intOf v).toNat)
  case atStart => exact ⟨0, Nat.zero_le _, rfl, by simpa [idx] using h0, Kb.refl _ _⟩
  case round =>
    obtain ⟨k, hk, rfl, HR⟩ := hrel
    have hkept := HR.out.2.kept hF
    have hsz := HR.out.2.size
    have hrow1 := HROW.out.kept hkept (fun b e => by have := HB2.out b e; omega)
    by_cases hlt : k < vs.length
    · obtain ⟨b1, o1, rfl⟩ := hrow1.some_of (by omega)
      obtain ⟨x, hxx⟩ : ∃ x, vs[k]? = some x := ⟨vs[k]'hlt, by simp⟩
      have q0 := hrow1.cell ln_len hxx 0 (by omega)
      have q1 := hrow1.cell ln_len hxx 1 (by omega)
      have q2 := hrow1.cell ln_len hxx 2 (by omega)
      simp only [Ln.cells, List.getElem?_cons_zero, List.getElem?_cons_succ, Nat.add_zero] at q0 q1 q2
      obtain ⟨hp1, hp2⟩ := prefix_idx HX.out hxx
      have hfb1 : fb < wr.heap.size := by omega
      obtain ⟨fn, tmps, assign, body, hy, hR⟩ := HY.out _ _ (wr.alloc (.cells #[.slice x.a x.n x.c, .int .u32 x.clock, .string x.text] 48)) (n - 1) (HJ.out _ _ _ HR.out.1) hp1
      have HP2 : Hid _ := hp2
      have HRR : Hid _ := hR
      have kk : (k : Int) < (vs.length : Int) := by omega
      simp only [lnEnc] at hy
      clear hp1 hp2 hR hkept hrow1 hxx
      gi_wp2
      refine ⟨hdd _, RoundIn.mono HRR.out ?_⟩
      rintro e W3 ⟨rfl, hJ3, hk3⟩
      have HJ3 : Hid _ := hJ3
      have HK3 : Hid (Kb fb wr W3) := ((Kb.refl fb wr).alloc hfb1 _).trans hk3
      clear hJ3 hk3
      gi_wp2
      go_roundw
      case rel => exact ⟨k + 1, by omega, by go_num, by rw [HP2.out]; exact HJ3.out, HR.out.2.trans HK3.out⟩
      case measure => simp [intOf]; omega
    · obtain rfl : k = vs.length := by omega
      gi_wp2
      go_ret
      refine ⟨rfl, ?_, HR.out.2⟩
      simpa using HR.out.1

/-- The places of these lists' values, one list behind the other. -/
theorem flatten_take {α : Type} {vss : List (List α)} {k : Nat} {vs : List α} (hx : vss[k]? = some vs) : (vss.take (k + 1)).flatten = (vss.take k).flatten ++ vs := by
  rw [take_snoc hx]
  simp
theorem flatten_take_le {α : Type} (vss : List (List α)) (k : Nat) : (vss.take k).flatten.length ≤ vss.flatten.length := by
  have : vss.flatten = (vss.take k).flatten ++ (vss.drop k).flatten := by rw [← List.flatten_append, List.take_append_drop]
  rw [this, List.length_append]
  omega

set_option maxRecDepth 100000 in
set_option maxHeartbeats 2000000 in
theorem each_inner {B fb l : Nat} {J : List (Int × Ln) → World → Prop} {XS : List (Int × Ln)} (hY : Yields l fb lnEnc J XS) (hJ : ∀ pre W o, J pre W → J pre (W.alloc o))
    {W : World} {b : Nat} {vss : List (List Ln)} (hne : 0 < vss.length) (hL : Inner Ln.cells 3 B W b vss) (hF : Far B fb W) (hfb : fb < W.heap.size) (hB : B ≤ W.heap.size) (hi2 : vss.flatten.length ≤ 1000000) (h0 : J [] W) (hx : idx 0 vss.flatten <+: XS) (n : Nat) :
    CallsIn Fence.wide n Ybaf.prog 58 #[.pointer (some ⟨b, 0, none⟩), .int .i64 0, .func (.yield l) #[] #[]] W fun e W' => e = .returned (.bool true) ∧ J (idx 0 vss.flatten) W' ∧ Kb fb W W' := by
  have hdd : ∀ k : Nat, (Fence.wide.depth.isSome = true → 1 ≤ k) := fun k h => by cases h
  obtain ⟨ak, ck, az, cs, aw, cw, al, cl, bs, ls, ⟨hb1, hb2, hb3, hb4⟩, hblk, hkids, hsizes, hlasts, hls, hleaf⟩ := hL
  obtain ⟨bk, ok, rfl⟩ := hkids.some_of hne
  have hnil := fun (w : World) n c => Lib.run_eql_slice_nil (P := Ybaf.prog) w 91 52 (some ⟨bk, ok, none⟩) n c 0 0 Ybaf.underlying91
  have c1 : W.cell? ⟨b, 1, none⟩ = some (.slice (some ⟨bk, ok, none⟩) vss.length ck) := hblk.cell 1
  have hkl := hkids.small
  have HBLK : Hid (Blk W b _) := hblk
  have HKIDS : Hid (Row ptrCells 1 W (some ⟨bk, ok, none⟩) vss.length ck bs) := hkids
  have HSIZES : Hid (Row intCells 1 W az vss.length cs (vss.map List.length)) := hsizes
  have HLEAF : Hid _ := hleaf
  have HB2 : Hid _ := hb2
  have HB3 : Hid _ := hb3
  have HX : Hid _ := hx
  have HY : Hid _ := hY
  have HJ : Hid _ := hJ
  clear hblk hkids hsizes hlasts hls hleaf hb2 hb3 hb4 hx hY hJ
  refine callsIn_of_wp Ybaf.func58 rfl trivial ?_ rfl
  simp only [Ybaf.ntmps58, List.size_toArray, List.length_cons, List.length_nil, Nat.reduceAdd, Nat.reduceSub, Array.replicate_succ, Array.replicate_zero, List.push_toArray, List.append_toArray, List.nil_append, List.cons_append]
  gi_wp2
  gi_loopw [1, 39] (fun i v wr => ∃ k : Nat, k ≤ vss.length ∧ v = .int .i64 k ∧ i = .int .i64 ((vss.take k).flatten.length : Nat) ∧ Hid (J (idx 0 (vss.take k).flatten) wr ∧ Kb fb W wr)) (fun _ v _ => vss.length - (intOf v).toNat)
  case atStart => exact ⟨0, Nat.zero_le _, rfl, rfl, by simpa [idx] using h0, Kb.refl _ _⟩
  case round =>
    obtain ⟨k, hk, rfl, rfl, HR⟩ := hrel
    have hkept := HR.out.2.kept hF
    have hsz := HR.out.2.size
    by_cases hlt : k < vss.length
    · obtain ⟨vs, hvs⟩ : ∃ vs, vss[k]? = some vs := ⟨vss[k]'hlt, by simp⟩
      have hbl : bs.length = vss.length := HKIDS.out.len
      obtain ⟨bl, hbk⟩ : ∃ bl, bs[k]? = some bl := ⟨bs[k]'(by omega), by simp⟩
      have q0 := (HKIDS.out.kept hkept (fun b e => by have := HB2.out b e; omega)).cell ptr_len hbk 0 (by omega)
      simp only [ptrCells, List.getElem?_cons_zero, Nat.add_zero, Nat.mul_one] at q0
      have hlk := (HLEAF.out k bl vs hbk hvs).kept hkept
      have hfl := flatten_take hvs
      have hle := flatten_take_le vss (k + 1)
      have hcall := each_leaf (n := n - 1) (i := ((vss.take k).flatten.length : Nat)) HY.out HJ.out hlk (hF.kb HR.out.2 hB) (by omega) (by omega) (by omega) (by rw [hfl, List.length_append] at hle; omega) HR.out.1 (by
        have e : idx 0 (vss.take k).flatten ++ idx ((vss.take k).flatten.length : Nat) vs = idx 0 (vss.take (k + 1)).flatten := by rw [hfl, idx_append, Int.zero_add]
        rw [e]
        refine List.IsPrefix.trans ?_ HX.out
        conv => rhs; rw [← List.take_append_drop (k + 1) vss, List.flatten_append, idx_append]
        exact List.prefix_append _ _)
      obtain ⟨bz, oz, rfl⟩ := HSIZES.out.some_of hne
      have HSZ : Hid (∀ W3 : World, Kb fb wr W3 → W3.cell? ⟨b, 2, none⟩ = some (.slice (some ⟨bz, oz, none⟩) vss.length cs) ∧ W3.cell? ⟨bz, oz + k, none⟩ = some (.int .i64 vs.length)) := fun W3 hk3 => by
        have hk4 := (HR.out.2.trans hk3).kept hF
        have h1 := (HBLK.out.kept hk4 (by omega)).cell 2
        have h2 := (HSIZES.out.kept hk4 (fun b e => by have := HB3.out b e; omega)).cell int_len (j := k) (x := vs.length) (by simp [hvs]) 0 (by omega)
        simp only [intCells, List.getElem?_cons_zero, Nat.add_zero, Nat.mul_one] at h2
        exact ⟨h1, h2⟩
      have HFL : Hid _ := hfl
      have hle2 : ((vss.take k).flatten.length : Int) + (vs.length : Int) ≤ 1000000 := by rw [hfl, List.length_append] at hle; omega
      have HVS : Hid _ := hvs
      have kk : (k : Int) < (vss.length : Int) := by omega
      obtain ⟨N, hN⟩ : ∃ N : Nat, (vss.take k).flatten.length = N := ⟨_, rfl⟩
      rw [hN] at hcall hle2 ⊢
      have HN : Hid _ := hN
      have HCALL : Hid _ := hcall
      clear hkept hlk hfl hle hbk hvs hN hcall
      gi_wp2
      refine ⟨trivial, hdd _, CallsIn.mono HCALL.out ?_⟩
      rintro e W3 ⟨rfl, hJ3, hk3⟩
      obtain ⟨z1, z2⟩ := HSZ.out W3 hk3
      have HJ3 : Hid _ := hJ3
      have HK3 : Hid (Kb fb wr W3) := hk3
      clear hJ3 hk3
      gi_wp2
      go_roundw
      case rel =>
        refine ⟨k + 1, by omega, by go_num, ?_, ?_, HR.out.2.trans HK3.out⟩
        · rw [HFL.out, List.length_append, HN.out]
          go_num
        · have := HJ3.out
          rw [HFL.out, idx_append, Int.zero_add, HN.out]
          exact this
      case measure => simp [intOf]; omega
    · obtain rfl : k = vss.length := by omega
      gi_wp2
      go_ret
      refine ⟨rfl, ?_, HR.out.2⟩
      simpa using HR.out.1

section
variable {α : Type} (f : α → List Value) (s : Nat)
/-- A rope's root: nil; a leaf; a node over leaves. -/
def RopeAt (B : Nat) (w : World) (root : Option Addr) (vs : List α) : Prop :=
  (vs = [] ∧ root = none) ∨ ∃ b, root = some ⟨b, 0, none⟩ ∧ ((vs ≠ [] ∧ Leaf f s B w b vs) ∨ ∃ vss, 0 < vss.length ∧ (∀ us ∈ vss, us ≠ []) ∧ vss.flatten = vs ∧ Inner f s B w b vss)
end
theorem RopeAt.kept {α : Type} {f : α → List Value} {s B : Nat} {w w' : World} {root : Option Addr} {vs : List α} (h : RopeAt f s B w root vs) (hk : Kept (fun k => B ≤ k) w w') : RopeAt f s B w' root vs :=
  orMap h id fun ⟨b, h1, h2⟩ => ⟨b, h1, orMap h2 (fun ⟨x, y⟩ => ⟨x, y.kept hk⟩) (fun ⟨vss, x, y, z, u⟩ => ⟨vss, x, y, z, u.kept hk⟩)⟩

theorem all_any (p : Option Addr) (w : World) :
    Calls Ybaf.prog 44 #[.pointer p] w fun e w' => e = .returned (.func (.func 57) #[] #[.pointer (some ⟨w.heap.size, 0, none⟩)]) ∧ w' = w.alloc (.cells #[.pointer p] 137) := by
  go_enter Ybaf.func44, Ybaf.ntmps44
  go_wp2
  go_ret
  exact ⟨rfl, rfl⟩

set_option maxRecDepth 100000 in
set_option maxHeartbeats 2000000 in
/-- The rope's own iterator. -/
theorem all_iter {B fb rb db o : Nat} {root : Option Addr} {vs : List Ln} (hn : vs.length ≤ 1000000) :
    Iter Ybaf.prog 57 #[.pointer (some ⟨rb, 0, none⟩)] lnEnc fb (idx 0 vs) (fun W => W.cell? ⟨rb, 0, none⟩ = some (.pointer (some ⟨db, o, none⟩)) ∧ W.cell? ⟨db, o, none⟩ = some (.pointer root) ∧ RopeAt Ln.cells 3 B W root vs ∧ Far B fb W ∧ B ≤ W.heap.size) := by
  rintro l J W ⟨hc1, hc2, hrope, hF, hB⟩ hfb hJ hrow hY h0
  have hdd : ∀ k : Nat, (Fence.wide.depth.isSome = true → 1 ≤ k) := fun k h => by cases h
  refine (callsIn_wide (n := 3)).1 ?_
  rcases hrope with ⟨rfl, rfl⟩ | ⟨b, rfl, hr⟩
  · clear hF hrow hY
    have HJ0 : Hid _ := h0
    clear h0 hJ
    refine callsIn_of_wp Ybaf.func57 rfl trivial ?_ rfl
    simp only [Ybaf.ntmps57, List.size_toArray, List.length_cons, List.length_nil, Nat.reduceAdd, Nat.reduceSub, Array.replicate_succ, Array.replicate_zero, List.push_toArray, List.append_toArray, List.nil_append, List.cons_append]
    gi_wp2
    go_end0
    exact ⟨⟨_, rfl⟩, HJ0.out, Kb.refl _ _⟩
  · have hcall : CallsIn Fence.wide (3 - 1) Ybaf.prog 58 #[.pointer (some ⟨b, 0, none⟩), .int .i64 0, .func (.yield l) #[] #[]] W fun e W' => e = .returned (.bool true) ∧ J (idx 0 vs) W' ∧ Kb fb W W' := by
      rcases hr with ⟨_, hL⟩ | ⟨vss, h1, _, rfl, hI⟩
      · exact each_leaf (XS := idx 0 vs) (pre := []) hY hJ.alloc hL hF hfb hB (by omega) (by omega) h0 (by simp) _
      · exact each_inner (XS := idx 0 vss.flatten) hY hJ.alloc h1 hI hF hfb hB hn h0 (List.prefix_refl _) _
    have HC : Hid _ := hcall
    clear hcall hr hF hrow hY h0 hJ
    refine callsIn_of_wp Ybaf.func57 rfl trivial ?_ rfl
    simp only [Ybaf.ntmps57, List.size_toArray, List.length_cons, List.length_nil, Nat.reduceAdd, Nat.reduceSub, Array.replicate_succ, Array.replicate_zero, List.push_toArray, List.append_toArray, List.nil_append, List.cons_append]
    gi_wp2
    refine ⟨trivial, CallsIn.mono HC.out ?_⟩
    rintro e W1 ⟨rfl, hJ1, hk1⟩
    have HJ1 : Hid _ := hJ1
    have HK1 : Hid (Kb fb W W1) := hk1
    clear hJ1 hk1
    gi_wp2
    go_end0
    exact ⟨⟨_, rfl⟩, HJ1.out, HK1.out⟩

end Go.Proofs.YbulkdyyyFmt
