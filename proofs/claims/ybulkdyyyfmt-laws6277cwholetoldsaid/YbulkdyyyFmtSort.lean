/-
  Seat b6277aF: slices.SortFunc, Collect, SortedFunc.
-/
import Derived.Test.YbulkdyyyFmtSeq
namespace Go.Proofs.YbulkdyyyFmt
open Go.RowKit Go.Shelf Go.Sort
set_option linter.unusedVariables false
set_option linter.unnecessarySimpa false

theorem agg81 : ∀ w, (isAgg 81).run Ybaf.prog w = .ok true w := Ybaf.isAgg81
theorem size81 : ∀ w, (Go.sizeOf 81).run Ybaf.prog w = .ok 3 w := Ybaf.sizeOf81

theorem holdsK_of {w : World} {b o n c : Nat} {xs : List Sn} (h : Row Sn.cells 3 w (some ⟨b, o, none⟩) n c xs) : HoldsK Sn.cells 3 w b o xs.toArray := by
  intro j hj
  rw [size_flatK] at hj
  rw [get_flatK _ _ _ _ hj]
  have hj' : j / 3 < xs.length := by simp at hj; omega
  obtain ⟨x, hx⟩ : ∃ x, xs[j / 3]? = some x := ⟨_, List.getElem?_eq_getElem hj'⟩
  have hc := h.cell sn_len hx (j % 3) (by omega)
  have e : o + (j / 3 * 3 + j % 3) = o + j := by omega
  have e2 : (xs.toArray)[j / 3]! = x := by
    rw [getElem!_pos _ _ (by simpa using hj')]
    simpa [List.getElem?_eq_getElem hj'] using hx
  rw [e2]
  have e3 : (Sn.cells x)[j % 3]? = some (Sn.cells x)[j % 3]! := by
    have h3 : j % 3 < (Sn.cells x).length := by rw [sn_len]; omega
    rw [getElem!_pos (Sn.cells x) (j % 3) h3, List.getElem?_eq_getElem h3]
  rcases h.row with ⟨h1, _⟩ | ⟨b', o', cs, h1, h2, h3, h4⟩
  · cases h1
  · cases h1
    refine ⟨?_, h2.free _⟩
    rw [h2.cell]
    have hf := flatMap_get sn_len (j % 3) (by omega) xs (j / 3)
    rw [hx] at hf
    have h5 := h4 (j / 3 * 3 + j % 3) _ (hf.trans e3)
    rw [e] at h5
    exact h5

/-- In order. -/
def Ordered (ys : List Sn) : Prop := ys.Pairwise (fun x y => ltOf cmpS y x = false)

theorem ordered_of {d : Array Sn} (h : SortedIn (ltOf cmpS) 0 d.size d) : Ordered d.toList := by
  unfold Ordered
  rw [List.pairwise_iff_getElem]
  intro i j hi hj hij
  have := h i j (Nat.zero_le _) hij (by simpa using hj)
  rw [getElem!_pos d j (by simpa using hj), getElem!_pos d i (by simpa using hi)] at this
  simpa using this

theorem sort_any (a : Option Addr) (n c : Nat) (xs : List Sn) (w : World) (hrow : Row Sn.cells 3 w a n c xs) :
    Calls Ybaf.prog 52 #[.slice a n c, .func (.func 37) #[] #[]] w fun e w' => e = .returned (.tuple #[]) ∧ ∃ ys, ys.Perm xs ∧ Ordered ys ∧ SpAt w' a ys ∧ Kept (fun k => blkOf a = some k) w w' := by
  rcases hrow.row with ⟨rfl, rfl⟩ | ⟨b, o, cs, rfl, h2, h3, h4⟩
  · have h0 : n = 0 := by have := hrow.le; omega
    subst h0
    have hx : xs = [] := List.length_eq_zero_iff.1 hrow.len
    subst hx
    refine (AnyF.slices_SortFunc_none Ybaf.sortSpans none 0 _ w).mono ?_
    rintro e w' ⟨rfl, rfl⟩
    exact ⟨rfl, [], .nil, List.Pairwise.nil, .inl rfl, Kept.refl _ _⟩
  · have eg : ∀ args w, (callFunc 37 args).run Ybaf.prog w = .ok (.enter 37 args) w := enters_of Ybaf.func37 (by kernel_rfl) rfl
    have hH := holdsK_of hrow
    have hsz : xs.toArray.size = n := by simpa using hrow.len
    have hcon := AnyQ.slices_SortFunc Ybaf.sortSpans 3 agg81 size81 Sn.cells sn_len sn_one cmpS swoS 37 #[] b o c xs.toArray w eg (cmpLays37 b o _ w) hH h2.lt (by have := hrow.small; omega)
    rw [hsz] at hcon
    refine Calls.mono hcon ?_
    rintro e w' ⟨rfl, d', q, os, hp, hs, rfl⟩
    have hd : d'.size = n := by rw [hp.1, hsz]
    refine ⟨rfl, d'.toList, ?_, ordered_of (by rw [hd]; exact hs), ?_, ?_⟩
    · have := hp.2.2
      have e1 : (d'.extract 0 n).toList = d'.toList := by
        rw [← hd]
        simp
      have e2 : (xs.toArray.extract 0 n).toList = xs := by
        rw [← hsz]
        simp
      rwa [e1, e2] at this
    · refine .inr ⟨b, o, rfl, fun i x hx => ?_⟩
      have hK := holdsK_sortWorldK_c (enc := Sn.cells) (k := 3) (w := w) (blk := b) (off := o) xs.toArray d' q os hH h2.lt (by rw [hd, hsz])
      have hi : i < d'.size := by simpa using (List.getElem?_eq_some_iff.1 hx).1
      have hxe : d'[i]! = x := by
        rw [getElem!_pos d' i hi]
        simpa [List.getElem?_eq_getElem (show i < d'.toList.length by simpa using hi)] using hx
      have k0 := (hK.cell (c := 0) hi (by omega)).1
      have k1 := (hK.cell (c := 1) hi (by omega)).1
      have k2 := (hK.cell (c := 2) hi (by omega)).1
      rw [hxe] at k0 k1 k2
      exact ⟨k0, k1, k2⟩
    · refine ⟨rfl, rfl, rfl, size_sortWorldK_c _ _ _ _ _ _ _ _, fun k hk hne => ?_⟩
      have hkb : b ≠ k := fun e => hne (by rw [e]; rfl)
      unfold sortWorldK grow putRowK putRow mapBlock
      simp only [Sort.ahead]
      rw [Array.getElem?_append_left (by simpa using hk), Array.getElem?_modify, if_neg hkb]

theorem collect_any (va : Option Addr) (vn vc vb : Nat) (xs : List Sn) (w : World) (hcv : w.cell? ⟨vb, 0, none⟩ = some (.slice va vn vc)) (hsp : SpAt w va xs) (hn : xs.length = vn) (hsm : vn ≤ 4096) (hva : ∀ b, blkOf va = some b → b < w.heap.size) :
    Calls Ybaf.prog 51 #[.func (.func 53) #[] #[.pointer (some ⟨vb, 0, none⟩)]] w fun e w' => ∃ a n c, e = .returned (.slice a n c) ∧ Row Sn.cells 3 w' a n c xs ∧ (a = none ↔ xs = []) ∧ (∀ b, blkOf a = some b → w.heap.size ≤ b) ∧ Kept (fun _ => False) w w' := by
  have hcon := appseq_any va vn vc vb xs w hcv hsp hn hsm hva
  have HC : Hid _ := hcon
  clear hcon hcv hsp hn hva
  go_enter Ybaf.func51, Ybaf.ntmps51
  go_wp2_with (go_at_call 68; refine Calls.mono HC.out ?_; rintro e w' ⟨a, n, c, rfl, h1, h2, h3, h4⟩; have H1 : Hid _ := h1; have H2 : Hid _ := h2; have H3 : Hid _ := h3; have H4 : Hid _ := h4; clear h1 h2 h3 h4)
  go_ret
  exact ⟨_, _, _, rfl, H1.out, H2.out, H3.out, H4.out⟩

theorem sorted_any (va : Option Addr) (vn vc vb : Nat) (xs : List Sn) (w : World) (hcv : w.cell? ⟨vb, 0, none⟩ = some (.slice va vn vc)) (hsp : SpAt w va xs) (hn : xs.length = vn) (hsm : vn ≤ 4096) (hva : ∀ b, blkOf va = some b → b < w.heap.size) :
    Calls Ybaf.prog 35 #[.func (.func 53) #[] #[.pointer (some ⟨vb, 0, none⟩)], .func (.func 37) #[] #[]] w fun e w' => ∃ a n c ys, e = .returned (.slice a n c) ∧ ys.Perm xs ∧ ys.length = n ∧ Ordered ys ∧ SpAt w' a ys ∧ (∀ b, blkOf a = some b → w.heap.size ≤ b) ∧ Kept (fun _ => False) w w' := by
  have hcon := collect_any va vn vc vb xs w hcv hsp hn hsm hva
  have HC : Hid _ := hcon
  clear hcon hcv hsp hn hva
  go_enter Ybaf.func35, Ybaf.ntmps35
  go_wp2_with (first
    | (go_at_call 51; refine Calls.mono HC.out ?_; rintro e w1 ⟨a, n, c, rfl, h1, h2, h3, h4⟩; have H1 : Hid (Row Sn.cells 3 w1 a n c xs) := h1; have H3 : Hid (∀ b, blkOf a = some b → w.heap.size ≤ b) := h3; have H4 : Hid (Kept (fun _ => False) w w1) := h4; clear h1 h2 h3 h4)
    | (go_at_call 52; refine Calls.mono (sort_any _ _ _ _ _ H1.out) ?_; rintro e w2 ⟨rfl, ys, h5, h6, h7, h8⟩; have H5 : Hid _ := h5; have H6 : Hid _ := h6; have H7 : Hid _ := h7; have H8 : Hid _ := h8; clear h5 h6 h7 h8))
  go_ret
  refine ⟨_, _, _, ys, rfl, H5.out, H5.out.length_eq.trans H1.out.len, H6.out, H7.out, H3.out, ?_⟩
  have h4 := H4.out
  have h8 := H8.out
  refine ⟨h8.os.trans h4.os, h8.tape.trans h4.tape, h8.output.trans h4.output, Nat.le_trans h4.size h8.size, fun k hk _ => ?_⟩
  exact (h8.block k (Nat.lt_of_lt_of_le hk h4.size) (fun e => by have := H3.out k e; omega)).trans (h4.block k hk id)

end Go.Proofs.YbulkdyyyFmt
