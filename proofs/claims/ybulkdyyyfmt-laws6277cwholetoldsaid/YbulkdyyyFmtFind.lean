/-
  Seat b6277aF: a clock value among the runs of a set: firstNotBefore, Search, has.
-/
import Derived.Test.YbulkdyyyFmtEach
import Derived.Deep.RegionHeld3
import Derived.Lib.QuietBelow
namespace Go.Proofs.YbulkdyyyFmt
open Go.RowKit Go.Shelf Go.Sort
set_option linter.unusedVariables false

/-- What the search's comparison says of a run. -/
def cmpR (c : Int) (r : Rn) : Int := if r.last < c then -1 else if r.first ≤ c then 0 else 1

theorem cmp_any (c : Int) (r : Rn) (cb : Nat) (w : World) (hc : w.cell? ⟨cb, 0, none⟩ = some (.int .u32 c)) :
    Calls Ybaf.prog 63 #[.agg #[.int .u32 r.first, .int .u32 r.last], .pointer (some ⟨cb, 0, none⟩)] w fun e w' => e = .returned (.int .i64 (cmpR c r)) ∧ Kept (fun _ => False) w w' := by
  have hlt : cb < w.heap.size := World.block_lt_of_cell? w _ hc
  unfold cmpR
  by_cases h1 : r.last < c
  · rw [if_pos h1]
    go_enter Ybaf.func63, Ybaf.ntmps63
    go_wp2
    go_ret
    exact ⟨rfl, (Kept.refl _ w).alloc _⟩
  · rw [if_neg h1]
    by_cases h2 : r.first ≤ c
    · rw [if_pos h2]
      go_enter Ybaf.func63, Ybaf.ntmps63
      go_wp2
      go_ret
      exact ⟨rfl, (Kept.refl _ w).alloc _⟩
    · rw [if_neg h2]
      go_enter Ybaf.func63, Ybaf.ntmps63
      go_wp2
      go_ret
      exact ⟨rfl, (Kept.refl _ w).alloc _⟩

/-- k parts the runs: those ahead of it end before c, those from it on do not. -/
def Parts (c : Int) (rs : List Rn) (k : Nat) : Prop := k ≤ rs.length ∧ (∀ (j : Nat) r, rs[j]? = some r → j < k → r.last < c) ∧ ∀ (j : Nat) r, rs[j]? = some r → k ≤ j → c ≤ r.last

/-- Who ends before c has none ahead of it that does not. -/
def Mono (rs : List Rn) : Prop := ∀ (i j : Nat) (ri rj : Rn), i ≤ j → rs[i]? = some ri → rs[j]? = some rj → ri.last ≤ rj.last

set_option maxRecDepth 100000 in
set_option maxHeartbeats 1000000 in
theorem fnb_any (c : Int) (cb : Nat) (a : Option Addr) (n cap : Nat) (rs : List Rn) (w : World) (hc : w.cell? ⟨cb, 0, none⟩ = some (.int .u32 c)) (hr : Row Rn.cells 2 w a n cap rs) (hm : Mono rs) :
    Calls Ybaf.prog 76 #[.slice a n cap, .func (.func 63) #[] #[.pointer (some ⟨cb, 0, none⟩)]] w fun e w' => ∃ k : Nat, e = .returned (.int .i64 k) ∧ Parts c rs k ∧ Kept (fun _ => False) w w' := by
  have hlen := hr.len
  have hsm := hr.small
  have HR : Hid (Row Rn.cells 2 w a n cap rs) := hr
  have HM : Hid (Mono rs) := hm
  have HC : Hid _ := hc
  clear hr hm hc
  go_enter Ybaf.func76, Ybaf.ntmps76
  go_wp2
  go_loopw [5, 6] (fun lo hi wr => ∃ x y : Nat, lo = .int .i64 x ∧ hi = .int .i64 y ∧ x ≤ y ∧ y ≤ n ∧ Hid ((∀ j r, rs[j]? = some r → j < x → r.last < c) ∧ (∀ j r, rs[j]? = some r → y ≤ j → c ≤ r.last) ∧ Kept (fun _ => False) w wr)) (fun lo hi _ => (intOf hi).toNat - (intOf lo).toNat)
  case atStart => exact ⟨0, n, rfl, rfl, Nat.zero_le _, Nat.le_refl _, fun j r _ h => by omega, fun j r hj h => by have := (List.getElem?_eq_some_iff.1 hj).1; omega, Kept.refl _ w⟩
  case round =>
    obtain ⟨x, y, rfl, rfl, hxy, hyn, HJ⟩ := hrel
    by_cases hlt : x < y
    · obtain ⟨b1, o1, rfl⟩ := HR.out.some_of (by omega)
      obtain ⟨r, hrr⟩ : ∃ r, rs[(x + y) / 2]? = some r := ⟨rs[(x + y) / 2]'(by omega), by simp⟩
      have hrow := HR.out.kept HJ.out.2.2 (fun _ _ => id)
      have q0 := hrow.cell rn_len hrr 0 (by omega)
      have q1 := hrow.cell rn_len hrr 1 (by omega)
      simp only [Rn.cells, List.getElem?_cons_zero, List.getElem?_cons_succ, Nat.add_zero] at q0 q1
      have hcb : wr.cell? ⟨cb, 0, none⟩ = some (.int .u32 c) := by
        rw [World.cell?_of_block (w := w) (HJ.out.2.2.block cb (World.block_lt_of_cell? w _ HC.out) id)]
        exact HC.out
      obtain ⟨m, hmm⟩ : ∃ m, (x + y) / 2 = m := ⟨_, rfl⟩
      rw [hmm] at q0 q1 hrr
      have HRR : Hid _ := hrr
      have HCB : Hid _ := hcb
      have e1 : x ≤ m := by omega
      have e2 : m < y := by omega
      have HMM : Hid ((x + y) / 2 = m) := hmm
      clear hrow hrr hcb
      go_wp2_with fail
      refine (cmp_any c r cb wr HCB.out).mono ?_
      rintro e w1 ⟨rfl, hk1⟩
      have HK1 : Hid _ := HJ.out.2.2.trans hk1
      clear hk1 q0 q1 hmm
      by_cases hcl : r.last < c
      · have hcm : cmpR c r = -1 := if_pos hcl
        rw [hcm]
        go_wp2
        go_roundw
        case rel =>
          refine ⟨m + 1, y, ?_, rfl, by omega, hyn, fun j r' hj hlt' => ?_, HJ.out.2.1, HK1.out⟩
          · have := HMM.out
            congr 1
            omega
          · have := HM.out j m r' r (by omega) hj HRR.out
            omega
        case measure => have := HMM.out; simp [intOf]; omega
      · have hcm : ¬ cmpR c r < 0 := by
          unfold cmpR
          rw [if_neg hcl]
          split <;> omega
        obtain ⟨z, hz⟩ : ∃ z, cmpR c r = z := ⟨_, rfl⟩
        rw [hz] at hcm ⊢
        clear hz
        go_wp2
        go_roundw
        case rel =>
          refine ⟨x, m, rfl, ?_, e1, by omega, HJ.out.1, fun j r' hj hge => ?_, HK1.out⟩
          · have := HMM.out
            congr 1
            omega
          · have := HM.out m j r r' hge HRR.out hj
            omega
        case measure => have := HMM.out; simp [intOf]; omega
    · obtain rfl : x = y := by omega
      go_wp2
      go_ret
      exact ⟨x, rfl, ⟨by omega, HJ.out.1, HJ.out.2.1⟩, HJ.out.2.2⟩

/-- How many of these runs end before c, from the first on. -/
def fnbOf (c : Int) (rs : List Rn) : Nat := (rs.takeWhile (fun r => decide (r.last < c))).length

theorem parts_fnb (c : Int) : ∀ rs : List Rn, Mono rs → Parts c rs (fnbOf c rs)
  | [], _ => ⟨Nat.le_refl _, fun j r hj => by simp at hj, fun j r hj => by simp at hj⟩
  | x :: rs, h => by
    by_cases hx : x.last < c
    · have ih := parts_fnb c rs (fun i j ri rj hij hi hj => h (i + 1) (j + 1) ri rj (by omega) (by simpa using hi) (by simpa using hj))
      have e : fnbOf c (x :: rs) = fnbOf c rs + 1 := by simp [fnbOf, hx]
      rw [e]
      refine ⟨by simpa using ih.1, fun j r hj hjk => ?_, fun j r hj hjk => ?_⟩
      · cases j with
        | zero => simp at hj; subst hj; exact hx
        | succ j => exact ih.2.1 j r (by simpa using hj) (by omega)
      · cases j with
        | zero => omega
        | succ j => exact ih.2.2 j r (by simpa using hj) (by omega)
    · have e : fnbOf c (x :: rs) = 0 := by simp [fnbOf, hx]
      rw [e]
      refine ⟨Nat.zero_le _, fun j r _ h0 => by omega, fun j r hj _ => ?_⟩
      have := h 0 j x r (Nat.zero_le _) rfl hj
      omega
theorem parts_unique {c : Int} {rs : List Rn} {k k' : Nat} (h : Parts c rs k) (h' : Parts c rs k') : k = k' := by
  have key : ∀ {a b : Nat}, Parts c rs a → Parts c rs b → ¬ a < b := fun {a b} ha hb hab => by
    have hl : a < rs.length := by have := hb.1; omega
    have h1 := ha.2.2 a _ (List.getElem?_eq_getElem hl) (Nat.le_refl _)
    have h2 := hb.2.1 a _ (List.getElem?_eq_getElem hl) hab
    omega
  have := key h h'
  have := key h' h
  omega

theorem Kept.below {w w' : World} (h : Kept (fun _ => False) w w') : Below w.heap.size w w' := ⟨h.os, h.tape, h.output, h.size, fun k hk => h.block k hk id⟩
theorem keptF_of {w w' : World} (h : Below w.heap.size w w') : Kept (fun _ => False) w w' := ⟨h.os, h.tape, h.output, h.size, fun k hk _ => h.block k hk⟩

theorem fnb_def (c : Int) (cb : Nat) (a : Option Addr) (n cap : Nat) (rs : List Rn) (w : World) (hc : w.cell? ⟨cb, 0, none⟩ = some (.int .u32 c)) (hr : Row Rn.cells 2 w a n cap rs) (hm : Mono rs) :
    Calls Ybaf.prog 76 #[.slice a n cap, .func (.func 63) #[] #[.pointer (some ⟨cb, 0, none⟩)]] w fun e w' => e = .returned (.int .i64 (fnbOf c rs : Nat)) ∧ Below w.heap.size w w' :=
  (fnb_any c cb a n cap rs w hc hr hm).mono fun e w' ⟨k, he, hp, hk⟩ => ⟨by rw [he, parts_unique hp (parts_fnb c rs hm)], hk.below⟩

/-- Runs in order, apart, none empty. -/
def Runs (rs : List Rn) : Prop := rs.Pairwise (fun r r' => r.last < r'.first) ∧ ∀ r ∈ rs, r.first ≤ r.last
/-- Some run holds c. -/
def holdsC (c : Int) (rs : List Rn) : Bool := rs.any (fun r => decide (r.first ≤ c ∧ c ≤ r.last))

theorem holdsC_iff {c : Int} {rs : List Rn} : holdsC c rs = true ↔ ∃ r ∈ rs, r.first ≤ c ∧ c ≤ r.last := by simp [holdsC]

theorem Runs.lt {rs : List Rn} (h : Runs rs) {i j : Nat} {ri rj : Rn} (hij : i < j) (hi : rs[i]? = some ri) (hj : rs[j]? = some rj) : ri.last < rj.first := by
  obtain ⟨h1, rfl⟩ := List.getElem?_eq_some_iff.1 hi
  obtain ⟨h2, rfl⟩ := List.getElem?_eq_some_iff.1 hj
  exact List.pairwise_iff_getElem.1 h.1 i j h1 h2 hij
theorem Runs.mono {rs : List Rn} (h : Runs rs) : Mono rs := fun i j ri rj hij hi hj => by
  by_cases he : i = j
  · subst he
    rw [hi] at hj
    cases hj
    omega
  · have := h.lt (by omega) hi hj
    have := h.2 rj (List.mem_of_getElem? hj)
    omega
theorem Runs.of_mem {vss : List (List Rn)} (h : Runs vss.flatten) {vs : List Rn} (hv : vs ∈ vss) : Runs vs :=
  ⟨(List.pairwise_flatten.1 h.1).1 vs hv, fun r hr => h.2 r (List.mem_flatten.2 ⟨vs, hv, hr⟩)⟩

/-- The run at the place that parts the runs decides. -/
theorem holdsC_parts {c : Int} {rs : List Rn} {k : Nat} (h : Runs rs) (hp : Parts c rs k) : holdsC c rs = match rs[k]? with | some r => decide (r.first ≤ c) | none => false := by
  rw [Bool.eq_iff_iff, holdsC_iff]
  cases hk : rs[k]? with
  | none =>
    simp only [Bool.false_eq_true, iff_false]
    rintro ⟨r, hr, h1, h2⟩
    obtain ⟨j, hj, rfl⟩ := List.getElem_of_mem hr
    have hkl : rs.length ≤ k := by simpa using hk
    have := hp.2.1 j _ (List.getElem?_eq_getElem hj) (by omega)
    omega
  | some r =>
    simp only [decide_eq_true_eq]
    constructor
    · rintro ⟨r', hr', h1, h2⟩
      obtain ⟨j, hj, rfl⟩ := List.getElem_of_mem hr'
      by_cases hjk : j < k
      · have := hp.2.1 j _ (List.getElem?_eq_getElem hj) hjk
        omega
      · by_cases he : j = k
        · subst he
          have : r = rs[j] := Option.some.inj (hk.symm.trans (List.getElem?_eq_getElem hj))
          rw [this]
          exact h1
        · have := h.lt (i := k) (j := j) (by omega) hk (List.getElem?_eq_getElem hj)
          have := hp.2.2 k r hk (Nat.le_refl _)
          omega
    · intro h1
      exact ⟨r, List.mem_of_getElem? hk, h1, hp.2.2 k r hk (Nat.le_refl _)⟩

/-- The child at the place that parts the last runs but one decides. -/
theorem holdsC_inner {c : Int} {vss : List (List Rn)} {ls : List Rn} {k : Nat} (h : Runs vss.flatten) (hl : ls.length = vss.length) (hne : 0 < vss.length) (hls : ∀ (i : Nat) (v : Rn) (vs : List Rn), ls[i]? = some v → vss[i]? = some vs → vs.getLast? = some v)
    (hp : Parts c (ls.take (vss.length - 1)) k) {vs : List Rn} (hk : vss[k]? = some vs) : holdsC c vss.flatten = holdsC c vs := by
  have hpk : k ≤ vss.length - 1 := by have := hp.1; rw [List.length_take] at this; omega
  rw [Bool.eq_iff_iff, holdsC_iff, holdsC_iff]
  constructor
  · rintro ⟨r, hr, h1, h2⟩
    obtain ⟨us, hus, hru⟩ := List.mem_flatten.1 hr
    obtain ⟨q, hq, rfl⟩ := List.getElem_of_mem hus
    obtain ⟨v, hv⟩ : ∃ v, ls[q]? = some v := ⟨ls[q]'(by omega), by simp⟩
    by_cases hqk : q < k
    · have h3 := hp.2.1 q v (by rw [List.getElem?_take, if_pos (by omega)]; exact hv) hqk
      have h4 := hls q v vss[q] hv (by simp)
      have h5 : r.last ≤ v.last := by
        have hR := h.of_mem hus
        obtain ⟨j, hj, rfl⟩ := List.getElem_of_mem hru
        rw [List.getLast?_eq_getElem?] at h4
        exact hR.mono j (vss[q].length - 1) _ v (by omega) (by simp) h4
      omega
    · by_cases he : q = k
      · subst he
        have : vs = vss[q] := Option.some.inj (hk.symm.trans (List.getElem?_eq_getElem hq))
        rw [this]
        exact ⟨r, hru, h1, h2⟩
      · obtain ⟨v', hv'⟩ : ∃ v, ls[k]? = some v := ⟨ls[k]'(by omega), by simp⟩
        have h3 := hp.2.2 k v' (by rw [List.getElem?_take, if_pos (by omega)]; exact hv') (Nat.le_refl _)
        have h4 := hls k v' vs hv' hk
        have h6 : v' ∈ vs := List.mem_of_getLast? h4
        obtain ⟨hk1, hk2⟩ := List.getElem?_eq_some_iff.1 hk
        have h5 := List.pairwise_iff_getElem.1 (List.pairwise_flatten.1 h.1).2 k q hk1 hq (by omega)
        rw [hk2] at h5
        have := h5 v' h6 r hru
        omega
  · rintro ⟨r, hr, h1⟩
    exact ⟨r, List.mem_flatten.2 ⟨vs, List.mem_of_getElem? hk, hr⟩, h1⟩

theorem ls_mono {vss : List (List Rn)} {ls : List Rn} (h : Runs vss.flatten) (hl : ls.length = vss.length) (hls : ∀ (i : Nat) (v : Rn) (vs : List Rn), ls[i]? = some v → vss[i]? = some vs → vs.getLast? = some v) : Mono ls := fun i j ri rj hij hi hj => by
  by_cases he : i = j
  · subst he
    rw [hi] at hj
    cases hj
    omega
  · have h1 := (List.getElem?_eq_some_iff.1 hi).1
    have h2 := (List.getElem?_eq_some_iff.1 hj).1
    have hi' : i < vss.length := by omega
    have hj' : j < vss.length := by omega
    have m1 := List.mem_of_getLast? (hls i ri vss[i] hi (List.getElem?_eq_getElem hi'))
    have m2 := List.mem_of_getLast? (hls j rj vss[j] hj (List.getElem?_eq_getElem hj'))
    have h5 := List.pairwise_iff_getElem.1 (List.pairwise_flatten.1 h.1).2 i j hi' hj' (by omega) ri m1 rj m2
    have h6 := h.2 rj (List.mem_flatten.2 ⟨_, List.getElem_mem hj', m2⟩)
    omega

theorem w64 {n : Int} (h0 : -9223372036854775808 ≤ n) (h1 : n ≤ 9223372036854775807) : IntKind.i64.wrap n = n := by rw [IntKind.wrap_i64]; omega

theorem cell_keptF {w w' : World} (hk : Kept (fun _ => False) w w') {p : Addr} {v : Value} (h : w.cell? p = some v) : w'.cell? p = some v := by
  rw [World.cell?_of_block (w := w) (hk.block p.block (World.block_lt_of_cell? w p h) id)]
  exact h
theorem Kept.toB {w w' : World} (hk : Kept (fun _ => False) w w') (B : Nat) : Kept (fun k => B ≤ k) w w' := hk.mono (fun _ => False.elim)

def isNilKids (v : Value) (w : World) : Nat := match v with | .pointer (some p) => (match w.cell? ⟨p.block, 1, none⟩ with | some (.slice none _ _) => 0 | _ => 1) | _ => 0

set_option maxRecDepth 100000 in
set_option maxHeartbeats 4000000 in
theorem search_any (c : Int) (cb sb o B : Nat) (root : Option Addr) (rs : List Rn) (w : World) (hroot : w.cell? ⟨sb, o, none⟩ = some (.pointer root)) (hrope : RopeAt Rn.cells 2 B w root rs) (hs : Runs rs) (hc : w.cell? ⟨cb, 0, none⟩ = some (.int .u32 c)) :
    Calls Ybaf.prog 62 #[.pointer (some ⟨sb, o, none⟩), .func (.func 63) #[] #[.pointer (some ⟨cb, 0, none⟩)]] w fun e w' => (∃ i : Int, e = .returned (.tuple #[.int .i64 i, .bool (holdsC c rs)])) ∧ Kept (fun _ => False) w w' := by
  rcases hrope with ⟨rfl, rfl⟩ | ⟨b, rfl, hr⟩
  · clear hs hc
    go_enter Ybaf.func62, Ybaf.ntmps62
    go_wp2
    refine bodyPost_ret (v := .tuple #[.int .i64 0, .bool false]) (by simp [results, Ybaf.results62, go_sem]; try rfl) rfl ?_
    exact ⟨⟨_, rfl⟩, Kept.refl _ _⟩
  have hnil1 : ∀ w : World, (binOp .neq 167 (.slice none 0 0) (.slice none 0 0)).run Ybaf.prog w = .ok (.bool false) w := fun w => by kernel_rfl
  have hnil2 : ∀ (w : World) p n c, (binOp .neq 167 (.slice (some p) n c) (.slice none 0 0)).run Ybaf.prog w = .ok (.bool true) w := fun w p n c => by kernel_rfl
  have HC : Hid (w.cell? ⟨cb, 0, none⟩ = some (.int .u32 c)) := hc
  have HS : Hid (Runs rs) := hs
  have HR : Hid _ := hr
  clear hc hs hr
  go_enter Ybaf.func62, Ybaf.ntmps62
  go_wp2_with fail
  go_loopw [6, 7] (fun nn at_ wr => ∃ (z : Int) (bb : Nat), at_ = .int .i64 z ∧ nn = .pointer (some ⟨bb, 0, none⟩) ∧ Hid (Kept (fun _ => False) w wr) ∧
      Hid ((∃ vs, Leaf Rn.cells 2 B w bb vs ∧ Runs vs ∧ holdsC c rs = holdsC c vs) ∨ (∃ vss, 0 < vss.length ∧ vss.flatten = rs ∧ Inner Rn.cells 2 B w bb vss))) (fun nn _ wr => isNilKids nn wr)
  case atStart =>
    refine ⟨0, b, rfl, rfl, Kept.refl _ _, ?_⟩
    rcases HR.out with ⟨_, h⟩ | ⟨vss, h1, _, h2, h3⟩
    · exact .inl ⟨rs, h, HS.out, rfl⟩
    · exact .inr ⟨vss, h1, h2, h3⟩
  case round =>
    obtain ⟨z, bb, rfl, rfl, HK, HX⟩ := hrel
    rcases HX.out with ⟨vs, hL, hRv, heq⟩ | ⟨vss, hne, hfl, hI⟩
    · obtain ⟨a, cp, hb1, hb2, hblk, hrow⟩ := hL.kept (HK.out.toB B)
      have c0 : wr.cell? ⟨bb, 0, none⟩ = some (.slice a vs.length cp) := hblk.cell 0
      have c1 : wr.cell? ⟨bb, 1, none⟩ = some (.slice none 0 0) := hblk.cell 1
      have hcb : wr.cell? ⟨cb, 0, none⟩ = some (.int .u32 c) := cell_keptF HK.out HC.out
      have hsm := hrow.small
      have HROW : Hid (Row Rn.cells 2 wr a vs.length cp vs) := hrow
      have HBLK : Hid (Blk wr bb _) := hblk
      have HCB : Hid _ := hcb
      have HRV : Hid (Runs vs) := hRv
      have HEQ : Hid _ := heq
      clear hL hRv heq hblk hrow hcb hb1 hb2
      go_wp2_with fail
      refine (fnb_any c cb a vs.length cp vs wr HCB.out HROW.out HRV.out.mono).mono ?_
      rintro e w1 ⟨k, rfl, hp, hk1⟩
      have d0 : w1.cell? ⟨bb, 0, none⟩ = some (.slice a vs.length cp) := cell_keptF hk1 c0
      have hcb1 : w1.cell? ⟨cb, 0, none⟩ = some (.int .u32 c) := cell_keptF hk1 HCB.out
      have hkl := hp.1
      have hh := (HEQ.out).trans (holdsC_parts HRV.out hp)
      have HROW1 : Hid (Row Rn.cells 2 w1 a vs.length cp vs) := HROW.out.kept hk1 (fun _ _ => id)
      have HCB1 : Hid _ := hcb1
      have HK1 : Hid (Kept (fun _ => False) w w1) := HK.out.trans hk1
      have HH : Hid _ := hh
      have HPP : Hid (Parts c vs k) := hp
      clear hp hk1 hcb1 hh c0 c1
      by_cases hkn : k < vs.length
      · obtain ⟨r, hr⟩ : ∃ r, vs[k]? = some r := ⟨vs[k]'hkn, by simp⟩
        obtain ⟨b1, o1, rfl⟩ := HROW1.out.some_of (by omega)
        have q0 := HROW1.out.cell rn_len hr 0 (by omega)
        have q1 := HROW1.out.cell rn_len hr 1 (by omega)
        simp only [Rn.cells, List.getElem?_cons_zero, List.getElem?_cons_succ, Nat.add_zero] at q0 q1
        have kk : (k : Int) < (vs.length : Int) := by omega
        have HHR : Hid (holdsC c rs = decide (r.first ≤ c)) := by
          have := HH.out
          rw [hr] at this
          exact this
        have hrl := HPP.out.2.2 k r hr (Nat.le_refl _)
        have HRL : Hid (¬ r.last < c) := by show ¬ r.last < c; omega
        clear hr hrl
        go_wp2_with fail
        refine (cmp_any c r cb w1 HCB1.out).mono ?_
        rintro e w2 ⟨rfl, hk2⟩
        have HK2 : Hid (Kept (fun _ => False) w w2) := HK1.out.trans hk2
        clear hk2 q0 q1 d0
        unfold cmpR
        rw [if_neg (by have := HRL.out; omega)]
        by_cases hf : r.first ≤ c
        · rw [if_pos hf]
          have HHT : Hid (holdsC c rs = true) := by show holdsC c rs = true; rw [HHR.out]; simpa using hf
          go_wp2_with fail
          refine bodyPost_ret (v := .tuple #[.int .i64 (wrap64 (z + k)), .bool true]) (by simp [results, Ybaf.results62, go_sem]; try rfl) rfl ?_
          rw [HHT.out]
          exact ⟨⟨_, rfl⟩, HK2.out⟩
        · rw [if_neg hf]
          have HHT : Hid (holdsC c rs = false) := by show holdsC c rs = false; rw [HHR.out]; simpa using hf
          go_wp2_with fail
          refine bodyPost_ret (v := .tuple #[.int .i64 (wrap64 (z + k)), .bool false]) (by simp [results, Ybaf.results62, go_sem]; try rfl) rfl ?_
          rw [HHT.out]
          exact ⟨⟨_, rfl⟩, HK2.out⟩
      · have HHR : Hid (holdsC c rs = false) := by
          have := HH.out
          rw [List.getElem?_eq_none (by omega)] at this
          exact this
        go_wp2_with fail
        refine bodyPost_ret (v := .tuple #[.int .i64 (wrap64 (z + k)), .bool false]) (by simp [results, Ybaf.results62, go_sem]; try rfl) rfl ?_
        rw [HHR.out]
        exact ⟨⟨_, rfl⟩, HK1.out⟩
    · obtain ⟨ak, ck, az, cz, aw, cw, al, cl, bs, ls, ⟨hb1, hb2, hb3, hb4⟩, hblk, hkids, hsizes, hlasts, hls, hleaf⟩ := hI
      replace hblk := hblk.kept HK.out id
      replace hkids := hkids.kept HK.out (fun _ _ => id)
      replace hsizes := hsizes.kept HK.out (fun _ _ => id)
      replace hlasts := hlasts.kept HK.out (fun _ _ => id)
      obtain ⟨bk, ok, rfl⟩ := hkids.some_of hne
      obtain ⟨bz, oz, rfl⟩ := hsizes.some_of hne
      obtain ⟨bt, ot, rfl⟩ := hlasts.some_of hne
      have hmono : Mono ls := ls_mono (by rw [hfl]; exact HS.out) hlasts.len hls
      have HLS : Hid _ := hls
      have HLF : Hid _ := hleaf
      have HFL : Hid _ := hfl
      have hll := hlasts.len
      have hbl := hkids.len
      have hsl := hsizes.small
      obtain ⟨m, hm⟩ : ∃ m, vss.length = m + 1 := ⟨vss.length - 1, by omega⟩
      rw [hm] at hblk hkids hsizes hlasts hll hbl hsl
      have c1 : wr.cell? ⟨bb, 1, none⟩ = some (.slice (some ⟨bk, ok, none⟩) (m + 1) ck) := hblk.cell 1
      have c2 : wr.cell? ⟨bb, 2, none⟩ = some (.slice (some ⟨bz, oz, none⟩) (m + 1) cz) := hblk.cell 2
      have c4 : wr.cell? ⟨bb, 4, none⟩ = some (.slice (some ⟨bt, ot, none⟩) (m + 1) cl) := hblk.cell 4
      have hcl := hlasts.le
      have hcz := hsizes.le
      have hcb : wr.cell? ⟨cb, 0, none⟩ = some (.int .u32 c) := cell_keptF HK.out HC.out
      have HLC : Hid (Row Rn.cells 2 wr (some ⟨bt, ot, none⟩) m cl (ls.take m)) := hlasts.cut rn_len m (by omega)
      have HKIDS : Hid (Row ptrCells 1 wr (some ⟨bk, ok, none⟩) (m + 1) ck bs) := hkids
      have HSIZES : Hid (Row intCells 1 wr (some ⟨bz, oz, none⟩) (m + 1) cz (vss.map List.length)) := hsizes
      have HCB : Hid _ := hcb
      have HMN : Hid (Mono (ls.take m)) := fun i j ri rj hij hi hj => by
        rw [List.getElem?_take] at hi hj
        split at hi
        · split at hj
          · exact hmono i j ri rj hij hi hj
          · cases hj
        · cases hi
      have HM : Hid _ := hm
      have C1 : Hid _ := c1
      clear hblk hkids hsizes hlasts hls hleaf hfl hcb hmono hb1 hb2 hb3 hb4 hm
      have hbb : bb < wr.heap.size := World.block_lt_of_cell? wr _ c1
      have hi1 : (m : Int) ≤ (cl : Int) := by omega
      have hi2 : (0 : Int) ≤ (m : Int) := by omega
      have hi3 : ((m : Int) + 1 - 1) = (m : Int) := by omega
      have hi4 : m ≤ cl := by omega
      go_wp2_with fail
      have cF : ∀ d os, Calls Ybaf.prog 76 #[.slice (some ⟨bt, ot, none⟩) m cl, .func (.func 63) #[] #[.pointer (some ⟨cb, 0, none⟩)]] (grow (redrawn wr d) os) fun e w'' => e = .returned (.int .i64 (fnbOf c (ls.take m) : Nat)) ∧ ∃ p : Regrown, w'' = grow (redrawn wr p.d) p.os := fun d os =>
        Calls.regrown_of (fnb_def c cb (some ⟨bt, ot, none⟩) m cl (ls.take m) _ (cell_regrown HCB.out d os) (HLC.out.kept (keptF_of (below_regrown wr d os)) (fun _ _ => id)) HMN.out)
      have r1 := fun d os => cell_regrown c1 d os
      have r4 := fun d os => cell_regrown c4 d os
      obtain ⟨k, hk⟩ : ∃ k, fnbOf c (ls.take m) = k := ⟨_, rfl⟩
      rw [hk] at cF
      refine wp_region_quiet_below (by kernel_rfl) (by kernel_rfl) ?_
      repeat (go_big_quiet_step (exact cF _ _))
      refine wpQuiet_nil ?_
      intro _ hw'
      obtain ⟨⟨dq, osq⟩, hw''⟩ := hw'
      have HK1 : Hid (Kept (fun _ => False) wr (grow (redrawn wr dq) osq)) := keptF_of (below_regrown wr dq osq)
      subst hw''
      generalize hw1 : grow (redrawn wr dq) osq = w1 at HK1 ⊢
      clear hw1 cF r1 r4
      have HPP : Hid (Parts c (ls.take m) k) := by have := parts_fnb c (ls.take m) HMN.out; rw [hk] at this; exact this
      have hkm : k ≤ m := by have := HPP.out.1; rw [List.length_take] at this; omega
      have HSZ1 : Hid (Row intCells 1 w1 (some ⟨bz, oz, none⟩) (m + 1) cz (vss.map List.length)) := HSIZES.out.kept HK1.out (fun _ _ => id)
      have d1 := cell_keptF HK1.out c1
      have d2 := cell_keptF HK1.out c2
      have kk : (k : Int) ≤ (m : Int) := by omega
      have kk2 : (k : Int) ≤ (cz : Int) := by omega
      have kk3 : k ≤ cz := by omega
      clear c1 c2 c4 hk
      go_wp2_with fail
      go_loopw [7, 46] (fun at_ i wx => ∃ (z' : Int) (j : Nat), at_ = .int .i64 z' ∧ i = .int .i64 j ∧ j ≤ k ∧ wx = w1) (fun _ i _ => k - (intOf i).toNat)
      case atStart => exact ⟨z, 0, rfl, rfl, Nat.zero_le _, rfl⟩
      case round =>
        obtain ⟨z', j, rfl, rfl, hj, rfl⟩ := hrel
        by_cases hlt : j < k
        · obtain ⟨x, hx⟩ : ∃ x, (vss.map List.length)[j]? = some x := by
            have := HM.out
            exact ⟨_, List.getElem?_eq_getElem (by simp; omega)⟩
          have q0 := HSZ1.out.cell int_len hx 0 (by omega)
          simp only [intCells, List.getElem?_cons_zero, Nat.add_zero, Nat.mul_one] at q0
          have kj : (j : Int) < (k : Int) := by omega
          clear hx
          go_wp2_with fail
          go_roundw
          case rel => exact ⟨_, j + 1, rfl, by go_num, by omega, by first | rfl | trivial⟩
          case measure => simp [intOf]; omega
        · obtain rfl : j = k := by omega
          obtain ⟨bl, hbl'⟩ : ∃ bl, bs[j]? = some bl := ⟨bs[j]'(by omega), by simp⟩
          obtain ⟨vs, hvs⟩ : ∃ vs, vss[j]? = some vs := by
            have := HM.out
            exact ⟨vss[j]'(by omega), by simp⟩
          have q0 := (HKIDS.out.kept HK1.out (fun _ _ => id)).cell ptr_len hbl' 0 (by omega)
          simp only [ptrCells, List.getElem?_cons_zero, Nat.add_zero, Nat.mul_one] at q0
          have kj : (j : Int) < (m : Int) + 1 := by omega
          have HB : Hid _ := hbl'
          have HV : Hid _ := hvs
          clear hbl' hvs
          go_wp2_with fail
          go_roundw
          case rel =>
            have hm1 := HM.out
            refine ⟨z', bl, rfl, rfl, HK.out.trans HK1.out, .inl ⟨vs, HLF.out j bl vs HB.out HV.out, ?_, ?_⟩⟩
            · exact Runs.of_mem (by rw [HFL.out]; exact HS.out) (List.mem_of_getElem? HV.out)
            · rw [← HFL.out]
              exact holdsC_inner (by rw [HFL.out]; exact HS.out) (by omega) hne HLS.out (by rw [hm1]; exact HPP.out) HV.out
          case measure =>
            obtain ⟨_, _, _, _, hb, _⟩ := (HLF.out j bl vs HB.out HV.out).kept ((HK.out.trans HK1.out).toB B)
            have h1 : _ = some (Value.slice none 0 0) := hb.cell 1
            have h2 := C1.out
            unfold isNilKids
            simp [h1, h2]

end Go.Proofs.YbulkdyyyFmt
