/-
  Seat b6277aF: newInner's first statement, in whatever order.
-/
import Derived.Test.YbulkdyyyFmtInner
namespace Go.Proofs.YbulkdyyyFmt.LitL
open Go.RowKit Go.Proofs.YbulkdyyyFmt
set_option linter.unusedVariables false

def frameV (K S W u3 u4 u5 u8 u9 u22 u23 u24 u25 u26 u27 u28 u29 u30 u31 u32 u33 u34 u35 u36 u37 u38 u39 u40 : Value) (V : Nat → Value) : Act := ⟨#[K, S, W, u3, u4, u5, .pointer none, V 7, u8, u9, V 10, V 11, V 12, V 13, V 14, V 15, V 16, V 17, V 18, V 19, V 20, V 21, u22, u23, u24, u25, u26, u27, u28, u29, u30, u31, u32, u33, u34, u35, u36, u37, u38, u39, u40], []⟩
def arrL (L : Nat → Bool) : Array Bool := #[L 0, L 1, L 2, L 3, L 4, L 5, L 6, L 7, L 8, L 9, L 10, L 11, L 12]

/-- What holds between two operations of the statement: L says which have come up, V what the slots hold. -/
structure RInv (B : Nat) (w0 : World) (ka sa wa : Option Addr) (kn kc sn sc wn wc : Nat) (kv sv wv : List Value) (L : Nat → Bool) (V : Nat → Value) (g : Nat → Nat) (w : World) : Prop where
  below : Below B w0 w
  size : B ≤ w.heap.size
  rows : Rows4 L g w.heap.size
  mv1 : L 1 = true → V 11 = .slice ka kn kc
  mv4 : L 4 = true → V 14 = .slice sa sn sc
  mv7 : L 7 = true → V 17 = .slice wa wn wc
  ch0 : Chain w B 52 (L 0) (L 2) (g 0) (V 10) (V 12) kn kv
  ch1 : Chain w B 3 (L 3) (L 5) (g 1) (V 13) (V 15) sn sv
  ch2 : Chain w B 3 (L 6) (L 8) (g 2) (V 16) (V 18) wn wv
  ch3 : L 9 = true → V 19 = .slice (some ⟨g 3, 0, none⟩) 0 65 ∧ w.ownsRow B 48 3 (.slice (some ⟨g 3, 0, none⟩) 0 65) 0 []
  bld : L 10 = true → (L 2 = true ∧ L 5 = true ∧ L 8 = true ∧ L 9 = true) ∧ V 20 = .agg #[.slice none 0 0, V 12, V 15, V 18, V 19]
  box : L 11 = true → L 10 = true ∧ ∃ nb, V 21 = .pointer (some ⟨nb, 0, none⟩) ∧ w.heap[nb]? = some (.cells #[.slice none 0 0, V 12, V 15, V 18, V 19] 112 (0, 0)) ∧ B ≤ nb ∧ ∀ i, madeOf L i = true → g i ≠ nb
  asg : L 12 = true → L 11 = true ∧ V 7 = V 21

theorem opsSize : ((opsAt 1 (Ybaf.f24.body.getD .skip)).getD #[]).size = 13 := by kernel_rfl
/-- What each operation waits for, at least. -/
theorem waitsFor : ([(2, 0), (2, 1), (5, 3), (5, 4), (5, 2), (8, 6), (8, 7), (8, 5), (10, 2), (10, 5), (10, 8), (10, 9), (11, 10), (12, 11)].all fun (p : Nat × Nat) => (((((opsAt 1 (Ybaf.f24.body.getD .skip)).getD #[]))[p.1]?).map fun o => o.after.any fun e => e.on == p.2 && Region.binds .any e).getD false) = true := by kernel_rfl
/-- .. and, at most, for what stands ahead of it. -/
theorem waitsBack : ((List.range 13).all fun i => (((((opsAt 1 (Ybaf.f24.body.getD .skip)).getD #[]))[i]?).map fun o => o.after.all fun e => !Region.binds .any e || decide (e.on < i)).getD false) = true := by kernel_rfl

theorem ready_pred {L : Nat → Bool} {i j : Nat} (h : i ∈ Region.ready .any ((opsAt 1 (Ybaf.f24.body.getD .skip)).getD #[]) (arrL L)) (hij : (i, j) ∈ [(2, 0), (2, 1), (5, 3), (5, 4), (5, 2), (8, 6), (8, 7), (8, 5), (10, 2), (10, 5), (10, 8), (10, 9), (11, 10), (12, 11)]) : (arrL L).getD j false = true := by
  obtain ⟨_, o, ho, ha⟩ := mem_ready.1 h
  have hw := List.all_eq_true.1 waitsFor _ hij
  simp only [ho, Option.map_some, Option.getD_some, Array.any_eq_true'] at hw
  obtain ⟨e, he, hb⟩ := hw
  simp only [Bool.and_eq_true, beq_iff_eq] at hb
  have := ha e he hb.2
  rwa [hb.1] at this

theorem ready_none {L : Nat → Bool} (h : Region.ready .any ((opsAt 1 (Ybaf.f24.body.getD .skip)).getD #[]) (arrL L) = []) : ∀ i, i < 13 → (arrL L).getD i true = true := by
  intro i
  induction i using Nat.strongRecOn with
  | ind i ih =>
    intro hi
    cases hL : (arrL L).getD i true with
    | true => rfl
    | false =>
      exfalso
      have hlt : i < ((opsAt 1 (Ybaf.f24.body.getD .skip)).getD #[]).size := by rw [opsSize]; exact hi
      have hw := List.all_eq_true.1 waitsBack i (by simpa using hi)
      have ho : ((opsAt 1 (Ybaf.f24.body.getD .skip)).getD #[])[i]? = some (((opsAt 1 (Ybaf.f24.body.getD .skip)).getD #[])[i]'hlt) := Array.getElem?_eq_getElem hlt
      simp only [ho, Option.map_some, Option.getD_some, Array.all_eq_true_iff_forall_mem] at hw
      have hm : i ∈ Region.ready .any ((opsAt 1 (Ybaf.f24.body.getD .skip)).getD #[]) (arrL L) := by
        refine mem_ready.2 ⟨hL, _, ho, fun e he hb => ?_⟩
        have h1 := hw e he
        simp only [hb, Bool.not_true, Bool.false_or, decide_eq_true_eq] at h1
        have h2 := ih e.on h1 (by omega)
        have h3 : e.on < (arrL L).size := by simp [arrL]; omega
        simp only [Array.getD, h3, dif_pos] at h2 ⊢
        exact h2
      rw [h] at hm
      cases hm

theorem op0 : ∃ o, ((opsAt 1 (Ybaf.f24.body.getD .skip)).getD #[])[0]? = some o ∧ o.guard = none ∧ o.dst = some 10 ∧ o.op = .makeSlice 91 (.const (.int .i64 0)) (.const (.int .i64 65)) := ⟨_, rfl, rfl, rfl, rfl⟩
theorem op1 : ∃ o, ((opsAt 1 (Ybaf.f24.body.getD .skip)).getD #[])[1]? = some o ∧ o.guard = none ∧ o.dst = some 11 ∧ o.op = .move (.tmp 0) := ⟨_, rfl, rfl, rfl, rfl⟩
theorem op2 : ∃ o, ((opsAt 1 (Ybaf.f24.body.getD .skip)).getD #[])[2]? = some o ∧ o.guard = none ∧ o.dst = some 12 ∧ o.op = .call { callee := .builtin .append, args := #[.tmp 10, .tmp 11], argTypes := #[91, 91] } := ⟨_, rfl, rfl, rfl, rfl⟩
theorem op3 : ∃ o, ((opsAt 1 (Ybaf.f24.body.getD .skip)).getD #[])[3]? = some o ∧ o.guard = none ∧ o.dst = some 13 ∧ o.op = .makeSlice 22 (.const (.int .i64 0)) (.const (.int .i64 65)) := ⟨_, rfl, rfl, rfl, rfl⟩
theorem op4 : ∃ o, ((opsAt 1 (Ybaf.f24.body.getD .skip)).getD #[])[4]? = some o ∧ o.guard = none ∧ o.dst = some 14 ∧ o.op = .move (.tmp 1) := ⟨_, rfl, rfl, rfl, rfl⟩
theorem op5 : ∃ o, ((opsAt 1 (Ybaf.f24.body.getD .skip)).getD #[])[5]? = some o ∧ o.guard = none ∧ o.dst = some 15 ∧ o.op = .call { callee := .builtin .append, args := #[.tmp 13, .tmp 14], argTypes := #[22, 22] } := ⟨_, rfl, rfl, rfl, rfl⟩
theorem op6 : ∃ o, ((opsAt 1 (Ybaf.f24.body.getD .skip)).getD #[])[6]? = some o ∧ o.guard = none ∧ o.dst = some 16 ∧ o.op = .makeSlice 22 (.const (.int .i64 0)) (.const (.int .i64 65)) := ⟨_, rfl, rfl, rfl, rfl⟩
theorem op7 : ∃ o, ((opsAt 1 (Ybaf.f24.body.getD .skip)).getD #[])[7]? = some o ∧ o.guard = none ∧ o.dst = some 17 ∧ o.op = .move (.tmp 2) := ⟨_, rfl, rfl, rfl, rfl⟩
theorem op8 : ∃ o, ((opsAt 1 (Ybaf.f24.body.getD .skip)).getD #[])[8]? = some o ∧ o.guard = none ∧ o.dst = some 18 ∧ o.op = .call { callee := .builtin .append, args := #[.tmp 16, .tmp 17], argTypes := #[22, 22] } := ⟨_, rfl, rfl, rfl, rfl⟩
theorem op9 : ∃ o, ((opsAt 1 (Ybaf.f24.body.getD .skip)).getD #[])[9]? = some o ∧ o.guard = none ∧ o.dst = some 19 ∧ o.op = .makeSlice 36 (.const (.int .i64 0)) (.const (.int .i64 65)) := ⟨_, rfl, rfl, rfl, rfl⟩
theorem op10 : ∃ o, ((opsAt 1 (Ybaf.f24.body.getD .skip)).getD #[])[10]? = some o ∧ o.guard = none ∧ o.dst = some 20 ∧ o.op = .build 112 #[(1, .tmp 12), (2, .tmp 15), (3, .tmp 18), (4, .tmp 19)] := ⟨_, rfl, rfl, rfl, rfl⟩
theorem op11 : ∃ o, ((opsAt 1 (Ybaf.f24.body.getD .skip)).getD #[])[11]? = some o ∧ o.guard = none ∧ o.dst = some 21 ∧ o.op = .box 112 (.tmp 20) := ⟨_, rfl, rfl, rfl, rfl⟩
theorem op12 : ∃ o, ((opsAt 1 (Ybaf.f24.body.getD .skip)).getD #[])[12]? = some o ∧ o.guard = none ∧ o.dst = some 7 ∧ o.op = .assign (.tmp 21) := ⟨_, rfl, rfl, rfl, rfl⟩

theorem built112 (a1 a2 a3 a4 : Option Addr) (n1 c1 n2 c2 n3 c3 n4 c4 : Nat) :
    Ybaf.prog.built 112 [(1, .slice a1 n1 c1), (2, .slice a2 n2 c2), (3, .slice a3 n3 c3), (4, .slice a4 n4 c4)] = some #[.slice none 0 0, .slice a1 n1 c1, .slice a2 n2 c2, .slice a3 n3 c3, .slice a4 n4 c4] := by kernel_rfl

set_option maxHeartbeats 1000000 in
set_option maxRecDepth 100000 in
theorem step0 {u3 u4 u5 u8 u9 u22 u23 u24 u25 u26 u27 u28 u29 u30 u31 u32 u33 u34 u35 u36 u37 u38 u39 u40 : Value} {ka sa wa : Option Addr} {kn kc sn sc wn wc : Nat} {kv sv wv : List Value} {w0 w : World} {Q : Exit → Act → World → Prop} {L : Nat → Bool} {V : Nat → Value} {g : Nat → Nat}
    (hk : Src w0 ka kn kc kv) (hs : Src w0 sa sn sc sv) (hw : Src w0 wa wn wc wv) (h : RInv w0.heap.size w0 ka sa wa kn kc sn sc wn wc kv sv wv L V g w) (hL : L 0 = false) :
    wpOp Ybaf.prog ((opsAt 1 (Ybaf.f24.body.getD .skip)).getD #[]) Q 0 (fun a' w' => ∃ L' V' g', (arrL L).setIfInBounds 0 true = arrL L' ∧ a' = frameV (.slice ka kn kc) (.slice sa sn sc) (.slice wa wn wc) u3 u4 u5 u8 u9 u22 u23 u24 u25 u26 u27 u28 u29 u30 u31 u32 u33 u34 u35 u36 u37 u38 u39 u40 V' ∧ RInv w0.heap.size w0 ka sa wa kn kc sn sc wn wc kv sv wv L' V' g' w') (frameV (.slice ka kn kc) (.slice sa sn sc) (.slice wa wn wc) u3 u4 u5 u8 u9 u22 u23 u24 u25 u26 u27 u28 u29 u30 u31 u32 u33 u34 u35 u36 u37 u38 u39 u40 V) w := by
  obtain ⟨o, ho, hg, hd, hop⟩ := op0
  obtain ⟨ti, hi, hz, hsz, hby⟩ := info_parts Ybaf.info52
  have nap : L 2 = false := by
    cases e : L 2 with
    | false => rfl
    | true => have := h.ch0.1 e; simp_all
  have n10 : L 10 = false := by
    cases e : L 10 with
    | false => rfl
    | true => have := (h.bld e).1; simp_all
  have n11 : L 11 = false := by
    cases e : L 11 with
    | false => rfl
    | true => have := (h.box e).1; simp_all
  have n12 : L 12 = false := by
    cases e : L 12 with
    | false => rfl
    | true => have := (h.asg e).1; simp_all
  refine wpOp_make ho hg hop Ybaf.underlying91 hi hz hsz hby h.size fun w' hown hgr => ?_
  have hlt : w.heap.size < w'.heap.size := (hown.lt _ rfl).2
  refine ⟨upd L 0 true, upd V 10 (.slice (some ⟨w.heap.size, 0, none⟩) 0 65), upd g 0 w.heap.size, by simp [arrL, upd], by rw [hd]; simp [frameV, Act.put, upd], ?_⟩
  refine ⟨h.below.grown hgr h.size (fun k hk => by cases hk), by have := h.size; omega, h.rows.made hlt (fun i hi => by unfold madeOf; split <;> first | rfl | exact absurd rfl hi), h.mv1, h.mv4, h.mv7, (by show Chain w' _ 52 true (L 2) w.heap.size _ _ _ _; rw [nap]; exact Chain.make rfl hown), h.ch1.kept hgr (fun _ e => by cases e), h.ch2.kept hgr (fun _ e => by cases e), fun e => ⟨(h.ch3 e).1, (h.ch3 e).2.kept hgr (.inr (by simp [Value.ownBlock]))⟩, (fun e => absurd (show L 10 = true from e) (by rw [n10]; simp)), (fun e => absurd (show L 11 = true from e) (by rw [n11]; simp)), (fun e => absurd (show L 12 = true from e) (by rw [n12]; simp))⟩

set_option maxHeartbeats 1000000 in
set_option maxRecDepth 100000 in
theorem step2 {u3 u4 u5 u8 u9 u22 u23 u24 u25 u26 u27 u28 u29 u30 u31 u32 u33 u34 u35 u36 u37 u38 u39 u40 : Value} {ka sa wa : Option Addr} {kn kc sn sc wn wc : Nat} {kv sv wv : List Value} {w0 w : World} {Q : Exit → Act → World → Prop} {L : Nat → Bool} {V : Nat → Value} {g : Nat → Nat}
    (hk : Src w0 ka kn kc kv) (hs : Src w0 sa sn sc sv) (hw : Src w0 wa wn wc wv) (h : RInv w0.heap.size w0 ka sa wa kn kc sn sc wn wc kv sv wv L V g w) (hL : L 2 = false) (hm : L 0 = true) (hmv : L 1 = true) :
    wpOp Ybaf.prog ((opsAt 1 (Ybaf.f24.body.getD .skip)).getD #[]) Q 2 (fun a' w' => ∃ L' V' g', (arrL L).setIfInBounds 2 true = arrL L' ∧ a' = frameV (.slice ka kn kc) (.slice sa sn sc) (.slice wa wn wc) u3 u4 u5 u8 u9 u22 u23 u24 u25 u26 u27 u28 u29 u30 u31 u32 u33 u34 u35 u36 u37 u38 u39 u40 V' ∧ RInv w0.heap.size w0 ka sa wa kn kc sn sc wn wc kv sv wv L' V' g' w') (frameV (.slice ka kn kc) (.slice sa sn sc) (.slice wa wn wc) u3 u4 u5 u8 u9 u22 u23 u24 u25 u26 u27 u28 u29 u30 u31 u32 u33 u34 u35 u36 u37 u38 u39 u40 V) w := by
  obtain ⟨o, ho, hg, hd, hop⟩ := op2
  obtain ⟨ti, hi, hz, hsz, hby⟩ := info_parts Ybaf.info52
  have n10 : L 10 = false := by
    cases e : L 10 with
    | false => rfl
    | true => have := (h.bld e).1; simp_all
  have n11 : L 11 = false := by
    cases e : L 11 with
    | false => rfl
    | true => have := (h.box e).1; simp_all
  have n12 : L 12 = false := by
    cases e : L 12 with
    | false => rfl
    | true => have := (h.asg e).1; simp_all
  obtain ⟨ev, eo⟩ := h.ch0.2.1 hm hL
  have em := h.mv1 hmv
  have hgk := h.rows.1 0 hm
  refine wpOp_append (g := g 0) ho hg hop Ybaf.underlying91 hi hz hsz hby rfl ev em eo (hk.below h.below (Nat.le_refl _)) h.size fun g' cap w' hown hgr hat hcap => ?_
  have hlt : g' < w'.heap.size := (hown.lt _ rfl).2
  have hle := hgr.size
  refine ⟨upd L 2 true, upd V 12 (.slice (some ⟨g', 0, none⟩) kn cap), upd g 0 g', by simp [arrL, upd], by rw [hd]; simp [frameV, Act.put, upd], ?_⟩
  refine ⟨h.below.grown hgr h.size (fun k hk => by cases hk; exact (eo.lt _ rfl).1), by have := h.size; omega, h.rows.app (k := 0) hm hat hle hlt (fun i => by unfold madeOf; split <;> rfl), h.mv1, h.mv4, h.mv7, (by show Chain w' _ 52 (L 0) true g' _ _ _ _; rw [hm]; exact Chain.app rfl hcap hown), h.ch1.kept hgr (fun e1 e' => h.rows.2 0 1 hm e1 (by omega) (Option.some.inj e')), h.ch2.kept hgr (fun e1 e' => h.rows.2 0 2 hm e1 (by omega) (Option.some.inj e')), fun e => ⟨(h.ch3 e).1, (h.ch3 e).2.kept hgr (.inr (by simp only [Value.ownBlock]; intro e'; exact h.rows.2 3 0 e hm (by omega) (Option.some.inj e')))⟩, (fun e => absurd (show L 10 = true from e) (by rw [n10]; simp)), (fun e => absurd (show L 11 = true from e) (by rw [n11]; simp)), (fun e => absurd (show L 12 = true from e) (by rw [n12]; simp))⟩

set_option maxHeartbeats 1000000 in
set_option maxRecDepth 100000 in
theorem step1 {u3 u4 u5 u8 u9 u22 u23 u24 u25 u26 u27 u28 u29 u30 u31 u32 u33 u34 u35 u36 u37 u38 u39 u40 : Value} {ka sa wa : Option Addr} {kn kc sn sc wn wc : Nat} {kv sv wv : List Value} {w0 w : World} {Q : Exit → Act → World → Prop} {L : Nat → Bool} {V : Nat → Value} {g : Nat → Nat}
    (hk : Src w0 ka kn kc kv) (hs : Src w0 sa sn sc sv) (hw : Src w0 wa wn wc wv) (h : RInv w0.heap.size w0 ka sa wa kn kc sn sc wn wc kv sv wv L V g w)  :
    wpOp Ybaf.prog ((opsAt 1 (Ybaf.f24.body.getD .skip)).getD #[]) Q 1 (fun a' w' => ∃ L' V' g', (arrL L).setIfInBounds 1 true = arrL L' ∧ a' = frameV (.slice ka kn kc) (.slice sa sn sc) (.slice wa wn wc) u3 u4 u5 u8 u9 u22 u23 u24 u25 u26 u27 u28 u29 u30 u31 u32 u33 u34 u35 u36 u37 u38 u39 u40 V' ∧ RInv w0.heap.size w0 ka sa wa kn kc sn sc wn wc kv sv wv L' V' g' w') (frameV (.slice ka kn kc) (.slice sa sn sc) (.slice wa wn wc) u3 u4 u5 u8 u9 u22 u23 u24 u25 u26 u27 u28 u29 u30 u31 u32 u33 u34 u35 u36 u37 u38 u39 u40 V) w := by
  obtain ⟨o, ho, hg, hd, hop⟩ := op1
  refine wpOp_copy ho hg (.inl hop) ?_
  refine ⟨upd L 1 true, upd V 11 (.slice ka kn kc), g, by simp [arrL, upd], by rw [hd]; simp [frameV, Act.put, Act.eval, upd], ?_⟩
  exact ⟨h.below, h.size, h.rows.keep (Nat.le_refl _) (fun i => by unfold madeOf; split <;> rfl), (fun _ => rfl), h.mv4, h.mv7, h.ch0, h.ch1, h.ch2, h.ch3, h.bld, h.box, h.asg⟩

set_option maxHeartbeats 1000000 in
set_option maxRecDepth 100000 in
theorem step3 {u3 u4 u5 u8 u9 u22 u23 u24 u25 u26 u27 u28 u29 u30 u31 u32 u33 u34 u35 u36 u37 u38 u39 u40 : Value} {ka sa wa : Option Addr} {kn kc sn sc wn wc : Nat} {kv sv wv : List Value} {w0 w : World} {Q : Exit → Act → World → Prop} {L : Nat → Bool} {V : Nat → Value} {g : Nat → Nat}
    (hk : Src w0 ka kn kc kv) (hs : Src w0 sa sn sc sv) (hw : Src w0 wa wn wc wv) (h : RInv w0.heap.size w0 ka sa wa kn kc sn sc wn wc kv sv wv L V g w) (hL : L 3 = false) :
    wpOp Ybaf.prog ((opsAt 1 (Ybaf.f24.body.getD .skip)).getD #[]) Q 3 (fun a' w' => ∃ L' V' g', (arrL L).setIfInBounds 3 true = arrL L' ∧ a' = frameV (.slice ka kn kc) (.slice sa sn sc) (.slice wa wn wc) u3 u4 u5 u8 u9 u22 u23 u24 u25 u26 u27 u28 u29 u30 u31 u32 u33 u34 u35 u36 u37 u38 u39 u40 V' ∧ RInv w0.heap.size w0 ka sa wa kn kc sn sc wn wc kv sv wv L' V' g' w') (frameV (.slice ka kn kc) (.slice sa sn sc) (.slice wa wn wc) u3 u4 u5 u8 u9 u22 u23 u24 u25 u26 u27 u28 u29 u30 u31 u32 u33 u34 u35 u36 u37 u38 u39 u40 V) w := by
  obtain ⟨o, ho, hg, hd, hop⟩ := op3
  obtain ⟨ti, hi, hz, hsz, hby⟩ := info_parts Ybaf.info3
  have nap : L 5 = false := by
    cases e : L 5 with
    | false => rfl
    | true => have := h.ch1.1 e; simp_all
  have n10 : L 10 = false := by
    cases e : L 10 with
    | false => rfl
    | true => have := (h.bld e).1; simp_all
  have n11 : L 11 = false := by
    cases e : L 11 with
    | false => rfl
    | true => have := (h.box e).1; simp_all
  have n12 : L 12 = false := by
    cases e : L 12 with
    | false => rfl
    | true => have := (h.asg e).1; simp_all
  refine wpOp_make ho hg hop Ybaf.underlying22 hi hz hsz hby h.size fun w' hown hgr => ?_
  have hlt : w.heap.size < w'.heap.size := (hown.lt _ rfl).2
  refine ⟨upd L 3 true, upd V 13 (.slice (some ⟨w.heap.size, 0, none⟩) 0 65), upd g 1 w.heap.size, by simp [arrL, upd], by rw [hd]; simp [frameV, Act.put, upd], ?_⟩
  refine ⟨h.below.grown hgr h.size (fun k hk => by cases hk), by have := h.size; omega, h.rows.made hlt (fun i hi => by unfold madeOf; split <;> first | rfl | exact absurd rfl hi), h.mv1, h.mv4, h.mv7, h.ch0.kept hgr (fun _ e => by cases e), (by show Chain w' _ 3 true (L 5) w.heap.size _ _ _ _; rw [nap]; exact Chain.make rfl hown), h.ch2.kept hgr (fun _ e => by cases e), fun e => ⟨(h.ch3 e).1, (h.ch3 e).2.kept hgr (.inr (by simp [Value.ownBlock]))⟩, (fun e => absurd (show L 10 = true from e) (by rw [n10]; simp)), (fun e => absurd (show L 11 = true from e) (by rw [n11]; simp)), (fun e => absurd (show L 12 = true from e) (by rw [n12]; simp))⟩

set_option maxHeartbeats 1000000 in
set_option maxRecDepth 100000 in
theorem step5 {u3 u4 u5 u8 u9 u22 u23 u24 u25 u26 u27 u28 u29 u30 u31 u32 u33 u34 u35 u36 u37 u38 u39 u40 : Value} {ka sa wa : Option Addr} {kn kc sn sc wn wc : Nat} {kv sv wv : List Value} {w0 w : World} {Q : Exit → Act → World → Prop} {L : Nat → Bool} {V : Nat → Value} {g : Nat → Nat}
    (hk : Src w0 ka kn kc kv) (hs : Src w0 sa sn sc sv) (hw : Src w0 wa wn wc wv) (h : RInv w0.heap.size w0 ka sa wa kn kc sn sc wn wc kv sv wv L V g w) (hL : L 5 = false) (hm : L 3 = true) (hmv : L 4 = true) :
    wpOp Ybaf.prog ((opsAt 1 (Ybaf.f24.body.getD .skip)).getD #[]) Q 5 (fun a' w' => ∃ L' V' g', (arrL L).setIfInBounds 5 true = arrL L' ∧ a' = frameV (.slice ka kn kc) (.slice sa sn sc) (.slice wa wn wc) u3 u4 u5 u8 u9 u22 u23 u24 u25 u26 u27 u28 u29 u30 u31 u32 u33 u34 u35 u36 u37 u38 u39 u40 V' ∧ RInv w0.heap.size w0 ka sa wa kn kc sn sc wn wc kv sv wv L' V' g' w') (frameV (.slice ka kn kc) (.slice sa sn sc) (.slice wa wn wc) u3 u4 u5 u8 u9 u22 u23 u24 u25 u26 u27 u28 u29 u30 u31 u32 u33 u34 u35 u36 u37 u38 u39 u40 V) w := by
  obtain ⟨o, ho, hg, hd, hop⟩ := op5
  obtain ⟨ti, hi, hz, hsz, hby⟩ := info_parts Ybaf.info3
  have n10 : L 10 = false := by
    cases e : L 10 with
    | false => rfl
    | true => have := (h.bld e).1; simp_all
  have n11 : L 11 = false := by
    cases e : L 11 with
    | false => rfl
    | true => have := (h.box e).1; simp_all
  have n12 : L 12 = false := by
    cases e : L 12 with
    | false => rfl
    | true => have := (h.asg e).1; simp_all
  obtain ⟨ev, eo⟩ := h.ch1.2.1 hm hL
  have em := h.mv4 hmv
  have hgk := h.rows.1 1 hm
  refine wpOp_append (g := g 1) ho hg hop Ybaf.underlying22 hi hz hsz hby rfl ev em eo (hs.below h.below (Nat.le_refl _)) h.size fun g' cap w' hown hgr hat hcap => ?_
  have hlt : g' < w'.heap.size := (hown.lt _ rfl).2
  have hle := hgr.size
  refine ⟨upd L 5 true, upd V 15 (.slice (some ⟨g', 0, none⟩) sn cap), upd g 1 g', by simp [arrL, upd], by rw [hd]; simp [frameV, Act.put, upd], ?_⟩
  refine ⟨h.below.grown hgr h.size (fun k hk => by cases hk; exact (eo.lt _ rfl).1), by have := h.size; omega, h.rows.app (k := 1) hm hat hle hlt (fun i => by unfold madeOf; split <;> rfl), h.mv1, h.mv4, h.mv7, h.ch0.kept hgr (fun e1 e' => h.rows.2 1 0 hm e1 (by omega) (Option.some.inj e')), (by show Chain w' _ 3 (L 3) true g' _ _ _ _; rw [hm]; exact Chain.app rfl hcap hown), h.ch2.kept hgr (fun e1 e' => h.rows.2 1 2 hm e1 (by omega) (Option.some.inj e')), fun e => ⟨(h.ch3 e).1, (h.ch3 e).2.kept hgr (.inr (by simp only [Value.ownBlock]; intro e'; exact h.rows.2 3 1 e hm (by omega) (Option.some.inj e')))⟩, (fun e => absurd (show L 10 = true from e) (by rw [n10]; simp)), (fun e => absurd (show L 11 = true from e) (by rw [n11]; simp)), (fun e => absurd (show L 12 = true from e) (by rw [n12]; simp))⟩

set_option maxHeartbeats 1000000 in
set_option maxRecDepth 100000 in
theorem step4 {u3 u4 u5 u8 u9 u22 u23 u24 u25 u26 u27 u28 u29 u30 u31 u32 u33 u34 u35 u36 u37 u38 u39 u40 : Value} {ka sa wa : Option Addr} {kn kc sn sc wn wc : Nat} {kv sv wv : List Value} {w0 w : World} {Q : Exit → Act → World → Prop} {L : Nat → Bool} {V : Nat → Value} {g : Nat → Nat}
    (hk : Src w0 ka kn kc kv) (hs : Src w0 sa sn sc sv) (hw : Src w0 wa wn wc wv) (h : RInv w0.heap.size w0 ka sa wa kn kc sn sc wn wc kv sv wv L V g w)  :
    wpOp Ybaf.prog ((opsAt 1 (Ybaf.f24.body.getD .skip)).getD #[]) Q 4 (fun a' w' => ∃ L' V' g', (arrL L).setIfInBounds 4 true = arrL L' ∧ a' = frameV (.slice ka kn kc) (.slice sa sn sc) (.slice wa wn wc) u3 u4 u5 u8 u9 u22 u23 u24 u25 u26 u27 u28 u29 u30 u31 u32 u33 u34 u35 u36 u37 u38 u39 u40 V' ∧ RInv w0.heap.size w0 ka sa wa kn kc sn sc wn wc kv sv wv L' V' g' w') (frameV (.slice ka kn kc) (.slice sa sn sc) (.slice wa wn wc) u3 u4 u5 u8 u9 u22 u23 u24 u25 u26 u27 u28 u29 u30 u31 u32 u33 u34 u35 u36 u37 u38 u39 u40 V) w := by
  obtain ⟨o, ho, hg, hd, hop⟩ := op4
  refine wpOp_copy ho hg (.inl hop) ?_
  refine ⟨upd L 4 true, upd V 14 (.slice sa sn sc), g, by simp [arrL, upd], by rw [hd]; simp [frameV, Act.put, Act.eval, upd], ?_⟩
  exact ⟨h.below, h.size, h.rows.keep (Nat.le_refl _) (fun i => by unfold madeOf; split <;> rfl), h.mv1, (fun _ => rfl), h.mv7, h.ch0, h.ch1, h.ch2, h.ch3, h.bld, h.box, h.asg⟩

set_option maxHeartbeats 1000000 in
set_option maxRecDepth 100000 in
theorem step6 {u3 u4 u5 u8 u9 u22 u23 u24 u25 u26 u27 u28 u29 u30 u31 u32 u33 u34 u35 u36 u37 u38 u39 u40 : Value} {ka sa wa : Option Addr} {kn kc sn sc wn wc : Nat} {kv sv wv : List Value} {w0 w : World} {Q : Exit → Act → World → Prop} {L : Nat → Bool} {V : Nat → Value} {g : Nat → Nat}
    (hk : Src w0 ka kn kc kv) (hs : Src w0 sa sn sc sv) (hw : Src w0 wa wn wc wv) (h : RInv w0.heap.size w0 ka sa wa kn kc sn sc wn wc kv sv wv L V g w) (hL : L 6 = false) :
    wpOp Ybaf.prog ((opsAt 1 (Ybaf.f24.body.getD .skip)).getD #[]) Q 6 (fun a' w' => ∃ L' V' g', (arrL L).setIfInBounds 6 true = arrL L' ∧ a' = frameV (.slice ka kn kc) (.slice sa sn sc) (.slice wa wn wc) u3 u4 u5 u8 u9 u22 u23 u24 u25 u26 u27 u28 u29 u30 u31 u32 u33 u34 u35 u36 u37 u38 u39 u40 V' ∧ RInv w0.heap.size w0 ka sa wa kn kc sn sc wn wc kv sv wv L' V' g' w') (frameV (.slice ka kn kc) (.slice sa sn sc) (.slice wa wn wc) u3 u4 u5 u8 u9 u22 u23 u24 u25 u26 u27 u28 u29 u30 u31 u32 u33 u34 u35 u36 u37 u38 u39 u40 V) w := by
  obtain ⟨o, ho, hg, hd, hop⟩ := op6
  obtain ⟨ti, hi, hz, hsz, hby⟩ := info_parts Ybaf.info3
  have nap : L 8 = false := by
    cases e : L 8 with
    | false => rfl
    | true => have := h.ch2.1 e; simp_all
  have n10 : L 10 = false := by
    cases e : L 10 with
    | false => rfl
    | true => have := (h.bld e).1; simp_all
  have n11 : L 11 = false := by
    cases e : L 11 with
    | false => rfl
    | true => have := (h.box e).1; simp_all
  have n12 : L 12 = false := by
    cases e : L 12 with
    | false => rfl
    | true => have := (h.asg e).1; simp_all
  refine wpOp_make ho hg hop Ybaf.underlying22 hi hz hsz hby h.size fun w' hown hgr => ?_
  have hlt : w.heap.size < w'.heap.size := (hown.lt _ rfl).2
  refine ⟨upd L 6 true, upd V 16 (.slice (some ⟨w.heap.size, 0, none⟩) 0 65), upd g 2 w.heap.size, by simp [arrL, upd], by rw [hd]; simp [frameV, Act.put, upd], ?_⟩
  refine ⟨h.below.grown hgr h.size (fun k hk => by cases hk), by have := h.size; omega, h.rows.made hlt (fun i hi => by unfold madeOf; split <;> first | rfl | exact absurd rfl hi), h.mv1, h.mv4, h.mv7, h.ch0.kept hgr (fun _ e => by cases e), h.ch1.kept hgr (fun _ e => by cases e), (by show Chain w' _ 3 true (L 8) w.heap.size _ _ _ _; rw [nap]; exact Chain.make rfl hown), fun e => ⟨(h.ch3 e).1, (h.ch3 e).2.kept hgr (.inr (by simp [Value.ownBlock]))⟩, (fun e => absurd (show L 10 = true from e) (by rw [n10]; simp)), (fun e => absurd (show L 11 = true from e) (by rw [n11]; simp)), (fun e => absurd (show L 12 = true from e) (by rw [n12]; simp))⟩

set_option maxHeartbeats 1000000 in
set_option maxRecDepth 100000 in
theorem step8 {u3 u4 u5 u8 u9 u22 u23 u24 u25 u26 u27 u28 u29 u30 u31 u32 u33 u34 u35 u36 u37 u38 u39 u40 : Value} {ka sa wa : Option Addr} {kn kc sn sc wn wc : Nat} {kv sv wv : List Value} {w0 w : World} {Q : Exit → Act → World → Prop} {L : Nat → Bool} {V : Nat → Value} {g : Nat → Nat}
    (hk : Src w0 ka kn kc kv) (hs : Src w0 sa sn sc sv) (hw : Src w0 wa wn wc wv) (h : RInv w0.heap.size w0 ka sa wa kn kc sn sc wn wc kv sv wv L V g w) (hL : L 8 = false) (hm : L 6 = true) (hmv : L 7 = true) :
    wpOp Ybaf.prog ((opsAt 1 (Ybaf.f24.body.getD .skip)).getD #[]) Q 8 (fun a' w' => ∃ L' V' g', (arrL L).setIfInBounds 8 true = arrL L' ∧ a' = frameV (.slice ka kn kc) (.slice sa sn sc) (.slice wa wn wc) u3 u4 u5 u8 u9 u22 u23 u24 u25 u26 u27 u28 u29 u30 u31 u32 u33 u34 u35 u36 u37 u38 u39 u40 V' ∧ RInv w0.heap.size w0 ka sa wa kn kc sn sc wn wc kv sv wv L' V' g' w') (frameV (.slice ka kn kc) (.slice sa sn sc) (.slice wa wn wc) u3 u4 u5 u8 u9 u22 u23 u24 u25 u26 u27 u28 u29 u30 u31 u32 u33 u34 u35 u36 u37 u38 u39 u40 V) w := by
  obtain ⟨o, ho, hg, hd, hop⟩ := op8
  obtain ⟨ti, hi, hz, hsz, hby⟩ := info_parts Ybaf.info3
  have n10 : L 10 = false := by
    cases e : L 10 with
    | false => rfl
    | true => have := (h.bld e).1; simp_all
  have n11 : L 11 = false := by
    cases e : L 11 with
    | false => rfl
    | true => have := (h.box e).1; simp_all
  have n12 : L 12 = false := by
    cases e : L 12 with
    | false => rfl
    | true => have := (h.asg e).1; simp_all
  obtain ⟨ev, eo⟩ := h.ch2.2.1 hm hL
  have em := h.mv7 hmv
  have hgk := h.rows.1 2 hm
  refine wpOp_append (g := g 2) ho hg hop Ybaf.underlying22 hi hz hsz hby rfl ev em eo (hw.below h.below (Nat.le_refl _)) h.size fun g' cap w' hown hgr hat hcap => ?_
  have hlt : g' < w'.heap.size := (hown.lt _ rfl).2
  have hle := hgr.size
  refine ⟨upd L 8 true, upd V 18 (.slice (some ⟨g', 0, none⟩) wn cap), upd g 2 g', by simp [arrL, upd], by rw [hd]; simp [frameV, Act.put, upd], ?_⟩
  refine ⟨h.below.grown hgr h.size (fun k hk => by cases hk; exact (eo.lt _ rfl).1), by have := h.size; omega, h.rows.app (k := 2) hm hat hle hlt (fun i => by unfold madeOf; split <;> rfl), h.mv1, h.mv4, h.mv7, h.ch0.kept hgr (fun e1 e' => h.rows.2 2 0 hm e1 (by omega) (Option.some.inj e')), h.ch1.kept hgr (fun e1 e' => h.rows.2 2 1 hm e1 (by omega) (Option.some.inj e')), (by show Chain w' _ 3 (L 6) true g' _ _ _ _; rw [hm]; exact Chain.app rfl hcap hown), fun e => ⟨(h.ch3 e).1, (h.ch3 e).2.kept hgr (.inr (by simp only [Value.ownBlock]; intro e'; exact h.rows.2 3 2 e hm (by omega) (Option.some.inj e')))⟩, (fun e => absurd (show L 10 = true from e) (by rw [n10]; simp)), (fun e => absurd (show L 11 = true from e) (by rw [n11]; simp)), (fun e => absurd (show L 12 = true from e) (by rw [n12]; simp))⟩

set_option maxHeartbeats 1000000 in
set_option maxRecDepth 100000 in
theorem step7 {u3 u4 u5 u8 u9 u22 u23 u24 u25 u26 u27 u28 u29 u30 u31 u32 u33 u34 u35 u36 u37 u38 u39 u40 : Value} {ka sa wa : Option Addr} {kn kc sn sc wn wc : Nat} {kv sv wv : List Value} {w0 w : World} {Q : Exit → Act → World → Prop} {L : Nat → Bool} {V : Nat → Value} {g : Nat → Nat}
    (hk : Src w0 ka kn kc kv) (hs : Src w0 sa sn sc sv) (hw : Src w0 wa wn wc wv) (h : RInv w0.heap.size w0 ka sa wa kn kc sn sc wn wc kv sv wv L V g w)  :
    wpOp Ybaf.prog ((opsAt 1 (Ybaf.f24.body.getD .skip)).getD #[]) Q 7 (fun a' w' => ∃ L' V' g', (arrL L).setIfInBounds 7 true = arrL L' ∧ a' = frameV (.slice ka kn kc) (.slice sa sn sc) (.slice wa wn wc) u3 u4 u5 u8 u9 u22 u23 u24 u25 u26 u27 u28 u29 u30 u31 u32 u33 u34 u35 u36 u37 u38 u39 u40 V' ∧ RInv w0.heap.size w0 ka sa wa kn kc sn sc wn wc kv sv wv L' V' g' w') (frameV (.slice ka kn kc) (.slice sa sn sc) (.slice wa wn wc) u3 u4 u5 u8 u9 u22 u23 u24 u25 u26 u27 u28 u29 u30 u31 u32 u33 u34 u35 u36 u37 u38 u39 u40 V) w := by
  obtain ⟨o, ho, hg, hd, hop⟩ := op7
  refine wpOp_copy ho hg (.inl hop) ?_
  refine ⟨upd L 7 true, upd V 17 (.slice wa wn wc), g, by simp [arrL, upd], by rw [hd]; simp [frameV, Act.put, Act.eval, upd], ?_⟩
  exact ⟨h.below, h.size, h.rows.keep (Nat.le_refl _) (fun i => by unfold madeOf; split <;> rfl), h.mv1, h.mv4, (fun _ => rfl), h.ch0, h.ch1, h.ch2, h.ch3, h.bld, h.box, h.asg⟩

set_option maxHeartbeats 1000000 in
set_option maxRecDepth 100000 in
theorem step9 {u3 u4 u5 u8 u9 u22 u23 u24 u25 u26 u27 u28 u29 u30 u31 u32 u33 u34 u35 u36 u37 u38 u39 u40 : Value} {ka sa wa : Option Addr} {kn kc sn sc wn wc : Nat} {kv sv wv : List Value} {w0 w : World} {Q : Exit → Act → World → Prop} {L : Nat → Bool} {V : Nat → Value} {g : Nat → Nat}
    (hk : Src w0 ka kn kc kv) (hs : Src w0 sa sn sc sv) (hw : Src w0 wa wn wc wv) (h : RInv w0.heap.size w0 ka sa wa kn kc sn sc wn wc kv sv wv L V g w) (hL : L 9 = false) :
    wpOp Ybaf.prog ((opsAt 1 (Ybaf.f24.body.getD .skip)).getD #[]) Q 9 (fun a' w' => ∃ L' V' g', (arrL L).setIfInBounds 9 true = arrL L' ∧ a' = frameV (.slice ka kn kc) (.slice sa sn sc) (.slice wa wn wc) u3 u4 u5 u8 u9 u22 u23 u24 u25 u26 u27 u28 u29 u30 u31 u32 u33 u34 u35 u36 u37 u38 u39 u40 V' ∧ RInv w0.heap.size w0 ka sa wa kn kc sn sc wn wc kv sv wv L' V' g' w') (frameV (.slice ka kn kc) (.slice sa sn sc) (.slice wa wn wc) u3 u4 u5 u8 u9 u22 u23 u24 u25 u26 u27 u28 u29 u30 u31 u32 u33 u34 u35 u36 u37 u38 u39 u40 V) w := by
  obtain ⟨o, ho, hg, hd, hop⟩ := op9
  obtain ⟨ti, hi, hz, hsz, hby⟩ := info_parts Ybaf.info48
  have n10 : L 10 = false := by
    cases e : L 10 with
    | false => rfl
    | true => have := (h.bld e).1; simp_all
  have n11 : L 11 = false := by
    cases e : L 11 with
    | false => rfl
    | true => have := (h.box e).1; simp_all
  have n12 : L 12 = false := by
    cases e : L 12 with
    | false => rfl
    | true => have := (h.asg e).1; simp_all
  refine wpOp_makeS ho hg hop Ybaf.underlying36 hi hz hsz hby (by omega) h.size fun w' hown hgr => ?_
  have hlt : w.heap.size < w'.heap.size := (hown.lt _ rfl).2
  refine ⟨upd L 9 true, upd V 19 (.slice (some ⟨w.heap.size, 0, none⟩) 0 65), upd g 3 w.heap.size, by simp [arrL, upd], by rw [hd]; simp [frameV, Act.put, upd], ?_⟩
  refine ⟨h.below.grown hgr h.size (fun k hk => by cases hk), by have := h.size; omega, h.rows.made hlt (fun i hi => by unfold madeOf; split <;> first | rfl | exact absurd rfl hi), h.mv1, h.mv4, h.mv7, h.ch0.kept hgr (fun _ e => by cases e), h.ch1.kept hgr (fun _ e => by cases e), h.ch2.kept hgr (fun _ e => by cases e), fun _ => ⟨rfl, hown⟩, (fun e => absurd (show L 10 = true from e) (by rw [n10]; simp)), (fun e => absurd (show L 11 = true from e) (by rw [n11]; simp)), (fun e => absurd (show L 12 = true from e) (by rw [n12]; simp))⟩

set_option maxHeartbeats 1000000 in
set_option maxRecDepth 100000 in
theorem step10 {u3 u4 u5 u8 u9 u22 u23 u24 u25 u26 u27 u28 u29 u30 u31 u32 u33 u34 u35 u36 u37 u38 u39 u40 : Value} {ka sa wa : Option Addr} {kn kc sn sc wn wc : Nat} {kv sv wv : List Value} {w0 w : World} {Q : Exit → Act → World → Prop} {L : Nat → Bool} {V : Nat → Value} {g : Nat → Nat}
    (hk : Src w0 ka kn kc kv) (hs : Src w0 sa sn sc sv) (hw : Src w0 wa wn wc wv) (h : RInv w0.heap.size w0 ka sa wa kn kc sn sc wn wc kv sv wv L V g w) (hL : L 10 = false) (h2 : L 2 = true) (h5 : L 5 = true) (h8 : L 8 = true) (h9 : L 9 = true) :
    wpOp Ybaf.prog ((opsAt 1 (Ybaf.f24.body.getD .skip)).getD #[]) Q 10 (fun a' w' => ∃ L' V' g', (arrL L).setIfInBounds 10 true = arrL L' ∧ a' = frameV (.slice ka kn kc) (.slice sa sn sc) (.slice wa wn wc) u3 u4 u5 u8 u9 u22 u23 u24 u25 u26 u27 u28 u29 u30 u31 u32 u33 u34 u35 u36 u37 u38 u39 u40 V' ∧ RInv w0.heap.size w0 ka sa wa kn kc sn sc wn wc kv sv wv L' V' g' w') (frameV (.slice ka kn kc) (.slice sa sn sc) (.slice wa wn wc) u3 u4 u5 u8 u9 u22 u23 u24 u25 u26 u27 u28 u29 u30 u31 u32 u33 u34 u35 u36 u37 u38 u39 u40 V) w := by
  obtain ⟨o, ho, hg, hd, hop⟩ := op10
  obtain ⟨c0, e0, _, _⟩ := h.ch0.2.2 h2
  obtain ⟨c1, e1, _, _⟩ := h.ch1.2.2 h5
  obtain ⟨c2, e2, _, _⟩ := h.ch2.2.2 h8
  have e3 := (h.ch3 h9).1
  have n11 : L 11 = false := by
    cases e : L 11 with
    | false => rfl
    | true => have := (h.box e).1; simp_all
  have n12 : L 12 = false := by
    cases e : L 12 with
    | false => rfl
    | true => have := (h.asg e).1; simp_all
  refine wpOp_build (cells := #[.slice none 0 0, V 12, V 15, V 18, V 19]) ho hg hop ?_ ?_
  · rw [e0, e1, e2, e3]
    simp only [List.map_toArray, List.map_cons, List.map_nil]
    show Ybaf.prog.built 112 [(1, V 12), (2, V 15), (3, V 18), (4, V 19)] = _
    rw [e0, e1, e2, e3]
    exact built112 _ _ _ _ _ _ _ _ _ _ _ _
  · refine ⟨upd L 10 true, upd V 20 (.agg #[.slice none 0 0, V 12, V 15, V 18, V 19]), g, by simp [arrL, upd], by rw [hd]; simp [frameV, Act.put, upd], ?_⟩
    exact ⟨h.below, h.size, h.rows.keep (Nat.le_refl _) (fun i => by unfold madeOf; split <;> rfl), h.mv1, h.mv4, h.mv7, h.ch0, h.ch1, h.ch2, h.ch3, (fun _ => ⟨⟨h2, h5, h8, h9⟩, rfl⟩), (fun e => absurd (show L 11 = true from e) (by rw [n11]; simp)), (fun e => absurd (show L 12 = true from e) (by rw [n12]; simp))⟩

set_option maxHeartbeats 1000000 in
set_option maxRecDepth 100000 in
theorem step11 {u3 u4 u5 u8 u9 u22 u23 u24 u25 u26 u27 u28 u29 u30 u31 u32 u33 u34 u35 u36 u37 u38 u39 u40 : Value} {ka sa wa : Option Addr} {kn kc sn sc wn wc : Nat} {kv sv wv : List Value} {w0 w : World} {Q : Exit → Act → World → Prop} {L : Nat → Bool} {V : Nat → Value} {g : Nat → Nat}
    (hk : Src w0 ka kn kc kv) (hs : Src w0 sa sn sc sv) (hw : Src w0 wa wn wc wv) (h : RInv w0.heap.size w0 ka sa wa kn kc sn sc wn wc kv sv wv L V g w) (hL : L 11 = false) (h10 : L 10 = true) :
    wpOp Ybaf.prog ((opsAt 1 (Ybaf.f24.body.getD .skip)).getD #[]) Q 11 (fun a' w' => ∃ L' V' g', (arrL L).setIfInBounds 11 true = arrL L' ∧ a' = frameV (.slice ka kn kc) (.slice sa sn sc) (.slice wa wn wc) u3 u4 u5 u8 u9 u22 u23 u24 u25 u26 u27 u28 u29 u30 u31 u32 u33 u34 u35 u36 u37 u38 u39 u40 V' ∧ RInv w0.heap.size w0 ka sa wa kn kc sn sc wn wc kv sv wv L' V' g' w') (frameV (.slice ka kn kc) (.slice sa sn sc) (.slice wa wn wc) u3 u4 u5 u8 u9 u22 u23 u24 u25 u26 u27 u28 u29 u30 u31 u32 u33 u34 u35 u36 u37 u38 u39 u40 V) w := by
  obtain ⟨o, ho, hg, hd, hop⟩ := op11
  obtain ⟨hall, e20⟩ := h.bld h10
  have n12 : L 12 = false := by
    cases e : L 12 with
    | false => rfl
    | true => have := (h.asg e).1; simp_all
  refine wpOp_box (cells := #[.slice none 0 0, V 12, V 15, V 18, V 19]) ho hg hop e20 ?_
  have hgr := World.grownBy_alloc w (.cells #[.slice none 0 0, V 12, V 15, V 18, V 19] 112) none
  refine ⟨upd L 11 true, upd V 21 (.pointer (some ⟨w.heap.size, 0, none⟩)), g, by simp [arrL, upd], by rw [hd]; simp [frameV, Act.put, upd], ?_⟩
  exact ⟨h.below.alloc h.size _, by simp; have := h.size; omega, h.rows.keep (by simp) (fun i => by unfold madeOf; split <;> rfl), h.mv1, h.mv4, h.mv7, h.ch0.kept hgr (fun _ e => by cases e), h.ch1.kept hgr (fun _ e => by cases e), h.ch2.kept hgr (fun _ e => by cases e),
    (fun e => ⟨(h.ch3 e).1, (h.ch3 e).2.kept hgr (.inr (by simp [Value.ownBlock]))⟩), h.bld, (fun _ => ⟨h10, w.heap.size, rfl, heap_alloc_new w _, h.size, fun i hi => by have := h.rows.1 i (by unfold madeOf at hi ⊢; split at hi <;> exact hi); omega⟩), (fun e => absurd (show L 12 = true from e) (by rw [n12]; simp))⟩

set_option maxHeartbeats 1000000 in
set_option maxRecDepth 100000 in
theorem step12 {u3 u4 u5 u8 u9 u22 u23 u24 u25 u26 u27 u28 u29 u30 u31 u32 u33 u34 u35 u36 u37 u38 u39 u40 : Value} {ka sa wa : Option Addr} {kn kc sn sc wn wc : Nat} {kv sv wv : List Value} {w0 w : World} {Q : Exit → Act → World → Prop} {L : Nat → Bool} {V : Nat → Value} {g : Nat → Nat}
    (hk : Src w0 ka kn kc kv) (hs : Src w0 sa sn sc sv) (hw : Src w0 wa wn wc wv) (h : RInv w0.heap.size w0 ka sa wa kn kc sn sc wn wc kv sv wv L V g w) (h11 : L 11 = true) :
    wpOp Ybaf.prog ((opsAt 1 (Ybaf.f24.body.getD .skip)).getD #[]) Q 12 (fun a' w' => ∃ L' V' g', (arrL L).setIfInBounds 12 true = arrL L' ∧ a' = frameV (.slice ka kn kc) (.slice sa sn sc) (.slice wa wn wc) u3 u4 u5 u8 u9 u22 u23 u24 u25 u26 u27 u28 u29 u30 u31 u32 u33 u34 u35 u36 u37 u38 u39 u40 V' ∧ RInv w0.heap.size w0 ka sa wa kn kc sn sc wn wc kv sv wv L' V' g' w') (frameV (.slice ka kn kc) (.slice sa sn sc) (.slice wa wn wc) u3 u4 u5 u8 u9 u22 u23 u24 u25 u26 u27 u28 u29 u30 u31 u32 u33 u34 u35 u36 u37 u38 u39 u40 V) w := by
  obtain ⟨o, ho, hg, hd, hop⟩ := op12
  refine wpOp_copy ho hg (.inr hop) ?_
  refine ⟨upd L 12 true, upd V 7 (V 21), g, by simp [arrL, upd], by rw [hd]; simp [frameV, Act.put, Act.eval, upd], ?_⟩
  exact ⟨h.below, h.size, h.rows.keep (Nat.le_refl _) (fun i => by unfold madeOf; split <;> rfl), h.mv1, h.mv4, h.mv7, h.ch0, h.ch1, h.ch2, h.ch3, h.bld, h.box, (fun _ => ⟨h11, rfl⟩)⟩

set_option maxHeartbeats 2000000 in
set_option maxRecDepth 100000 in
theorem lit_region {u3 u4 u5 u8 u9 u22 u23 u24 u25 u26 u27 u28 u29 u30 u31 u32 u33 u34 u35 u36 u37 u38 u39 u40 : Value} {ka sa wa : Option Addr} {kn kc sn sc wn wc : Nat} {kv sv wv : List Value} {w0 : World} {Q : Exit → Act → World → Prop} (V0 : Nat → Value)
    (hk : Src w0 ka kn kc kv) (hs : Src w0 sa sn sc sv) (hw : Src w0 wa wn wc wv)
    (hQ : ∀ L V g w, (∀ i, i < 13 → L i = true) → RInv w0.heap.size w0 ka sa wa kn kc sn sc wn wc kv sv wv L V g w → Q .normal (frameV (.slice ka kn kc) (.slice sa sn sc) (.slice wa wn wc) u3 u4 u5 u8 u9 u22 u23 u24 u25 u26 u27 u28 u29 u30 u31 u32 u33 u34 u35 u36 u37 u38 u39 u40 V) w) :
    (Code.region 1 ((opsAt 1 (Ybaf.f24.body.getD .skip)).getD #[]) true).wp Ybaf.prog Q (frameV (.slice ka kn kc) (.slice sa sn sc) (.slice wa wn wc) u3 u4 u5 u8 u9 u22 u23 u24 u25 u26 u27 u28 u29 u30 u31 u32 u33 u34 u35 u36 u37 u38 u39 u40 V0) w0 := by
  refine wp_region_any (by kernel_rfl) ?_
  rw [opsSize]
  refine wpAny_inv (fun l a w => ∃ L V g, l = arrL L ∧ a = frameV (.slice ka kn kc) (.slice sa sn sc) (.slice wa wn wc) u3 u4 u5 u8 u9 u22 u23 u24 u25 u26 u27 u28 u29 u30 u31 u32 u33 u34 u35 u36 u37 u38 u39 u40 V ∧ RInv w0.heap.size w0 ka sa wa kn kc sn sc wn wc kv sv wv L V g w) ?_ 13 _ _ _ (by decide) ?_
  · rintro l a w ⟨L, V, g, rfl, rfl, h⟩
    refine ⟨fun hr => ?_, fun i hi => ?_⟩
    · have hall := ready_none hr
      have e : ∀ i, i < 13 → L i = true := by
        intro i hi
        have := hall i hi
        simp only [Array.getD, arrL, List.size_toArray, List.length_cons, List.length_nil] at this
        match i, hi, this with
        | 0, _, this => simpa using this
        | 1, _, this => simpa using this
        | 2, _, this => simpa using this
        | 3, _, this => simpa using this
        | 4, _, this => simpa using this
        | 5, _, this => simpa using this
        | 6, _, this => simpa using this
        | 7, _, this => simpa using this
        | 8, _, this => simpa using this
        | 9, _, this => simpa using this
        | 10, _, this => simpa using this
        | 11, _, this => simpa using this
        | 12, _, this => simpa using this
      exact hQ L V g w e h
    · have hun := (mem_ready.1 hi).1
      have hlt : i < 13 := by
        obtain ⟨_, o, ho, _⟩ := mem_ready.1 hi
        have := (Array.getElem?_eq_some_iff.1 ho).1
        rw [opsSize] at this
        exact this
      match i, hlt, hi, hun with
      | 0, _, hi, hun => exact step0 hk hs hw h (by simpa [arrL] using hun)
      | 1, _, hi, hun => exact step1 hk hs hw h
      | 2, _, hi, hun => exact step2 hk hs hw h (by simpa [arrL] using hun) (by simpa [arrL] using ready_pred (j := 0) hi (by simp)) (by simpa [arrL] using ready_pred (j := 1) hi (by simp))
      | 3, _, hi, hun => exact step3 hk hs hw h (by simpa [arrL] using hun)
      | 4, _, hi, hun => exact step4 hk hs hw h
      | 5, _, hi, hun => exact step5 hk hs hw h (by simpa [arrL] using hun) (by simpa [arrL] using ready_pred (j := 3) hi (by simp)) (by simpa [arrL] using ready_pred (j := 4) hi (by simp))
      | 6, _, hi, hun => exact step6 hk hs hw h (by simpa [arrL] using hun)
      | 7, _, hi, hun => exact step7 hk hs hw h
      | 8, _, hi, hun => exact step8 hk hs hw h (by simpa [arrL] using hun) (by simpa [arrL] using ready_pred (j := 6) hi (by simp)) (by simpa [arrL] using ready_pred (j := 7) hi (by simp))
      | 9, _, hi, hun => exact step9 hk hs hw h (by simpa [arrL] using hun)
      | 10, _, hi, hun => exact step10 hk hs hw h (by simpa [arrL] using hun) (by simpa [arrL] using ready_pred (j := 2) hi (by simp)) (by simpa [arrL] using ready_pred (j := 5) hi (by simp)) (by simpa [arrL] using ready_pred (j := 8) hi (by simp)) (by simpa [arrL] using ready_pred (j := 9) hi (by simp))
      | 11, _, hi, hun => exact step11 hk hs hw h (by simpa [arrL] using hun) (by simpa [arrL] using ready_pred (j := 10) hi (by simp))
      | 12, _, hi, hun => exact step12 hk hs hw h (by simpa [arrL] using ready_pred (j := 11) hi (by simp))
  · refine ⟨fun _ => false, V0, fun _ => 0, rfl, rfl, ?_⟩
    have h0 : ∀ i, madeOf (fun _ => false) i = false := fun i => by unfold madeOf; split <;> rfl
    refine ⟨⟨rfl, rfl, rfl, Nat.le_refl _, fun _ _ => rfl⟩, Nat.le_refl _, ⟨fun i hi => ?_, fun i j hi => ?_⟩, (fun h => by cases h), (fun h => by cases h), (fun h => by cases h),
      ⟨(fun h => by cases h), (fun h => by cases h), (fun h => by cases h)⟩, ⟨(fun h => by cases h), (fun h => by cases h), (fun h => by cases h)⟩, ⟨(fun h => by cases h), (fun h => by cases h), (fun h => by cases h)⟩,
      (fun h => by cases h), (fun h => by cases h), (fun h => by cases h), (fun h => by cases h)⟩
    · rw [h0] at hi; cases hi
    · rw [h0] at hi; cases hi

end Go.Proofs.YbulkdyyyFmt.LitL
