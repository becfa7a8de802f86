/-
  Seat b6277aF: Document.LinesNotIn.
-/
import Derived.Test.YbulkdyyyFmtHas
import Derived.Test.YbulkdyyyFmtHeld
import Derived.Lib.QuietBelowIn
namespace Go.Proofs.YbulkdyyyFmt
open Go.RowKit Go.Shelf Go.Sort
set_option linter.unusedVariables false
set_option linter.unnecessarySimpa false
attribute [local go_sem] Oper.semAt_some
attribute [local go_sem] wide_fn wide_depth

/-- An append within a fence. -/
theorem wpListIn_append_row {F : Fence} {nF : Nat} {P : Program} {α : Type} {f : α → List Value} {size : Nat} (w : World) {ops : Array Oper} {rest : List Oper} {o : Oper} {A : Act} {Q : Exit → Act → World → Prop} (hgd : o.guard = none) (sl x : Operand) (t : TypeId)
    (ho : o.op = .call { callee := .builtin .append, args := #[sl, x], argTypes := #[t, t] })
    (hf : ∀ x, (f x).length = size) (hone : ∀ x, ∀ u ∈ f x, u.oneCell' = true) (e : TypeId) (i : TypeInfo) (z : Value) (bytes : Nat) (ht : P.underlying t = some (.slice e)) (hi : P.info? e = some i) (hz : i.zero = some z)
    (hsize : i.size = size) (hby : i.bytes = bytes) (hzs : z.cells.size = size)
    (a : Option Addr) (n c : Nat) (xs : List α) (hs : A.eval sl = .slice a n c) (h : Row f size w a n c xs) (ad : Addr) (m c' : Nat) (ys : List α) (hx : A.eval x = .slice (some ad) m c') (hm : ys.length = m) (hnews : ∀ j u, (ys.flatMap f)[j]? = some u → w.cell? (ad.add j) = some u)
    (hsm : n + m ≤ 2000000) (hbyt : bytes ≤ 1000)
    (hK : ∀ a' c2 w', Row f size w' a' (n + m) c2 (xs ++ ys) → w.grownBy w' (blkOf a) → NewAt w a a' → (a' = none → m = 0 ∧ a = none) → wpListIn F nF P ops Q rest (A.put o.dst (.slice a' (n + m) c2)) w') : wpListIn F nF P ops Q (o :: rest) A w := by
  refine wpListIn_plain hgd fun K hK' => ?_
  obtain ⟨a', c2, w', hrun, r1, r2, r3, r4⟩ := run_append_row (P := P) hf hone w t o.type e i z bytes ht hi hz hsize hby hzs a n c xs h ad m c' ys hm hnews hsm hbyt
  unfold Oper.wpIn
  refine ⟨by simp [Oper.about, ho, resolve, Target.leads, Sem.run_pure], ?_⟩
  rw [Oper.semAt_plain F _ _ (by rw [ho]; intro c hc'; cases hc')]
  simp [execOp, ho, resolve, invoke, builtin, hs, hx, hrun, Result.andThen]
  exact hK' _ _ (hK a' c2 w' r1 r2 r3 r4)

theorem one_cells3 {w : World} {b : Nat} {v0 v1 v2 : Value} (h : Blk w b #[v0, v1, v2]) : ∀ j u, [v0, v1, v2][j]? = some u → w.cell? ((⟨b, 0, none⟩ : Addr).add j) = some u := by
  intro j u hu
  rw [Addr.add_lit, h.cell, Nat.zero_add]
  simpa using hu

theorem Blk.putN {W : World} {b l : Nat} {cs : Array Value} {o o' : Obj} (h : Blk W b cs) (hl : W.heap[l]? = some o) (hno : ∀ cs e fz, o ≠ .cells cs e fz) : Blk (W.putObj l o') b cs := by
  refine h.eqv (World.putObj_heap_other ?_)
  rintro rfl
  obtain ⟨e, h⟩ := h
  rw [hl] at h
  exact hno _ _ _ (Option.some.inj h)
theorem Row.putN {α : Type} {f : α → List Value} {s : Nat} {W : World} {a : Option Addr} {n c l : Nat} {xs : List α} {o o' : Obj} (h : Row f s W a n c xs) (hl : W.heap[l]? = some o) (hno : ∀ cs e fz, o ≠ .cells cs e fz) : Row f s (W.putObj l o') a n c xs :=
  ⟨h.len, h.small, h.le, h.cmax, h.pos, h.flat, orMap h.row id fun ⟨b, o1, cs, h1, h2, h3⟩ => ⟨b, o1, cs, h1, h2.putN hl hno, h3⟩⟩

theorem Kb.ofKept {fb : Nat} {X X1 : World} (h : Kept (fun _ => False) X X1) (hf : fb < X.heap.size) : Kb fb X X1 :=
  ⟨h.os, h.tape, h.output, h.size, fun k o hk _ _ => (h.block k (Array.getElem?_eq_some_iff.1 hk).1 id).trans hk, fun k hk => .inl (by rwa [boxBlk_eqv (h.block fb hf id)] at hk)⟩

/-- A line stays where its site's runs do not hold its clock. -/
def keepL (hd : Int → Int → Bool) (σ : Ln → Int) (x : Ln) : Bool := !hd (σ x) x.clock

/-- What the loop has laid. -/
structure Found (fb : Nat) (w4 : World) (k : Ln → Bool) (pre : List Ln) (W : World) (a : Option Addr) (n c : Nat) : Prop where
  box : Blk W fb #[.slice a n c]
  row : Row Ln.cells 3 W a n c (pre.filter k)
  far : ∀ b, blkOf a = some b → w4.heap.size ≤ b
  nil : a = none ↔ pre.filter k = []
  kb : Kb fb w4 W

theorem Found.box_blk {fb : Nat} {w4 : World} {k : Ln → Bool} {pre : List Ln} {W : World} {a : Option Addr} {n c : Nat} (h : Found fb w4 k pre W a n c) : boxBlk W fb = blkOf a := by
  unfold boxBlk
  rw [h.box.cell 0]
  rfl

theorem info48 : (Ybaf.prog.info? 48).map (fun i => (i.zero, i.size, i.bytes)) = some (some (.agg #[.slice none 0 0, .int .u32 0, .string ⟨#[]⟩]), 3, 48) := by kernel_rfl

set_option maxRecDepth 100000 in
set_option maxHeartbeats 2000000 in
theorem lni_any (hd : Int → Int → Bool) (σ : Ln → Int) (sp : Value) (db : Nat) (root : Option Addr) (vs : List Ln) (w : World)
    (hset : Calls Ybaf.prog 25 #[sp] w fun e w1 => ∃ mb n R, e = .returned (.map (some mb)) ∧ LSet w1.heap.size w1 mb n R ∧ (∀ k c, U64 k → holdsC c (R k) = hd k c) ∧ Kept (fun _ => False) w w1)
    (hc1 : w.cell? ⟨db, 19, none⟩ = some (.pointer root)) (hc2 : w.cell? ⟨db, 24, none⟩ = some (.int .i64 0)) (hrope : RopeAt Ln.cells 3 w.heap.size w root vs) (hn : vs.length ≤ 4096) (hσ : ∀ x ∈ vs, SiteOf w x (σ x) ∧ U64 (σ x)) :
    Calls Ybaf.prog 13 #[.pointer (some ⟨db, 0, none⟩), sp] w fun e w' => ∃ a n c, e = .returned (.slice a n c) ∧ Row Ln.cells 3 w' a n c (vs.filter (keepL hd σ)) ∧ (a = none ↔ vs.filter (keepL hd σ) = []) ∧ Kept (fun _ => False) w w' := by
  refine (callsIn_wide (n := 3)).1 (callsIn_of_wp_marks Ybaf.func13 rfl trivial ?_ rfl)
  simp only [Ybaf.ntmps13, List.size_toArray, List.length_cons, List.length_nil, Nat.reduceAdd, Nat.reduceSub, Array.replicate_succ, Array.replicate_zero, List.push_toArray, List.append_toArray, List.nil_append, List.cons_append]
  have HSET : Hid _ := hset
  have HROPE : Hid (RopeAt Ln.cells 3 w.heap.size w root vs) := hrope
  have HSG : Hid _ := hσ
  clear hset hrope hσ
  gi_wp2
  refine CallsIn.mono (callsIn_wide.2 HSET.out) ?_
  rintro e w1 ⟨mb, nm, R, rfl, hL, hRR, hk1⟩
  have HRR : Hid (∀ k c, U64 k → holdsC c (R k) = hd k c) := hRR
  have HL : Hid (LSet w1.heap.size w1 mb nm R) := hL
  have HK1 : Hid (Kept (fun _ => False) w w1) := hk1
  clear hL hk1 hRR
  gi_wp2
  refine CallsIn.mono (callsIn_wide.2 (held_any _ _)) ?_
  rintro e w' ⟨rfl, rfl⟩
  gi_wp2
  obtain ⟨w4, hw4⟩ : ∃ w4, ((w1.alloc (.cells #[.map (some mb)] 51)).alloc (.cells #[.slice none 0 0] 36)).alloc (.cells #[.pointer (some ⟨db, 0, none⟩)] 49) = w4 := ⟨_, rfl⟩
  have hk4 : Kept (fun _ => False) w1 w4 := by rw [← hw4]; exact (((Kept.refl _ w1).alloc _).alloc _).alloc _
  have hs4 : w4.heap.size = w1.heap.size + 3 := by rw [← hw4]; simp
  have y0 : Blk w4 w1.heap.size #[.map (some mb)] := by rw [← hw4]; exact ((Blk.new w1 _ 51).alloc _).alloc _
  have y1 : Blk w4 (w1.heap.size + 1) #[.slice none 0 0] := by
    rw [← hw4]
    have := (Blk.new (w1.alloc (.cells #[.map (some mb)] 51)) #[.slice none 0 0] 36).alloc (.cells #[.pointer (some ⟨db, 0, none⟩)] 49)
    simpa using this
  have y2 : Blk w4 (w1.heap.size + 2) #[.pointer (some ⟨db, 0, none⟩)] := by
    rw [← hw4]
    have := Blk.new ((w1.alloc (.cells #[.map (some mb)] 51)).alloc (.cells #[.slice none 0 0] 36)) #[.pointer (some ⟨db, 0, none⟩)] 49
    simpa using this
  rw [hw4]
  clear hw4
  have hk04 := HK1.out.trans hk4
  have hlw := HK1.out.size
  have hdb : db < w.heap.size := World.block_lt_of_cell? w _ hc1
  have hrope4 := (HROPE.out.kept (hk04.toB _))
  have hL4 := HL.out.kept (hk4.toB _)
  have hnb4 : boxBlk w4 (w1.heap.size + 1) = none := by unfold boxBlk; rw [y1.cell 0]; rfl
  have hd1 := cell_keptF hk04 hc1
  have hd2 := cell_keptF hk04 hc2
  have HY0 : Hid (Blk w4 w1.heap.size #[.map (some mb)]) := y0
  have HL4 : Hid (LSet w1.heap.size w4 mb nm R) := hL4
  have HK04 : Hid (Kept (fun _ => False) w w4) := hk04
  have hfar : ∀ {X : World}, Kb (w1.heap.size + 1) w4 X → Kept (fun k => w1.heap.size ≤ k) w4 X := fun hk => hk.kept ⟨by omega, fun k e => by rw [hnb4] at e; cases e⟩
  refine rangeFunc_go (gf := 43) (lb := #[.pointer (some ⟨w1.heap.size + 2, 0, none⟩)]) rfl (enters_of Ybaf.func43 (by kernel_rfl) rfl) (encs := lnEnc1) (fun _ => rfl) (fb := w1.heap.size + 1)
    (held_iter (B := w.heap.size) (fb := w1.heap.size + 1) (hb := w1.heap.size + 2) (db := db) (root := root) (vs := vs) (by omega)) (by omega) ?pre
    (fun pre X => ∃ a n c, Found (w1.heap.size + 1) w4 (keepL hd σ) pre X a n c) ?own ?rows ?start
    (fun x a1 X => ∃ lb, a1 = { tmps := #[.pointer (some ⟨db, 0, none⟩), sp, undef, undef, .slice none 0 0, .pointer (some ⟨w1.heap.size, 0, none⟩), .pointer (some ⟨w1.heap.size + 1, 0, none⟩), .pointer (some ⟨lb, 0, none⟩), sp, .map (some mb), .pointer (some ⟨db, 0, none⟩), .func (.func 43) #[] #[.pointer (some ⟨w1.heap.size + 2, 0, none⟩)], .agg #[.slice x.a x.n x.c, .int .u32 x.clock, .string x.text], undef, undef, undef, undef, undef, undef, undef, undef, undef, undef, undef], defers := [] } ∧ X.cell? ⟨lb, 0, none⟩ = some (.slice x.a x.n x.c) ∧ X.cell? ⟨lb, 1, none⟩ = some (.int .u32 x.clock) ∧ X.cell? ⟨lb, 2, none⟩ = some (.string x.text) ∧ w4.heap.size ≤ lb) ?ownA ?assign ?body ?done
  case pre =>
    intro o1 o2
    have hka : Kept (fun _ => False) w4 ((w4.alloc o1).alloc o2) := ((Kept.refl _ w4).alloc _).alloc _
    refine ⟨cell_keptF hka (y2.cell 0), cell_keptF hka hd1, cell_keptF hka hd2, hrope4.kept (hka.toB _), by omega, ?_, by omega, by omega, by simp; omega⟩
    rw [← hnb4]
    exact boxBlk_eqv (hka.block _ (by omega) id)
  case own =>
    refine ⟨fun pre X o ⟨a, n, c, h⟩ => ⟨a, n, c, h.box.alloc _, h.row.alloc _, h.far, h.nil, h.kb.alloc h.box.lt _⟩, fun pre X q ⟨a, n, c, h⟩ => ⟨a, n, c, h.box.eqv rfl, h.row.eqv (fun _ _ => rfl), h.far, h.nil, h.kb.drewN _⟩,
      fun pre X l r r' hl hr ⟨a, n, c, h⟩ => ⟨a, n, c, h.box.putN hr (fun _ _ _ e => by cases e), h.row.putN hr (fun _ _ _ e => by cases e), h.far, h.nil, h.kb.put hl (by omega) _⟩,
      fun pre X l ds o hl hr ⟨a, n, c, h⟩ => ⟨a, n, c, h.box.putN hr (fun _ _ _ e => by cases e), h.row.putN hr (fun _ _ _ e => by cases e), h.far, h.nil, h.kb.put hl (by omega) _⟩⟩
  case rows =>
    rintro pre X k ⟨a, n, c, h⟩ e
    rw [h.box_blk] at e
    rcases h.row.row with ⟨rfl, _⟩ | ⟨b, o, cs, rfl, ⟨e', hb⟩, _⟩
    · cases e
    · cases e
      exact ⟨_, _, _, hb⟩
  case start => exact ⟨none, 0, 0, y1, Row.nil (by omega), by simp [blkOf], by simp, Kb.refl _ _⟩
  case ownA =>
    intro x a1
    refine ⟨fun _ X o ⟨lb, h0, h1, h2, h3, h4⟩ => ⟨lb, h0, cell_alloc' h1 _, cell_alloc' h2 _, cell_alloc' h3 _, h4⟩, fun _ X q h => h, fun _ X l r r' hl hr ⟨lb, h0, h1, h2, h3, h4⟩ => ⟨lb, h0, cell_putLoop h1 hr _, cell_putLoop h2 hr _, cell_putLoop h3 hr _, h4⟩, fun _ X l ds o hl hr ⟨lb, h0, h1, h2, h3, h4⟩ => ⟨lb, h0, cell_putShut h1 hr _, cell_putShut h2 hr _, cell_putShut h3 hr _, h4⟩⟩
  case assign =>
    rintro l' pre x X m ⟨a, n, c, h⟩ hpx
    simp only [lnEnc1]
    have HF : Hid (Found (w1.heap.size + 1) w4 (keepL hd σ) pre X a n c) := h
    clear h hfar
    gi_wp2
    have hfx := HF.out.box.lt
    have hsx := HF.out.kb.size
    refine ⟨⟨a, n, c, HF.out.box.alloc _, HF.out.row.alloc _, HF.out.far, HF.out.nil, HF.out.kb.alloc hfx _⟩, (Kb.refl _ X).alloc hfx _, X.heap.size, rfl, ?_, ?_, ?_, hsx⟩
    · simpa using (Blk.new X #[.slice x.a x.n x.c, .int .u32 x.clock, .string x.text] 48).cell 0
    · simpa using (Blk.new X #[.slice x.a x.n x.c, .int .u32 x.clock, .string x.text] 48).cell 1
    · simpa using (Blk.new X #[.slice x.a x.n x.c, .int .u32 x.clock, .string x.text] 48).cell 2
  case body =>
    rintro l' pre x a1 X m ⟨a, n, c, h⟩ ⟨lb, rfl, b0, b1, b2, hlb⟩ hpx
    have hkX := h.kb
    have hkF := hfar hkX
    have hxm : x ∈ vs := by
      obtain ⟨t, ht⟩ := hpx
      rw [← ht]
      simp
    obtain ⟨hsx, hux⟩ := HSG.out x hxm
    have hsite : SiteOf X x (σ x) := by
      obtain ⟨b, o, m, h1, h2, h3, h4, h5⟩ := hsx
      have hbl : b < w.heap.size := World.block_lt_of_cell? w _ h5
      exact ⟨b, o, m, h1, h2, h3, h4, hkX.cell (cell_keptF HK04.out h5) (by simp; omega) (by rw [hnb4]; simp)⟩
    have hLX := HL4.out.kept hkF
    have z5 : X.cell? ⟨w1.heap.size, 0, none⟩ = some (.map (some mb)) := hkX.cell (HY0.out.cell 0) (by simp) (by rw [hnb4]; simp)
    have cN : ∀ d os, CallsIn Fence.wide (m - 1) Ybaf.prog 28 #[.agg #[.slice x.a x.n x.c, .int .u32 x.clock]] (grow (redrawn X d) os) fun e w'' => e = .returned (.agg #[.int .u64 (σ x), .int .u32 x.clock]) ∧ ∃ p : Regrown, w'' = grow (redrawn X p.d) p.os := fun d os =>
      CallsIn.regrown_of (callsIn_wide.2 ((name_any x (σ x) _ (hsite.keptF (keptF_of (below_regrown X d os)))).mono fun e w' ⟨he, hk⟩ => ⟨he, hk.below⟩))
    have cH : ∀ d os, CallsIn Fence.wide (m - 1) Ybaf.prog 27 #[.map (some mb), .agg #[.int .u64 (σ x), .int .u32 x.clock]] (grow (redrawn X d) os) fun e w'' => e = .returned (.bool (holdsC x.clock (R (σ x)))) ∧ ∃ p : Regrown, w'' = grow (redrawn X p.d) p.os := fun d os =>
      CallsIn.regrown_of (callsIn_wide.2 ((lhas_any w1.heap.size mb nm R (σ x) x.clock _ (hLX.kept ((keptF_of (below_regrown X d os)).toB _)) hux).mono fun e w' ⟨he, hk⟩ => ⟨he, hk.below⟩))
    have HKP : Hid (keepL hd σ x = !holdsC x.clock (R (σ x))) := by show keepL hd σ x = !holdsC x.clock (R (σ x)); unfold keepL; rw [HRR.out _ _ hux]
    obtain ⟨q, hq⟩ : ∃ q, holdsC x.clock (R (σ x)) = q := ⟨_, rfl⟩
    rw [hq] at cH HKP
    have r5 := fun d os => cell_regrown z5 d os
    have r0 := fun d os => cell_regrown b0 d os
    have r1 := fun d os => cell_regrown b1 d os
    have HF : Hid (Found (w1.heap.size + 1) w4 (keepL hd σ) pre X a n c) := h
    have HPX : Hid (pre ++ [x] <+: vs) := hpx
    have B0 : Hid _ := b0
    have B1 : Hid _ := b1
    have B2 : Hid _ := b2
    clear hkX hkF hxm hsx hux hsite hLX h hpx hq hfar z5 b0 b1 b2
    gi_wp2
    refine region_quiet_round (C := fun w' => ∃ p : Regrown, w' = grow (redrawn X p.d) p.os) (by kernel_rfl) (by kernel_rfl) (by kernel_rfl) ⟨⟨X.drawn + 1, #[]⟩, by rw [grow_empty]; rfl⟩ ?_
    repeat (gi_big_quiet_step (first | exact cN _ _ | exact cH _ _))
    refine wpQuietIn_nil ?_
    intro _ hw'
    obtain ⟨⟨dq, osq⟩, hw''⟩ := hw'
    have HKX : Hid (Kept (fun _ => False) X (grow (redrawn X dq) osq)) := keptF_of (below_regrown X dq osq)
    subst hw''
    generalize hX1 : grow (redrawn X dq) osq = X1 at HKX ⊢
    clear hX1 cN cH r5 r0 r1
    have HKB : Hid (Kb (w1.heap.size + 1) X X1) := Kb.ofKept HKX.out HF.out.box.lt
    have HF1 : Hid (Found (w1.heap.size + 1) w4 (keepL hd σ) pre X1 a n c) := ⟨HF.out.box.kept HKX.out id, HF.out.row.kept HKX.out (fun _ _ => id), HF.out.far, HF.out.nil, HF.out.kb.trans HKB.out⟩
    have hlen : pre.length ≤ vs.length := by have := HPX.out.length_le; simp at this; omega
    have hnl : n ≤ pre.length := by have := HF.out.row.len; have := List.length_filter_le (keepL hd σ) pre; omega
    cases q with
    | true =>
      gi_wp2
      refine ⟨⟨a, n, c, ?_⟩, HKB.out⟩
      have hfl : (pre ++ [x]).filter (keepL hd σ) = pre.filter (keepL hd σ) := by rw [List.filter_append]; simp [HKP.out]
      refine ⟨HF1.out.box, ?_, HF1.out.far, ?_, HF1.out.kb⟩
      · rw [hfl]; exact HF1.out.row
      · rw [hfl]; exact HF1.out.nil
    | false =>
      have hfl : Hid ((pre ++ [x]).filter (keepL hd σ) = pre.filter (keepL hd σ) ++ [x]) := by show (pre ++ [x]).filter (keepL hd σ) = pre.filter (keepL hd σ) ++ [x]; rw [List.filter_append]; simp [HKP.out]
      have f0 : X1.cell? ⟨w1.heap.size + 1, 0, none⟩ = some (.slice a n c) := HF1.out.box.cell 0
      have l0 := cell_keptF HKX.out B0.out
      have l1 := cell_keptF HKX.out B1.out
      have l2 := cell_keptF HKX.out B2.out
      obtain ⟨i0, hi0, hz0, hz1, hz2⟩ := info_parts info48
      have HQ : Hid (some (w1.heap.size + 1) ≠ blkOf a) := fun e => by have := HF1.out.far _ e.symm; omega
      gi_wp2_with (gi_at_builtin; refine wpListIn_append_row _ rfl (.tmp 19) (.tmp 21) 36 rfl ln_len ln_one 48 i0 (.agg #[.slice none 0 0, .int .u32 0, .string ⟨#[]⟩]) 48 Ybaf.underlying36 hi0 hz0 hz1 hz2 rfl a n c (pre.filter (keepL hd σ)) rfl (HF1.out.row.alloc _) ⟨X1.heap.size, 0, none⟩ 1 1 [x] rfl rfl (one_cells3 (Blk.new X1 _ _)) (by omega) (by omega) ?_; intro a5 c5 w5 hrow hgrow hnew hnone; have hbx := (HF1.out.box.alloc _).grown hgrow HQ.out; have v1 : w5.cell? ⟨w1.heap.size + 1, 0, none⟩ = some (.slice a n c) := hbx.cell 0; have v2 := hbx.free 0; have HBX : Hid (Blk w5 (w1.heap.size + 1) #[.slice a n c]) := hbx; have HR5 : Hid _ := hrow; have HG5 : Hid _ := hgrow; have HW5 : Hid _ := hnew; have HN5 : Hid _ := hnone; clear hrow hgrow hnew hnone hbx)
      have hgr := HG5.out
      have hs1 := HF1.out.kb.size
      have hfa : ∀ b, blkOf a5 = some b → w4.heap.size ≤ b := fun b e => by
        rcases HW5.out b e with h | h
        · exact HF1.out.far b h
        · simp at h
          omega
      have hne : blkOf a5 ≠ some (w1.heap.size + 1) := fun e => by have := hfa _ e; omega
      have hb6 : Blk (w5.setCell ⟨w1.heap.size + 1, 0, none⟩ (.slice a5 (n + 1) c5)) (w1.heap.size + 1) #[.slice a5 (n + 1) c5] := by simpa using HBX.out.set 0 (.slice a5 (n + 1) c5)
      have hbb : boxBlk (w5.setCell ⟨w1.heap.size + 1, 0, none⟩ (.slice a5 (n + 1) c5)) (w1.heap.size + 1) = blkOf a5 := by unfold boxBlk; rw [hb6.cell 0]; rfl
      have hkb6 : Kb (w1.heap.size + 1) X1 (w5.setCell ⟨w1.heap.size + 1, 0, none⟩ (.slice a5 (n + 1) c5)) := by
        refine ⟨hgr.os, hgr.tape, hgr.output, ?_, fun k o hk h1 h2 => ?_, fun k e => ?_⟩
        · have := hgr.size
          simp [World.setCell] at this ⊢
          omega
        · have hlt := (Array.getElem?_eq_some_iff.1 hk).1
          rw [HF1.out.box_blk] at h2
          rw [heap_setCell_other w5 _ k _ h1, hgr.block k (by simp; omega) (fun e => h2 e.symm), Below.heap_alloc _ _ _ hlt]
          exact hk
        · rw [hbb] at e
          rw [HF1.out.box_blk]
          rcases HW5.out k e with h | h
          · exact .inl h
          · simp at h
            exact .inr (by omega)
      refine ⟨⟨a5, n + 1, c5, hb6, ?_, hfa, ?_, HF1.out.kb.trans hkb6⟩, HKB.out.trans hkb6⟩
      · rw [hfl.out]
        exact HR5.out.other hne _ _
      · rw [hfl.out]
        constructor
        · intro e
          have := (HN5.out e).1
          omega
        · intro e
          simp at e
  case done =>
    rintro D X hD ⟨a, n, c, h⟩ hk2 hdef
    have HF : Hid (Found (w1.heap.size + 1) w4 (keepL hd σ) vs X a n c) := h
    have z0 : X.cell? ⟨w1.heap.size + 1, 0, none⟩ = some (.slice a n c) := h.box.cell 0
    have hna : D ≠ w1.heap.size + 1 := by omega
    clear h hk2 hfar
    gi_wp2
    refine ⟨by simp, .inl ⟨_, _, rfl, run_takeDeferred hdef, ?_⟩⟩
    refine ⟨_, results_tmp rfl _ _ _, a, n, c, rfl, HF.out.row.putN hdef (fun _ _ _ e => by cases e), HF.out.nil, ?_⟩
    have hkx := HF.out.kb
    have h04 := HK04.out
    refine ⟨hkx.os.trans h04.os, hkx.tape.trans h04.tape, hkx.output.trans h04.output, ?_, fun k hk _ => ?_⟩
    · have := hkx.size
      have := h04.size
      simp
      omega
    · have := h04.size
      exact ((World.putObj_heap_other (by omega)).trans (hkx.eqv (by omega) (by omega) (by rw [hnb4]; simp))).trans (h04.block k hk id)

end Go.Proofs.YbulkdyyyFmt
