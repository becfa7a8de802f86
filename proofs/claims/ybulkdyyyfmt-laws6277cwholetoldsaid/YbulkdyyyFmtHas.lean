/-
  Seat b6277aF: is a line in the set: Site, nameOf, clockSet.has, lineSet.has.
-/
import Derived.Test.YbulkdyyyFmtVMap
namespace Go.Proofs.YbulkdyyyFmt
open Go.RowKit Go.Sort
set_option linter.unusedVariables false
set_option linter.unnecessarySimpa false

/-- The site in a line's last pair. -/
def SiteOf (w : World) (x : Ln) (s : Int) : Prop := ∃ b o m, x.a = some ⟨b, o, none⟩ ∧ x.n = m + 1 ∧ x.n ≤ x.c ∧ x.n ≤ 3 ∧ w.cell? ⟨b, o + m * 2 + 1, none⟩ = some (.int .u64 s)

theorem SiteOf.keptF {w w' : World} {x : Ln} {s : Int} (h : SiteOf w x s) (hk : Kept (fun _ => False) w w') : SiteOf w' x s := by
  obtain ⟨b, o, m, h1, h2, h3, h4, h5⟩ := h
  exact ⟨b, o, m, h1, h2, h3, h4, cell_keptF hk h5⟩

theorem site_any (x : Ln) (s : Int) (w : World) (h : SiteOf w x s) :
    Calls Ybaf.prog 14 #[.agg #[.slice x.a x.n x.c, .int .u32 x.clock]] w fun e w' => e = .returned (.int .u64 s) ∧ Kept (fun _ => False) w w' := by
  obtain ⟨b, o, m, h1, h2, h3, h4, h5⟩ := h
  obtain ⟨a, n, c, clock, text⟩ := x
  dsimp only at h1 h2 h3 h4 ⊢
  subst h1 h2
  have hlt : b < w.heap.size := World.block_lt_of_cell? w _ h5
  have hm : m = 0 ∨ m = 1 ∨ m = 2 := by omega
  rcases hm with rfl | rfl | rfl
  · go_enter Ybaf.func14, Ybaf.ntmps14
    go_wp2
    go_ret
    exact ⟨rfl, (Kept.refl _ w).alloc _⟩
  · go_enter Ybaf.func14, Ybaf.ntmps14
    go_wp2
    go_ret
    exact ⟨rfl, (Kept.refl _ w).alloc _⟩
  · go_enter Ybaf.func14, Ybaf.ntmps14
    go_wp2
    go_ret
    exact ⟨rfl, (Kept.refl _ w).alloc _⟩

/-- A set of clock values in memory. -/
def CSet (B : Nat) (w : World) (p : Option Addr) (rs : List Rn) : Prop :=
  (p = none ∧ rs = []) ∨ ∃ sb root cs, p = some ⟨sb, 0, none⟩ ∧ sb < B ∧ Blk w sb cs ∧ cs[0]? = some (.pointer root) ∧ RopeAt Rn.cells 2 B w root rs

theorem CSet.kept {B : Nat} {w w' : World} {p : Option Addr} {rs : List Rn} (h : CSet B w p rs) (hk : Kept (fun k => B ≤ k) w w') : CSet B w' p rs :=
  orMap h id fun ⟨sb, root, cs, h1, h2, h3, h4, h5⟩ => ⟨sb, root, cs, h1, h2, h3.kept hk (by omega), h4, h5.kept hk⟩

set_option maxHeartbeats 1000000 in
theorem chas_any (B : Nat) (p : Option Addr) (rs : List Rn) (c : Int) (w : World) (h : CSet B w p rs) (hs : Runs rs) :
    Calls Ybaf.prog 47 #[.pointer p, .int .u32 c] w fun e w' => e = .returned (.bool (holdsC c rs)) ∧ Kept (fun _ => False) w w' := by
  rcases h with ⟨rfl, rfl⟩ | ⟨sb, root, cs, rfl, h1, h2, h3, h4⟩
  · clear hs
    go_enter Ybaf.func47, Ybaf.ntmps47
    go_wp2
    go_ret
    exact ⟨rfl, (Kept.refl _ w).alloc _⟩
  · have c0 : w.cell? ⟨sb, 0, none⟩ = some (.pointer root) := (h2.cell 0).trans h3
    have hka := (Kept.refl (fun _ => False) w).alloc (.cells #[.int .u32 c] 40)
    have hcall := search_any c w.heap.size sb 0 B root rs (w.alloc (.cells #[.int .u32 c] 40)) (cell_keptF hka c0) (h4.kept (hka.toB B)) hs (by simpa using (Blk.new w #[.int .u32 c] 40).cell 0)
    have HC : Hid _ := hcall
    have HK : Hid _ := hka
    have hlt : sb < w.heap.size := h2.lt
    clear hcall hka h2 h3 h4 hs
    go_enter Ybaf.func47, Ybaf.ntmps47
    go_wp2_with fail
    refine Calls.mono HC.out ?_
    rintro e w1 ⟨⟨i, rfl⟩, hk1⟩
    have HK1 : Hid _ := HK.out.trans hk1
    clear hk1
    go_wp2_with fail
    go_ret
    exact ⟨rfl, HK1.out⟩

/-- The set of lines in memory: for each site its runs. -/
def LSet (B : Nat) (w : World) (mb n : Nat) (R : Int → List Rn) : Prop :=
  ∃ f, VM w mb n f ∧ mb < B ∧ ∀ k, U64 k → ∃ p, (f k).getD (.pointer none) = .pointer p ∧ CSet B w p (R k) ∧ Runs (R k)

theorem LSet.kept {B : Nat} {w w' : World} {mb n : Nat} {R : Int → List Rn} (h : LSet B w mb n R) (hk : Kept (fun k => B ≤ k) w w') : LSet B w' mb n R := by
  obtain ⟨f, h1, h2, h3⟩ := h
  exact ⟨f, h1.kept hk (by omega), h2, fun k hU => by
    obtain ⟨p, e1, e2, e3⟩ := h3 k hU
    exact ⟨p, e1, e2.kept hk, e3⟩⟩

theorem zero128 (w : World) : (zeroValue 128).run Ybaf.prog w = .ok (.pointer none) w := by kernel_rfl

set_option maxHeartbeats 1000000 in
theorem lhas_any (B mb n : Nat) (R : Int → List Rn) (s c : Int) (w : World) (h : LSet B w mb n R) (hU : U64 s) :
    Calls Ybaf.prog 27 #[.map (some mb), .agg #[.int .u64 s, .int .u32 c]] w fun e w' => e = .returned (.bool (holdsC c (R s))) ∧ Kept (fun _ => False) w w' := by
  have hka := (Kept.refl (fun _ => False) w).alloc (.cells #[.int .u64 s, .int .u32 c] 104)
  obtain ⟨f, h1, h2, h3⟩ := h.kept (hka.toB B)
  obtain ⟨p, e1, e2, e3⟩ := h3 s hU
  have hl := h1.look Ybaf.underlying51 (zero128 _) hU
  rw [e1] at hl
  have hcall := chas_any B p (R s) c _ e2 e3
  have HC : Hid _ := hcall
  have HK : Hid _ := hka
  clear h h1 h3 e1 e2 e3 hcall hka
  go_enter Ybaf.func27, Ybaf.ntmps27
  go_wp2_with fail
  refine Calls.mono HC.out ?_
  rintro e w1 ⟨rfl, hk1⟩
  have HK1 : Hid _ := HK.out.trans hk1
  clear hk1
  go_wp2_with fail
  go_ret
  exact ⟨rfl, HK1.out⟩

set_option maxHeartbeats 1000000 in
theorem name_any (x : Ln) (s : Int) (w : World) (h : SiteOf w x s) :
    Calls Ybaf.prog 28 #[.agg #[.slice x.a x.n x.c, .int .u32 x.clock]] w fun e w' => e = .returned (.agg #[.int .u64 s, .int .u32 x.clock]) ∧ Kept (fun _ => False) w w' := by
  have HS : Hid (SiteOf w x s) := h
  clear h
  go_enter Ybaf.func28, Ybaf.ntmps28
  go_wp2_with fail
  obtain ⟨W, hW⟩ : ∃ W, (w.alloc (.cells #[.slice x.a x.n x.c, .int .u32 x.clock] 46)).alloc (.cells #[.int .u64 0, .int .u32 0] 104) = W := ⟨_, rfl⟩
  have hka : Kept (fun _ => False) w W := by rw [← hW]; exact ((Kept.refl _ w).alloc _).alloc _
  have hb1 : Blk W w.heap.size #[.slice x.a x.n x.c, .int .u32 x.clock] := by rw [← hW]; exact (Blk.new w _ 46).alloc _
  have hb2 : Blk W (w.heap.size + 1) #[.int .u64 0, .int .u32 0] := by
    rw [← hW]
    have := Blk.new (w.alloc (.cells #[.slice x.a x.n x.c, .int .u32 x.clock] 46)) #[.int .u64 0, .int .u32 0] 104
    simpa using this
  rw [hW]
  have HS1 : Hid (SiteOf W x s) := HS.out.keptF hka
  have HKA : Hid (Kept (fun _ => False) w W) := hka
  have HB1 : Hid (Blk W w.heap.size #[.slice x.a x.n x.c, .int .u32 x.clock]) := hb1
  have HB2 : Hid (Blk W (w.heap.size + 1) #[.int .u64 0, .int .u32 0]) := hb2
  have y0 : W.cell? ⟨w.heap.size, 0, none⟩ = some (.slice x.a x.n x.c) := hb1.cell 0
  have y1 : W.cell? ⟨w.heap.size, 1, none⟩ = some (.int .u32 x.clock) := hb1.cell 1
  clear hW hka hb1 hb2
  go_region_held3 (fun w' => w'.cell? ⟨w.heap.size, 0, none⟩ = some (.slice x.a x.n x.c) ∧ w'.cell? ⟨w.heap.size, 1, none⟩ = some (.int .u32 x.clock)) (go_keep) (first
    | (go_at_call 14; refine (site_any x s W.drew HS1.out).mono ?_; rintro e w1 ⟨rfl, hk1⟩; have hk1' : Kept (fun _ => False) W w1 := ⟨hk1.os, hk1.tape, hk1.output, hk1.size, hk1.block⟩; have hb1 := HB1.out.kept hk1' id; have hb2 := HB2.out.kept hk1' id; have z0 : w1.cell? ⟨w.heap.size, 0, none⟩ = some (.slice x.a x.n x.c) := hb1.cell 0; have z1 : w1.cell? ⟨w.heap.size, 1, none⟩ = some (.int .u32 x.clock) := hb1.cell 1; have z2 : w1.cell? ⟨w.heap.size + 1, 0, none⟩ = some (.int .u64 0) := hb2.cell 0; have z3 : w1.cell? ⟨w.heap.size + 1, 1, none⟩ = some (.int .u32 0) := hb2.cell 1; have z4 := hb2.free 0; have z5 := hb2.free 1; have HK1 : Hid (Kept (fun _ => False) w w1) := HKA.out.trans hk1'; clear hk1 hk1' hb1 hb2)
    | fail)
  all_goals
    go_wp2_with fail
    refine bodyPost_ret (v := .agg #[.int .u64 s, .int .u32 x.clock]) (by simp [results, Ybaf.results28, go_sem, z2, z3]; try rfl) rfl ?_
    exact ⟨rfl, (HK1.out.over (p := ⟨w.heap.size + 1, 0, none⟩) (by simp) _).over (p := ⟨w.heap.size + 1, 1, none⟩) (by simp) _⟩

end Go.Proofs.YbulkdyyyFmt
