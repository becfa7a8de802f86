/-
  Seat b6272aD: what the row's readings give of the arguments and of the table 'kinds'.
-/
import Derived.Test.YbulkdywgDoorT0
import Derived.ProofKit
import Derived.OpenShut
import Derived.Deep.Slices
import Derived.LaidMore
namespace Go.Proofs.YbulkdywgDoor
open Go.ChangeShapes Go.WideShapes Go.ChangeAt Go.RowKit Go.Deep
set_option linter.unusedVariables false
set_option maxRecDepth 100000

theorem one_of {l : List Value} {j : Nat} {v : Value} (h : (l.drop j).take 1 = [v]) : l[j]? = some v := by
  cases hl : l.drop j with
  | nil => rw [hl] at h; cases h
  | cons a r =>
    rw [hl] at h
    simp at h
    subst h
    have : (l.drop j)[0]? = some a := by rw [hl]; rfl
    simpa using this

theorem cells21 : Ybad.prog.cellsOf 21 = 1 := by kernel_rfl
theorem cells22 : Ybad.prog.cellsOf 22 = 1 := by kernel_rfl
theorem cells23 : Ybad.prog.cellsOf 23 = 1 := by kernel_rfl
theorem cells2 : Ybad.prog.cellsOf 2 = 1 := by kernel_rfl
theorem cells3 : Ybad.prog.cellsOf 3 = 1 := by kernel_rfl
theorem cells4 : Ybad.prog.cellsOf 4 = 1 := by kernel_rfl
theorem cells5 : Ybad.prog.cellsOf 5 = 1 := by kernel_rfl
theorem cells9 : Ybad.prog.cellsOf 9 = 1 := by kernel_rfl
theorem cells52 : Ybad.prog.cellsOf 52 = 1 := by kernel_rfl
theorem cells25 : Ybad.prog.cellsOf 25 = 17 := by kernel_rfl
theorem cells29 : Ybad.prog.cellsOf 29 = 6 := by kernel_rfl
theorem cells32 : Ybad.prog.cellsOf 32 = 4 := by kernel_rfl
theorem cells41 : Ybad.prog.cellsOf 41 = 4 := by kernel_rfl
theorem cells113 : Ybad.prog.cellsOf 113 = 3 := by kernel_rfl
theorem bytes32 : Ybad.prog.bytesOf 32 = 48 := by kernel_rfl
theorem bytes41 : Ybad.prog.bytesOf 41 = 32 := by kernel_rfl

theorem wf_u8 {n : Int} (h : (Lit.int .u8 n).wf = true) : 0 ≤ n ∧ n < 256 := by
  simp only [Lit.wf, Bool.and_eq_true, decide_eq_true_eq] at h
  have e1 : IntKind.u8.min = 0 := by decide
  have e2 : IntKind.u8.max = 255 := by decide
  omega
theorem wf_u32 {n : Int} (h : (Lit.int .u32 n).wf = true) : 0 ≤ n := by
  simp only [Lit.wf, Bool.and_eq_true, decide_eq_true_eq] at h
  have e1 : IntKind.u32.min = 0 := by decide
  omega

section
variable {H : Type} {enc : TypeId × Value → H} {w : World} {base : Nat} {spare : Nat → Bool} {held : Bool} {t : TypeId} {fs : Array Field} {fuel : Nat} {cs : List Value} {x : DataW H × List MemPlace} {f : Field}

theorem field_int (ht : Ybad.prog.underlying t = some (.struct fs)) (h : DataW.trod enc Ybad.prog w base spare held fuel t cs = some x) (j : Nat) (hf : fs[j]? = some f) (ho : f.offset = j) {k : IntKind} (hk : Ybad.prog.underlying f.type = some (.int k)) (hc : Ybad.prog.cellsOf f.type = 1) :
    ∃ n, cs[j]? = some (.int k n) ∧ (Lit.int k n).wf = true ∧ ∃ ds, x.1 = .agg ds ∧ ds[j]? = some (.lit (.int k n)) := by
  obtain ⟨xs, n, _, rfl, hl, hlen, hx⟩ := DataW.trod_struct ht h
  have h1 := hx j f hf
  rw [ho, hc] at h1
  have hj : j < xs.length := by rw [hlen]; exact (Array.getElem?_eq_some_iff.1 hf).1
  obtain ⟨y, hy⟩ : ∃ y, xs[j]? = some y := ⟨_, List.getElem?_eq_getElem hj⟩
  rw [hy] at h1
  obtain ⟨m, e1, e2, e3⟩ := DataW.trod_int hk h1
  exact ⟨m, one_of e1, e3, _, rfl, by simp [hy, e2]⟩

theorem field_string (ht : Ybad.prog.underlying t = some (.struct fs)) (h : DataW.trod enc Ybad.prog w base spare held fuel t cs = some x) (j : Nat) (hf : fs[j]? = some f) (ho : f.offset = j) (hk : Ybad.prog.underlying f.type = some .string) (hc : Ybad.prog.cellsOf f.type = 1) :
    ∃ s : ByteArray, cs[j]? = some (.string s) ∧ s.size ≤ maxLen := by
  obtain ⟨xs, n, _, rfl, hl, hlen, hx⟩ := DataW.trod_struct ht h
  have h1 := hx j f hf
  rw [ho, hc] at h1
  have hj : j < xs.length := by rw [hlen]; exact (Array.getElem?_eq_some_iff.1 hf).1
  obtain ⟨y, hy⟩ : ∃ y, xs[j]? = some y := ⟨_, List.getElem?_eq_getElem hj⟩
  rw [hy] at h1
  obtain ⟨m, e1, e2, e3⟩ := DataW.trod_string hk h1
  exact ⟨m, one_of e1, e3⟩

theorem field_bool (ht : Ybad.prog.underlying t = some (.struct fs)) (h : DataW.trod enc Ybad.prog w base spare held fuel t cs = some x) (j : Nat) (hf : fs[j]? = some f) (ho : f.offset = j) (hk : Ybad.prog.underlying f.type = some .bool) (hc : Ybad.prog.cellsOf f.type = 1) :
    ∃ b, cs[j]? = some (.bool b) := by
  obtain ⟨xs, n, _, rfl, hl, hlen, hx⟩ := DataW.trod_struct ht h
  have h1 := hx j f hf
  rw [ho, hc] at h1
  have hj : j < xs.length := by rw [hlen]; exact (Array.getElem?_eq_some_iff.1 hf).1
  obtain ⟨y, hy⟩ : ∃ y, xs[j]? = some y := ⟨_, List.getElem?_eq_getElem hj⟩
  rw [hy] at h1
  obtain ⟨m, e1, e2⟩ := DataW.trod_bool hk h1
  exact ⟨m, one_of e1⟩

theorem msg_pre {r : Reach} {b0 : Nat} {v : Value} {d : DataW H} {pl : List MemPlace} (hv : Value.okWide Ybad.prog w r b0 25 v) (h : DataW.Trod enc Ybad.prog w base spare held 25 v d pl) :
    ∃ (m : Msg) (k0 o0 q0 : Int) (key0 : ByteArray) (kp : Int), v = .agg (argCells m k0 o0 q0 key0 kp) ∧ m.o = o0 % 4 ∧ m.q = q0 % 4 ∧ 0 ≤ q0 ∧ (0 ≤ k0 ∧ k0 < 256) ∧ (0 ≤ kp ∧ kp < 256) ∧ key0.size ≤ maxLen := by
  obtain ⟨cs, rfl, hsz⟩ := okWide_struct Ybad.underlying25 hv
  obtain ⟨fuel, h⟩ := h
  obtain ⟨n0, e0, r0, -⟩ := field_int Ybad.underlying25 h 0 rfl rfl Ybad.underlying5 cells5
  obtain ⟨n1, e1, r1, -⟩ := field_int Ybad.underlying25 h 1 rfl rfl Ybad.underlying21 cells21
  obtain ⟨n2, e2, r2, -⟩ := field_int Ybad.underlying25 h 2 rfl rfl Ybad.underlying22 cells22
  obtain ⟨n3, e3, r3, -⟩ := field_int Ybad.underlying25 h 3 rfl rfl Ybad.underlying3 cells3
  obtain ⟨n4, e4, r4, -⟩ := field_int Ybad.underlying25 h 4 rfl rfl Ybad.underlying22 cells22
  obtain ⟨n5, e5, r5, -⟩ := field_int Ybad.underlying25 h 5 rfl rfl Ybad.underlying22 cells22
  obtain ⟨n6, e6, r6, -⟩ := field_int Ybad.underlying25 h 6 rfl rfl Ybad.underlying3 cells3
  obtain ⟨n7, e7, r7, -⟩ := field_int Ybad.underlying25 h 7 rfl rfl Ybad.underlying3 cells3
  obtain ⟨n8, e8, r8, -⟩ := field_int Ybad.underlying25 h 8 rfl rfl Ybad.underlying3 cells3
  obtain ⟨n9, e9, r9⟩ := field_string Ybad.underlying25 h 9 rfl rfl Ybad.underlying9 cells9
  obtain ⟨n10, e10, r10⟩ := field_string Ybad.underlying25 h 10 rfl rfl Ybad.underlying9 cells9
  obtain ⟨n11, e11, r11, -⟩ := field_int Ybad.underlying25 h 11 rfl rfl Ybad.underlying5 cells5
  obtain ⟨n12, e12, r12, -⟩ := field_int Ybad.underlying25 h 12 rfl rfl Ybad.underlying23 cells23
  obtain ⟨n13, e13, r13, -⟩ := field_int Ybad.underlying25 h 13 rfl rfl Ybad.underlying21 cells21
  obtain ⟨n14, e14⟩ := field_bool Ybad.underlying25 h 14 rfl rfl Ybad.underlying4 cells4
  obtain ⟨n15, e15, r15, -⟩ := field_int Ybad.underlying25 h 15 rfl rfl Ybad.underlying3 cells3
  obtain ⟨n16, e16, r16, -⟩ := field_int Ybad.underlying25 h 16 rfl rfl Ybad.underlying3 cells3
  clear h hv
  rw [cells25] at hsz
  obtain ⟨l⟩ := cs
  match l, hsz with
  | [c0, c1, c2, c3, c4, c5, c6, c7, c8, c9, c10, c11, c12, c13, c14, c15, c16], _ =>
    simp [Value.cells] at e0 e1 e2 e3 e4 e5 e6 e7 e8 e9 e10 e11 e12 e13 e14 e15 e16
    subst e0 e1 e2 e3 e4 e5 e6 e7 e8 e9 e10 e11 e12 e13 e14 e15 e16
    exact ⟨{ o := n1 % 4, q := n2 % 4, kind := 0, route := n3, src := n4, dst := n5, hop := n6, skip := n7, skipped := n8, key := n9, value := n10, count := n12, writer := n13, found := n14, hops := n15, load := n16 }, n0, n1, n2, n9, n11, rfl, rfl, rfl, wf_u32 r2, wf_u8 r0, wf_u8 r11, r9⟩

theorem st_pre {r : Reach} {b0 : Nat} {v : Value} {d : DataW H} {pl : List MemPlace} (hv : Value.okWide Ybad.prog w r b0 29 v) (h : DataW.Trod enc Ybad.prog w base spare held 29 v d pl) :
    ∃ (bt now told typ : Int) (cmp fresh : Bool), v = .agg #[.int .u8 bt, .int .i64 now, .int .i64 told, .int .i64 typ, .bool cmp, .bool fresh] ∧ 0 ≤ bt := by
  obtain ⟨cs, rfl, hsz⟩ := okWide_struct Ybad.underlying29 hv
  obtain ⟨fuel, h⟩ := h
  obtain ⟨n0, e0, r0, -⟩ := field_int Ybad.underlying29 h 0 rfl rfl Ybad.underlying5 cells5
  obtain ⟨n1, e1, r1, -⟩ := field_int Ybad.underlying29 h 1 rfl rfl Ybad.underlying2 cells2
  obtain ⟨n2, e2, r2, -⟩ := field_int Ybad.underlying29 h 2 rfl rfl Ybad.underlying3 cells3
  obtain ⟨n3, e3, r3, -⟩ := field_int Ybad.underlying29 h 3 rfl rfl Ybad.underlying3 cells3
  obtain ⟨n4, e4⟩ := field_bool Ybad.underlying29 h 4 rfl rfl Ybad.underlying4 cells4
  obtain ⟨n5, e5⟩ := field_bool Ybad.underlying29 h 5 rfl rfl Ybad.underlying4 cells4
  clear h hv
  rw [cells29] at hsz
  obtain ⟨l⟩ := cs
  match l, hsz with
  | [c0, c1, c2, c3, c4, c5], _ =>
    simp [Value.cells] at e0 e1 e2 e3 e4 e5
    subst e0 e1 e2 e3 e4 e5
    exact ⟨n0, n1, n2, n3, n4, n5, rfl, (wf_u8 r0).1⟩

theorem choose_to {α : Type} (x0 : α) {n : Nat} {p : Nat → α → Prop} (h : ∀ i, i < n → ∃ x, p i x) : ∃ f : Nat → α, ∀ i, i < n → p i (f i) := @choose_lt α ⟨x0⟩ n p h

theorem rz_pre {v : Value} {d : DataW H} {pl : List MemPlace} (h : DataW.trod enc Ybad.prog w base spare held fuel 27 [v] = some (d, pl)) (hw : ∀ n ∈ d.weights Ybad.prog 27, n ≤ reachBytes) :
    ∃ (a : Option Addr) (n c : Nat) (zs : List Rz), v = .slice a n c ∧ (n : Int) ≤ 140737488355328 ∧ (n ≤ 4096 → Rzs w a n zs) := by
  rcases open_slice Ybad.underlying27 h with ⟨hcs, _⟩ | ⟨a, len, cap, m, n, D, Pl, hcs, hb, hl, hm, hmm, hd, hx⟩
  · cases hcs
    exact ⟨none, 0, 0, [], rfl, by omega, fun _ => ⟨rfl, by omega, by simp, .inl rfl⟩⟩
  · cases hcs
    cases hd
    have hlm : len ≤ m := by rw [hmm]; split <;> omega
    have hbb := hw ((len + (m - len)) * 32) (by simp [DataW.weights, Ybad.underlying27, bytes41])
    unfold reachBytes at hbb
    have each : ∀ k, k < len → ∃ x : Rz, (w.cell? (a.add (k * 4)) = some (.int .i32 x.o) ∧ w.cell? (a.add (k * 4 + 1)) = some (.int .u32 x.q) ∧ w.cell? (a.add (k * 4 + 2)) = some (.string x.key) ∧ w.cell? (a.add (k * 4 + 3)) = some (.int .i64 x.t)) ∧ 0 ≤ x.q ∧ x.key.size ≤ maxLen := fun k hk => by
      obtain ⟨cs', h1, h2⟩ := hx k (by omega)
      rw [cells41] at h1
      obtain ⟨_, hlen, hcell⟩ := World.cells?_some h1
      obtain ⟨n0, e0, r0, -⟩ := field_int Ybad.underlying41 h2 0 rfl rfl Ybad.underlying21 cells21
      obtain ⟨n1, e1, r1, -⟩ := field_int Ybad.underlying41 h2 1 rfl rfl Ybad.underlying22 cells22
      obtain ⟨n2, e2, r2⟩ := field_string Ybad.underlying41 h2 2 rfl rfl Ybad.underlying9 cells9
      obtain ⟨n3, e3, r3, -⟩ := field_int Ybad.underlying41 h2 3 rfl rfl Ybad.underlying2 cells2
      have f0 := hcell 0 (by omega)
      have f1 := hcell 1 (by omega)
      have f2 := hcell 2 (by omega)
      have f3 := hcell 3 (by omega)
      rw [add_add] at f0 f1 f2 f3
      exact ⟨⟨n0, n1, n2, n3⟩, ⟨by simpa using f0.trans e0, f1.trans e1, f2.trans e2, f3.trans e3⟩, wf_u32 r1, r2⟩
    obtain ⟨g, hg⟩ := choose_to (⟨0, 0, ⟨#[]⟩, 0⟩ : Rz) each
    refine ⟨some a, len, cap, (List.range len).map g, rfl, by omega, fun hs => ⟨by simp, hs, fun z hz => ?_, ?_⟩⟩
    · obtain ⟨k, hk, rfl⟩ := List.mem_map.1 hz
      exact (hg k (List.mem_range.1 hk)).2
    · by_cases h0 : len = 0
      · exact .inl h0
      · obtain ⟨b, o, s⟩ := a
        have hs : s = none := by simpa [Addr.add] using World.cell?_spot (hg 0 (by omega)).1.1
        subst hs
        refine .inr ⟨b, o, rfl, fun j x hx' => ?_⟩
        have hj : j < len := by
          have := (List.getElem?_eq_some_iff.1 hx').1
          simpa using this
        obtain rfl : g j = x := by simpa [hj] using hx'
        obtain ⟨⟨y0, y1, y2, y3⟩, -⟩ := hg j hj
        rw [Addr.add_lit] at y0 y1 y2 y3
        simp only [← Nat.add_assoc] at y0 y1 y2 y3
        exact ⟨y0, y1, y2, y3⟩

theorem it_pre {v : Value} {d : DataW H} {pl : List MemPlace} (h : DataW.trod enc Ybad.prog w base spare held fuel 26 [v] = some (d, pl)) (hw : ∀ n ∈ d.weights Ybad.prog 26, n ≤ reachBytes) :
    ∃ (a : Option Addr) (n c : Nat) (zs : List It), v = .slice a n c ∧ (n : Int) ≤ 140737488355328 ∧ (n ≤ 4096 → Items w a n zs ∧ ∀ x ∈ zs, x.k.size ≤ maxLen) := by
  rcases open_slice Ybad.underlying26 h with ⟨hcs, _⟩ | ⟨a, len, cap, m, n, D, Pl, hcs, hb, hl, hm, hmm, hd, hx⟩
  · cases hcs
    exact ⟨none, 0, 0, [], rfl, by omega, fun _ => ⟨⟨rfl, by omega, .inl rfl⟩, by simp⟩⟩
  · cases hcs
    cases hd
    have hlm : len ≤ m := by rw [hmm]; split <;> omega
    have hbb := hw ((len + (m - len)) * 48) (by simp [DataW.weights, Ybad.underlying26, bytes32])
    unfold reachBytes at hbb
    have each : ∀ k, k < len → ∃ x : It, (w.cell? (a.add (k * 4)) = some (.string x.k) ∧ w.cell? (a.add (k * 4 + 1)) = some (.string x.v) ∧ w.cell? (a.add (k * 4 + 2)) = some (.int .u64 x.c) ∧ w.cell? (a.add (k * 4 + 3)) = some (.int .i32 x.r)) ∧ x.k.size ≤ maxLen := fun k hk => by
      obtain ⟨cs', h1, h2⟩ := hx k (by omega)
      rw [cells32] at h1
      obtain ⟨_, hlen, hcell⟩ := World.cells?_some h1
      obtain ⟨n0, e0, r0⟩ := field_string Ybad.underlying32 h2 0 rfl rfl Ybad.underlying9 cells9
      obtain ⟨n1, e1, r1⟩ := field_string Ybad.underlying32 h2 1 rfl rfl Ybad.underlying9 cells9
      obtain ⟨n2, e2, r2, -⟩ := field_int Ybad.underlying32 h2 2 rfl rfl Ybad.underlying23 cells23
      obtain ⟨n3, e3, r3, -⟩ := field_int Ybad.underlying32 h2 3 rfl rfl Ybad.underlying21 cells21
      have f0 := hcell 0 (by omega)
      have f1 := hcell 1 (by omega)
      have f2 := hcell 2 (by omega)
      have f3 := hcell 3 (by omega)
      rw [add_add] at f0 f1 f2 f3
      exact ⟨⟨n0, n1, n2, n3⟩, ⟨by simpa using f0.trans e0, f1.trans e1, f2.trans e2, f3.trans e3⟩, r0⟩
    obtain ⟨g, hg⟩ := choose_to (⟨⟨#[]⟩, ⟨#[]⟩, 0, 0⟩ : It) each
    refine ⟨some a, len, cap, (List.range len).map g, rfl, by omega, fun hs => ⟨⟨by simp, by omega, ?_⟩, fun z hz => ?_⟩⟩
    · by_cases h0 : len = 0
      · exact .inl h0
      · obtain ⟨b, o, s⟩ := a
        have hs : s = none := by simpa [Addr.add] using World.cell?_spot (hg 0 (by omega)).1.1
        subst hs
        refine .inr ⟨b, o, rfl, fun j x hx' => ?_⟩
        have hj : j < len := by
          have := (List.getElem?_eq_some_iff.1 hx').1
          simpa using this
        obtain rfl : g j = x := by simpa [hj] using hx'
        obtain ⟨⟨y0, y1, y2, y3⟩, -⟩ := hg j hj
        rw [Addr.add_lit] at y0 y1 y2 y3
        simp only [← Nat.add_assoc] at y0 y1 y2 y3
        exact ⟨y0, y1, y2, y3⟩
    · obtain ⟨k, hk, rfl⟩ := List.mem_map.1 hz
      exact (hg k (List.mem_range.1 hk)).2
end

theorem gKinds : Rows.lawS6272CWholeSpec.vars.map Ybad.prog.globalNamed = [some 0] := by kernel_rfl
theorem tKinds : (Ybad.prog.globals[0]?).map (·.type) = some 114 := by kernel_rfl

/-- What the table's laid datum gives the walk: each kind's reply. -/
theorem kinds_of_laid {W : World} (h : laidMetH Ybad.prog Rows.lawS6272CWholeRow.laid W) : KindsIn W ∧ 0 < W.heap.size := by
  rw [MakeChecks.laidMetH_plain _ _ _ (by kernel_rfl)] at h
  obtain ⟨ps, ⟨g, t, cs, fuel, p, q, hg, ht, hvar, hd, _, _⟩, _⟩ := h
  have hg0 : Ybad.prog.globalNamed _ = some 0 := (List.cons.inj gKinds).1
  obtain rfl := Option.some.inj (hg0.symm.trans hg)
  obtain rfl := Option.some.inj (tKinds.symm.trans ht)
  obtain ⟨xs, m, rfl, hx, hlen, hn, hel⟩ := DataW.trod_array Ybad.underlying114 hd
  simp only [Prod.mk.injEq] at hx
  have hL := hx.1
  unfold Rows.laid_example_com_redoubt_redoubt_internal_protocol_kinds at hL
  simp only [DataW.agg.injEq] at hL
  have key : KindsIn W := fun k hk => by
    have hk1 := hel k hk
    obtain ⟨y, hy⟩ : ∃ y, xs[k]? = some y := ⟨_, List.getElem?_eq_getElem (by omega)⟩
    rw [hy, cells113] at hk1
    obtain ⟨n, e, _, ds, hds, hdj⟩ := field_int Ybad.underlying113 hk1 0 rfl rfl Ybad.underlying52 cells52
    have hy1 : (xs.map (·.1))[k]? = some (.agg ds) := by rw [List.getElem?_map, hy, ← hds]; rfl
    rw [← hL] at hy1
    have hn' : n = replyOf k := by
      have hk13 : k = 0 ∨ k = 1 ∨ k = 2 ∨ k = 3 ∨ k = 4 ∨ k = 5 ∨ k = 6 ∨ k = 7 ∨ k = 8 ∨ k = 9 ∨ k = 10 ∨ k = 11 ∨ k = 12 := by omega
      rcases hk13 with rfl | rfl | rfl | rfl | rfl | rfl | rfl | rfl | rfl | rfl | rfl | rfl | rfl <;> simp at hy1 <;> subst hy1 <;> simp at hdj <;> subst hdj <;> rfl
    subst hn'
    rw [World.var?_cell hg hvar (k * 3)]
    have e' : cs.toList[k * 3]? = some (.int .u8 (replyOf k)) := by
      rw [List.getElem?_take, if_pos (by omega), List.getElem?_drop] at e
      simpa using e
    simpa using e'
  exact ⟨key, Nat.lt_of_le_of_lt (Nat.zero_le _) (World.block_lt_of_cell? W _ (key 0 (by omega)))⟩

end Go.Proofs.YbulkdywgDoor
