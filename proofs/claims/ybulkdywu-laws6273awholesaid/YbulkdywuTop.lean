/-
  The walk of seat b6273a's law, out of its callees' contracts.
-/
import Derived.Test.YbulkdywuWalks
import Derived.Deep.DeepCutAuto
import Derived.Lib.Builder
namespace Go.Proofs.Ybulkdywu
open Go.RowKit

/-- What is known of a slice of bytes: its bytes. -/
def View (w : World) (a : Option Addr) (n c : Nat) (bs : List Int) : Prop :=
  bs.length = n ∧ (∀ b ∈ bs, 0 ≤ b ∧ b < 256) ∧ n ≤ c ∧ c ≤ 9223372036854775807 ∧
    ((a = none ∧ n = 0 ∧ c = 0) ∨ ∃ x, a = some x ∧ ∀ j, j < n → w.cell? (x.add j) = some (.int .u8 (bs.getD j 0)))

theorem map_getD (k : IntKind) (l : List Int) (j : Nat) (h : j < l.length) : (l.map (Value.int k))[j]? = some (.int k (l.getD j 0)) := by
  simp [h]

theorem View.below {w w' : World} {a : Option Addr} {n c : Nat} {bs : List Int} (h : View w a n c bs) (hb : Below w.heap.size w w') : View w' a n c bs := by
  obtain ⟨h1, h2, h3, h4, h5⟩ := h
  refine ⟨h1, h2, h3, h4, ?_⟩
  rcases h5 with h5 | ⟨x, hx, hc⟩
  · exact .inl h5
  · exact .inr ⟨x, hx, fun j hj => by rw [hb.cell (World.block_lt_of_cell? _ _ (hc j hj))]; exact hc j hj⟩

theorem View.conv {w : World} {a : Option Addr} {n c : Nat} {bs : List Int} (h : View w a n c bs) : (convert 22 9 (.slice a n c)).run Yba.prog w = .ok (.string (strOfNums bs)) w := by
  obtain ⟨h1, h2, h3, h4, h5⟩ := h
  rcases Nat.eq_zero_or_pos n with h0 | h0
  · subst h0
    rw [List.eq_nil_of_length_eq_zero h1]
    exact conv_empty a c w
  · rcases h5 with ⟨_, h, _⟩ | ⟨x, rfl, hc⟩
    · omega
    · obtain ⟨b, o, s⟩ := x
      have hs : s = none := by simpa [Addr.add] using World.cell?_spot (hc 0 h0)
      subst hs
      exact run_convert_bytes_arg w 22 5 Yba.underlying22 Yba.underlying5 b o n c bs h1 (fun i hi => by rw [← Addr.add_lit]; exact hc i hi) 9 Yba.underlying9

theorem View.at {w : World} {a : Option Addr} {n c : Nat} {bs : List Int} (h : View w a n c bs) (h0 : 0 < n) : ∃ b o, a = some ⟨b, o, none⟩ ∧ ∀ j, j < n → w.cell? ⟨b, o + j, none⟩ = some (.int .u8 (bs.getD j 0)) := by
  obtain ⟨h1, h2, h3, h4, h5⟩ := h
  rcases h5 with ⟨_, h, _⟩ | ⟨x, rfl, hc⟩
  · omega
  · obtain ⟨b, o, s⟩ := x
    have hs : s = none := by simpa [Addr.add] using World.cell?_spot (hc 0 h0)
    subst hs
    exact ⟨b, o, rfl, fun i hi => by rw [← Addr.add_lit]; exact hc i hi⟩

theorem View.byte {w : World} {a : Option Addr} {n c : Nat} {bs : List Int} (h : View w a n c bs) (j : Nat) : 0 ≤ bs.getD j 0 ∧ bs.getD j 0 < 256 := by
  by_cases hj : j < bs.length
  · have := h.2.1 (bs.getD j 0) (by simp [hj])
    exact this
  · simp [hj]

theorem clone_view {w : World} {a : Option Addr} {n c : Nat} {bs : List Int} (h : View w a n c bs) (hn : n ≤ 2000000) :
    Calls Yba.prog 4 #[.slice a n c] w fun e w' => (∃ a' c', e = .returned (.slice a' n c') ∧ View w' a' n c' bs) ∧ Below w.heap.size w w' := by
  have h' := h
  obtain ⟨h1, h2, h3, h4, h5⟩ := h
  rcases h5 with ⟨rfl, rfl, rfl⟩ | ⟨x, rfl, hc⟩
  · refine (clone_nil w).mono ?_
    rintro e w' ⟨rfl, rfl⟩
    exact ⟨⟨_, _, rfl, h'⟩, Below.refl _ _⟩
  · refine (clone_some x n c bs w hn h1 hc).mono ?_
    rintro e w' ⟨⟨g, rfl, hg⟩, hb⟩
    exact ⟨⟨_, _, rfl, h1, h2, Nat.le_refl _, by omega, .inr ⟨_, rfl, fun j hj => by rw [Addr.add_lit]; exact hg j hj⟩⟩, hb⟩

theorem u64_be4 (a b c d : Int) (ha : 0 ≤ a ∧ a < 256) (hb : 0 ≤ b ∧ b < 256) (hc : 0 ≤ c ∧ c < 256) (hd : 0 ≤ d ∧ d < 256) :
    bits .or .u64 (bits .or .u64 (bits .or .u64 (a * 16777216) (b * 65536)) (c * 256)) d = be4 a b c d := by
  rw [bits_join .u64 64 (by decide) wraps_u64 24 (a * 16777216) (b * 65536) (by omega) (by omega) (by omega) (by omega) (by omega) (by omega),
    bits_join .u64 64 (by decide) wraps_u64 16 _ (c * 256) (by omega) (by omega) (by omega) (by omega) (by omega) (by omega),
    bits_join .u64 64 (by decide) wraps_u64 8 _ d (by omega) (by omega) (by omega) (by omega) (by omega) (by omega)]
  unfold be4
  omega

/-- The head of a record whose payload is k bytes long. -/
def headOf (k : Int) : List Int := [k / 16777216 % 256, k / 65536 % 256, k / 256 % 256, k % 256]

theorem headOf_byte (k : Int) : ∀ b ∈ headOf k, 0 ≤ b ∧ b < 256 := by
  intro b hb
  simp only [headOf, List.mem_cons, List.not_mem_nil, or_false] at hb
  rcases hb with rfl | rfl | rfl | rfl <;> omega

set_option maxRecDepth 100000 in
theorem top_big (a : Option Addr) (n c : Nat) (sel : Int) (raw : Bool) (w : World) (hn : 1048576 < n) (hb : n ≤ 9223372036854775807) :
    Calls Yba.prog 3 #[.slice a n c, .int .u32 sel, .bool raw] w fun e w' => e = .returned (.bool true) ∧ Below w.heap.size w w' := by
  go_enter Yba.func3, Yba.ntmps3
  go_wp2
  go_ret
  exact ⟨rfl, Below.refl _ _⟩

set_option maxHeartbeats 1000000 in
set_option maxRecDepth 100000 in
theorem top (a : Option Addr) (n c : Nat) (bs : List Int) (sel : Int) (raw : Bool) (w : World) (hn : n ≤ 1048576) (hv : View w a n c bs) (hs0 : 0 ≤ sel) (hs1 : sel < 4294967296) :
    Calls Yba.prog 3 #[.slice a n c, .int .u32 sel, .bool raw] w fun e w' => e = .returned (.bool true) ∧ Below w.heap.size w w' := by
  go_enter Yba.func3, Yba.ntmps3
  go_upto_if 23 with fail
  go_cut [8, 9, 10] (fun v _ _ wc => ∃ a n c bs, v = .slice a n c ∧ View wc a n c bs ∧ n ≤ 2000000 ∧ Below w.heap.size w wc)
  case first =>
    cases raw with
    | true =>
      go_wp2
      go_meet
      case rel => exact ⟨a, n, c, bs, rfl, hv, by omega, Below.refl _ _⟩
    | false =>
      obtain ⟨i0, hi, hz0, hz1, hz2⟩ := info_parts Yba.info5
      have hb2 : i0.bytes * (n + 8) ≤ 281474976710656 := by rw [hz2]; omega
      have hb3 : n + 8 ≤ maxLen := by unfold maxLen; omega
      go_wp2_with (at_make; refine wpList_make_own _ rfl _ _ 22 rfl w.heap.size 5 i0 (.int .u8 0) 1 Yba.underlying22 hi hz0 hz1 _ _ _ (n + 8) rfl rfl (by omega) hb2 hb3 (Nat.le_refl _) ?_)
      intro w1 hown hgrow
      have hsz1 : w.heap.size + 1 ≤ w1.heap.size := by have := hown.lt _ rfl; omega
      go_wp2_with (at_builtin; refine wpList_append_fits _ rfl (.tmp 37) (.tmp 49) 22 rfl w.heap.size 5 i0 1 Yba.underlying22 hi hz1 w.heap.size 0 (n + 8) [] rfl (hown.alloc _) ⟨w1.heap.size, 0, none⟩ 4 4 ((headOf (sel % ((n : Int) + 2))).map (Value.int .u8)) rfl rfl ?c1 (ints_oneCell _ _) (by omega) ?_)
      case c1 =>
        intro j u hj
        match j, hj with
        | 0, hj => simpa [headOf, Addr.add] using hj
        | 1, hj => simpa [headOf, Addr.add] using hj
        | 2, hj => simpa [headOf, Addr.add] using hj
        | 3, hj => simpa [headOf, Addr.add] using hj
        | j + 4, hj => simp [headOf] at hj
      intro w2 hown2 hgrow2
      have hb1 : Below w.heap.size w w2 := (((Below.refl _ _).grown hgrow (Nat.le_refl _) (by intro k hk; cases hk)).alloc (by omega) _).grown hgrow2 (by simp; omega) (by intro k hk; cases hk; exact Nat.le_refl _)
      clear hown hgrow hgrow2
      have HB : Hid (Below w.heap.size w w2) := hb1
      clear hb1
      go_wp2
      refine wp_loop_rounds 1 ?_; rw [rounds_succ]
      obtain ⟨hlen, hby, hnc, hcm, hcells⟩ := hv
      have hA : ∀ ad, a = some ad → ∀ j u, (bs.map (Value.int .u8))[j]? = some u → w2.cell? (ad.add j) = some u := by
        rintro ad rfl j u hu
        have hj : j < bs.length := by have := (List.getElem?_eq_some_iff.1 hu).1; simpa using this
        rcases hcells with ⟨h, _⟩ | ⟨x, hx, hc⟩
        · cases h
        · cases hx
          have e := hc j (by omega)
          rw [HB.out.cell (World.block_lt_of_cell? _ _ e), e, ← hu]
          simp [hj]
      have hN : a = none → n = 0 ∧ c = 0 := by
        rintro rfl
        rcases hcells with ⟨_, h1, h2⟩ | ⟨x, hx, hc⟩
        · exact ⟨h1, h2⟩
        · cases hx
      have HA : Hid _ := hA
      have HN : Hid _ := hN
      have HY : Hid _ := hby
      clear hA hN hby hcells
      go_wp2_with (at_builtin; refine wpList_append_fits_any _ rfl (.tmp 59) (.tmp 60) 22 rfl w.heap.size 5 i0 1 Yba.underlying22 hi hz1 w.heap.size 4 (n + 8) _ rfl hown2 a n c (bs.map (Value.int .u8)) rfl (by simp [hlen]) HN.out HA.out (ints_oneCell _ _) (by omega) ?_)
      intro w3 hown3 hgrow3
      have hb3 : Below w.heap.size w w3 := HB.out.grown hgrow3 (HB.out.size) (by intro k hk; cases hk; exact Nat.le_refl _)
      go_wp2
      go_meet
      case rel =>
        refine ⟨_, _, _, headOf (sel % ((n : Int) + 2)) ++ bs, rfl, ⟨by simp [headOf, hlen]; omega, ?_, by omega, by omega, .inr ⟨_, rfl, fun j hj => ?_⟩⟩, by omega, hb3⟩
        · intro b hb
          rcases List.mem_append.1 hb with hb | hb
          · exact headOf_byte _ b hb
          · exact HY.out b hb
        · rw [Addr.add_lit, Nat.zero_add, hown3.cellAt j (by omega), ← List.map_append]
          exact map_getD _ _ _ (by simp [headOf, hlen]; omega)
  case rest =>
    obtain ⟨a, n, c, bs, rfl, hv, hn, hb⟩ := hcut
    have hnil := fun (w : World) a n c => Lib.run_eql_slice_nil (P := Yba.prog) w 22 5 a n c 0 0 Yba.underlying22
    obtain ⟨i5, hi5, -, -, -⟩ := info_parts Yba.info5
    have HV : Hid (View wc a n c bs) := hv
    have HB : Hid (Below w.heap.size w wc) := hb
    clear hv hb
    go_wp2_with fail
    refine (clone_view HV.out hn).mono ?_
    rintro e w1 ⟨⟨a1, c1, rfl, hv1⟩, hb1⟩
    have HV1 : Hid (View w1 a1 n c1 bs) := hv1
    have HV' : Hid (View w1 a n c bs) := HV.out.below hb1
    have HB1 : Hid (Below w.heap.size w w1) := HB.out.trans (hb1.mono HB.out.size)
    clear HV HB hv1 hb1
    go_wp2_with fail
    by_cases hn4 : n < 4
    · refine (cut_short _ _ _ _ hn4).mono ?_
      rintro e w2 ⟨rfl, rfl⟩
      go_wp2_with (go_at_call 6; refine (equal_same _ _ _ _ HV'.out.conv HV1.out.conv).mono ?_; rintro e w2 ⟨rfl, rfl⟩)
      go_ret
      exact ⟨rfl, HB1.out⟩
    · obtain ⟨g, o, rfl, hc⟩ := HV'.out.at (by omega)
      obtain ⟨g1, o1, rfl, hc1⟩ := HV1.out.at (by omega)
      have y0 := HV1.out.byte 0
      have y1 := HV1.out.byte 1
      have y2 := HV1.out.byte 2
      have y3 := HV1.out.byte 3
      have d0 : w1.cell? ⟨g, o, none⟩ = some (.int .u8 (bs.getD 0 0)) := hc 0 (by omega)
      have d1 := hc 1 (by omega)
      have d2 := hc 2 (by omega)
      have d3 := hc 3 (by omega)
      have f0 : w1.cell? ⟨g1, o1, none⟩ = some (.int .u8 (bs.getD 0 0)) := hc1 0 (by omega)
      have f1 := hc1 1 (by omega)
      have f2 := hc1 2 (by omega)
      have f3 := hc1 3 (by omega)
      have hbit := u64_be4 _ _ _ _ y0 y1 y2 y3
      have hlo : 0 ≤ be4 (bs.getD 0 0) (bs.getD 1 0) (bs.getD 2 0) (bs.getD 3 0) := by unfold be4; omega
      have hhi : be4 (bs.getD 0 0) (bs.getD 1 0) (bs.getD 2 0) (bs.getD 3 0) < 4294967296 := by unfold be4; omega
      have k0 : (0 : Int) < (n : Int) := by omega
      have k1 : (1 : Int) < (n : Int) := by omega
      have k2 : (2 : Int) < (n : Int) := by omega
      have k3 : (3 : Int) < (n : Int) := by omega
      have hnc : n ≤ c := HV'.out.2.2.1
      have hcm : c ≤ 9223372036854775807 := HV'.out.2.2.2.1
      have HC : Hid _ := hc
      have HC1 : Hid _ := hc1
      clear hc hc1
      by_cases hfar : (n : Int) - 4 < be4 (bs.getD 0 0) (bs.getD 1 0) (bs.getD 2 0) (bs.getD 3 0)
      · have hcut := cut_far g o n c _ _ _ _ w1 (by omega) hnc hcm y0 y1 y2 y3 d0 d1 d2 d3 hfar
        refine hcut.mono ?_
        clear hcut
        rintro e w2 ⟨rfl, hb2⟩
        have HE := equal_same _ _ _ _ (HV'.out.below hb2).conv (HV1.out.below hb2).conv
        have HB2 : Hid (Below w.heap.size w w2) := HB1.out.trans (hb2.mono HB1.out.size)
        have q0 := cell_later hb2 f0
        have q1 := cell_later hb2 f1
        have q2 := cell_later hb2 f2
        have q3 := cell_later hb2 f3
        clear d0 d1 d2 d3 f0 f1 f2 f3 hb2
        generalize be4 (bs.getD 0 0) (bs.getD 1 0) (bs.getD 2 0) (bs.getD 3 0) = N at *
        generalize bs.getD 0 0 = b0 at *
        generalize bs.getD 1 0 = b1 at *
        generalize bs.getD 2 0 = b2 at *
        generalize bs.getD 3 0 = b3 at *
        go_wp2_with (go_at_call 6; refine HE.mono ?_; rintro e w2 ⟨rfl, rfl⟩)
        have hfar' : ((n - 4 : Nat) : Int) < N := by omega
        go_quiet (fail)
        go_wp2
        go_ret
        exact ⟨rfl, below_drewN HB2.out _⟩
      · obtain ⟨N, hN⟩ := Int.eq_ofNat_of_zero_le hlo
        have hcut := cut_fit g o n c N _ _ _ _ w1 (by omega) hnc hcm hn y0 y1 y2 y3 d0 d1 d2 d3 hN (by omega)
        rw [hN] at hbit hfar
        refine hcut.mono ?_
        clear hcut
        rintro e w2 ⟨⟨pa, ra, pc, rc, rfl, hpa, hra⟩, hb2⟩
        have HE := equal_same _ _ _ _ (HV'.out.below hb2).conv (HV1.out.below hb2).conv
        have HB2 : Hid (Below w.heap.size w w2) := HB1.out.trans (hb2.mono HB1.out.size)
        have q0 := cell_later hb2 f0
        have q1 := cell_later hb2 f1
        have q2 := cell_later hb2 f2
        have q3 := cell_later hb2 f3
        have HC2 : Hid (∀ j, j < n → w2.cell? ⟨g, o + j, none⟩ = some (.int .u8 (bs.getD j 0)) ∧ w2.cell? ⟨g1, o1 + j, none⟩ = some (.int .u8 (bs.getD j 0))) := fun j hj => ⟨cell_later hb2 (HC.out j hj), cell_later hb2 (HC1.out j hj)⟩
        have HPA : Hid _ := hpa
        have HRA : Hid _ := hra
        clear d0 d1 d2 d3 f0 f1 f2 f3 hb2 hN hlo hhi hpa hra HC HC1
        have hNn : N + 4 ≤ n := by omega
        have hNn' : ¬ ((n - 4 : Nat) : Int) < (N : Int) := by omega
        clear hfar
        have hd1 : decide ((n : Int) < 4) = false := by simp; omega
        have hd2 : decide ((n : Int) - 4 < (N : Int)) = false := by simp; omega
        have hd3 : (((n - 4 - N : Nat) : Int) != (n : Int) - 4 - (N : Int)) = false := by simp; omega
        generalize bs.getD 0 0 = b0 at hbit y0 q0
        generalize bs.getD 1 0 = b1 at hbit y1 q1
        generalize bs.getD 2 0 = b2 at hbit y2 q2
        generalize bs.getD 3 0 = b3 at hbit y3 q3
        go_wp2_with (go_at_call 6; refine HE.mono ?_; rintro e w2 ⟨rfl, rfl⟩)
        go_quiet (fail)
        clear q0 q1 q2 q3 y0 y1 y2 y3
        go_wp2
        go_loopw [18] (fun i wr => ∃ k q : Nat, k ≤ N ∧ i = .int .i64 k ∧ wr = w2.drewN q) (fun i _ => N - (intOf i).toNat)
        case atStart => exact ⟨0, _, Nat.zero_le _, rfl, rfl⟩
        case round =>
          obtain ⟨k, q, hk, rfl, rfl⟩ := hrel
          by_cases hkN : k < N
          · obtain rfl := HPA.out (by omega)
            have r1 : w2.cell? ⟨g, o + 4 + k, none⟩ = some (.int .u8 (bs.getD (4 + k) 0)) := by rw [Nat.add_assoc]; exact (HC2.out (4 + k) (by omega)).1
            have r2 : w2.cell? ⟨g1, o1 + (4 + k), none⟩ = some (.int .u8 (bs.getD (4 + k) 0)) := (HC2.out (4 + k) (by omega)).2
            generalize bs.getD (4 + k) 0 = y at r1 r2
            have k4 : (4 : Int) + (k : Int) < (n : Int) := by omega
            have kk : (k : Int) < (N : Int) := by omega
            go_wp2
            go_quiet (fail)
            go_wp2
            go_roundw
            case rel => exact ⟨k + 1, _, by omega, by go_num, rfl⟩
            case measure => simp [intOf]; omega
          · go_wp2
            go_loopw [19] (fun i wr => ∃ k q : Nat, k ≤ n - 4 - N ∧ i = .int .i64 k ∧ wr = w2.drewN q) (fun i _ => n - 4 - N - (intOf i).toNat)
            case atStart => exact ⟨0, _, Nat.zero_le _, rfl, rfl⟩
            case round =>
              obtain ⟨m, q, hm, rfl, rfl⟩ := hrel
              by_cases hmN : m < n - 4 - N
              · obtain rfl := HRA.out (by omega)
                have r1 : w2.cell? ⟨g, o + 4 + N + m, none⟩ = some (.int .u8 (bs.getD (4 + N + m) 0)) := by rw [show o + 4 + N + m = o + (4 + N + m) by omega]; exact (HC2.out (4 + N + m) (by omega)).1
                have r2 : w2.cell? ⟨g1, o1 + (4 + N + m), none⟩ = some (.int .u8 (bs.getD (4 + N + m) 0)) := (HC2.out (4 + N + m) (by omega)).2
                generalize bs.getD (4 + N + m) 0 = y at r1 r2
                have k4 : (4 : Int) + (N : Int) + (m : Int) < (n : Int) := by omega
                have kk : (m : Int) < ((n - 4 - N : Nat) : Int) := by omega
                go_wp2
                go_quiet (fail)
                go_wp2
                go_roundw
                case rel => exact ⟨m + 1, _, by omega, by go_num, rfl⟩
                case measure => simp [intOf]; omega
              · go_wp2
                have hp1 : (0 < N ∧ pa = ⟨g, o + 4, none⟩) ∨ N = 0 := by
                  rcases Nat.eq_zero_or_pos N with h | h
                  · exact .inr h
                  · exact .inl ⟨h, HPA.out h⟩
                have hp2 : (0 < n - 4 - N ∧ ra = ⟨g, o + 4 + N, none⟩) ∨ n - 4 - N = 0 := by
                  rcases Nat.eq_zero_or_pos (n - 4 - N) with h | h
                  · exact .inr h
                  · exact .inl ⟨h, HRA.out h⟩
                have hpn := fun (w : World) (a : Addr) => Lib.run_neq_ptr_same (P := Yba.prog) w a Yba.underlying30 hi5
                have hpm : ∀ w : World, (binOp .neq 30 (.pointer (some ⟨g, o + 4 + N, none⟩)) (.pointer (some ⟨g, o + (4 + N), none⟩))).run Yba.prog w = .ok (.bool false) w := fun w => by rw [← Nat.add_assoc]; exact hpn w _
                have HP2 : Hid _ := hp2
                clear hmN hkN hk hm HPA HRA hp2
                rcases hp1 with ⟨hp, rfl⟩ | rfl
                · have p2 : (0 : Int) < (N : Int) := by omega
                  have p4 : (4 : Int) < (n : Int) := by omega
                  go_quiet (fail)
                  rcases HP2.out with ⟨hr, rfl⟩ | hr
                  · have p5 : (0 : Int) < ((n - 4 - N : Nat) : Int) := by omega
                    have p6 : (4 : Int) + (N : Int) < (n : Int) := by omega
                    go_wp2
                    go_quiet (fail)
                    go_wp2
                    go_ret
                    exact ⟨rfl, by repeat (first | exact HB2.out | refine below_drewN ?_ _)⟩
                  · have p5 : decide ((0 : Int) < ((n - 4 - N : Nat) : Int)) = false := by simp; omega
                    go_wp2
                    go_quiet (fail)
                    go_wp2
                    go_ret
                    exact ⟨rfl, by repeat (first | exact HB2.out | refine below_drewN ?_ _)⟩
                · go_quiet (fail)
                  rcases HP2.out with ⟨hr, rfl⟩ | hr
                  · have p5 : (0 : Int) < ((n - 4 : Nat) : Int) := by omega
                    have p7 : decide (0 < n - 4) = true := by simp; omega
                    have p6 : (4 : Int) < (n : Int) := by omega
                    go_wp2
                    go_quiet (fail)
                    go_wp2
                    go_ret
                    exact ⟨rfl, by repeat (first | exact HB2.out | refine below_drewN ?_ _)⟩
                  · have p5 : decide ((0 : Int) < ((n - 4 : Nat) : Int)) = false := by simp; omega
                    have p7 : decide (4 < n) = false := by simp; omega
                    go_wp2
                    go_quiet (fail)
                    go_wp2
                    go_ret
                    exact ⟨rfl, by repeat (first | exact HB2.out | refine below_drewN ?_ _)⟩

end Go.Proofs.Ybulkdywu
