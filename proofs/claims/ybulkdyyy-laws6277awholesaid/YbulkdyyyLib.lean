/-
  Seat b6277a: slices.Clone and slices.Equal, over ints and over nodes.
-/
import Derived.Test.YbulkdyyyNode
import Derived.Lib.Builder
namespace Go.Proofs.Ybulkdyyy
open Go.RowKit
set_option linter.unusedVariables false

theorem Src.at {w : World} {a : Option Addr} {n c : Nat} {news : List Value} (h : Src w a n c news) (h0 : 0 < n) : ∃ b o, a = some ⟨b, o, none⟩ ∧ ∀ j u, news[j]? = some u → w.cell? ⟨b, o + j, none⟩ = some u := by
  obtain ⟨h1, h2, h3, h4⟩ := h
  rcases h4 with ⟨_, h, _⟩ | ⟨x, rfl, hc⟩
  · omega
  · obtain ⟨b, o, s⟩ := x
    have hu : news[0]? = some (news[0]'(by omega)) := by simp
    have hs : s = none := by simpa [Addr.add] using World.cell?_spot (hc 0 _ hu)
    subst hs
    exact ⟨b, o, rfl, fun j u hu => by rw [← Addr.add_lit]; exact hc j u hu⟩

theorem Src.drewN {w : World} {a : Option Addr} {n c : Nat} {news : List Value} (h : Src w a n c news) (q : Nat) : Src (w.drewN q) a n c news := h

theorem src_of_own {w : World} {B g n cap : Nat} {e : TypeId} {news : List Value} (h : w.ownsRow B e 1 (.slice (some ⟨g, 0, none⟩) n cap) n news) (h1 : ∀ u ∈ news, u.oneCell' = true) (hn : n ≤ 2000000) : Src w (some ⟨g, 0, none⟩) n cap news :=
  ⟨by simpa using h.1, h1, hn, .inr ⟨_, rfl, fun j u hu => by
    have hj : j < news.length := (List.getElem?_eq_some_iff.1 hu).1
    have := h.1
    rw [Addr.add_lit, Nat.zero_add, h.cellAt j (by omega)]; exact hu⟩⟩

set_option maxHeartbeats 400000 in
theorem clone4 (a : Option Addr) (n c : Nat) (news : List Value) (w : World) (h : Src w a n c news) :
    Calls Yba.prog 4 #[.slice a n c] w fun e w' => (∃ a' c', e = .returned (.slice a' n c') ∧ Src w' a' n c' news ∧ (0 < n → ∃ g, w.heap.size ≤ g ∧ a' = some ⟨g, 0, none⟩)) ∧ Below w.heap.size w w' := by
  have hnil := fun (w : World) a n c => Lib.run_eql_slice_nil (P := Yba.prog) w 23 3 a n c 0 0 Yba.underlying23
  have h' := h
  obtain ⟨h1, h2, h3, h4⟩ := h
  rcases h4 with ⟨rfl, rfl, rfl⟩ | ⟨x, rfl, hc⟩
  · go_enter Yba.func4, Yba.ntmps4
    go_wp2
    go_ret
    exact ⟨⟨_, _, rfl, h', fun h => by omega⟩, Below.refl _ _⟩
  · obtain ⟨i0, hi, hz0, hz1, hz2⟩ := info_parts Yba.info3
    have HC : Hid (∀ j u, news[j]? = some u → w.cell? (x.add j) = some u) := hc
    have H2 : Hid (∀ u ∈ news, u.oneCell' = true) := h2
    clear hc h2
    go_enter Yba.func4, Yba.ntmps4
    go_wp2_with (at_builtin; refine wpList_append_own _ rfl _ _ 23 rfl w.heap.size 3 i0 (.int .i64 0) 1 8 Yba.underlying23 hi hz0 hz1 hz2 rfl (by decide) _ 0 [] rfl (World.ownsRow_made w #[] 0 (Nat.le_refl _) (Nat.zero_le _) rfl) x n c news rfl ?c1 ?c2 ?c3 ?c4 ?c5 ?c6 ?_)
    case c1 => simp [h1]
    case c2 =>
      intro j u hu
      have e := HC.out j u hu
      rw [World.cell?_alloc_lt _ _ _ (World.block_lt_of_cell? _ _ e)]; exact e
    case c3 => exact H2.out
    case c4 => unfold maxLen; omega
    case c5 => omega
    case c6 => simp
    intro v' w1 hown' hgrow _
    have hbel : Below w.heap.size w w1 := ((Below.refl _ _).alloc (Nat.le_refl _) _).grown hgrow (by simp) (by intro k hk; simp [Value.ownBlock] at hk; omega)
    have hex : ∃ a' c', v' = .slice a' n c' ∧ Src w1 a' n c' news ∧ (0 < n → ∃ g, w.heap.size ≤ g ∧ a' = some ⟨g, 0, none⟩) := by
      rcases hown'.2 with ⟨rfl, h0⟩ | ⟨g, cap, cur, rfl, hb, _⟩
      · subst h0
        exact ⟨none, 0, rfl, ⟨h1, H2.out, h3, .inl ⟨rfl, rfl, rfl⟩⟩, fun h => by omega⟩
      · exact ⟨_, _, rfl, src_of_own hown' H2.out h3, fun _ => ⟨g, hb, rfl⟩⟩
    obtain ⟨a', c', rfl, hs', hp'⟩ := hex
    clear hown' hgrow
    have HS : Hid (Src w1 a' n c' news) := hs'
    have HP : Hid (0 < n → ∃ g, w.heap.size ≤ g ∧ a' = some ⟨g, 0, none⟩) := hp'
    have HB : Hid (Below w.heap.size w w1) := hbel
    clear hs' hp' hbel
    go_wp2
    go_ret
    exact ⟨⟨_, _, rfl, HS.out, HP.out⟩, HB.out⟩

set_option maxHeartbeats 400000 in
theorem clone5 (a : Option Addr) (n c : Nat) (news : List Value) (w : World) (h : Src w a n c news) :
    Calls Yba.prog 5 #[.slice a n c] w fun e w' => (∃ a' c', e = .returned (.slice a' n c') ∧ Src w' a' n c' news ∧ (0 < n → ∃ g, w.heap.size ≤ g ∧ a' = some ⟨g, 0, none⟩)) ∧ Below w.heap.size w w' := by
  have hnil := fun (w : World) a n c => Lib.run_eql_slice_nil (P := Yba.prog) w 26 28 a n c 0 0 Yba.underlying26
  have h' := h
  obtain ⟨h1, h2, h3, h4⟩ := h
  rcases h4 with ⟨rfl, rfl, rfl⟩ | ⟨x, rfl, hc⟩
  · go_enter Yba.func5, Yba.ntmps5
    go_wp2
    go_ret
    exact ⟨⟨_, _, rfl, h', fun h => by omega⟩, Below.refl _ _⟩
  · obtain ⟨i0, hi, hz0, hz1, hz2⟩ := info_parts Yba.info28
    have HC : Hid (∀ j u, news[j]? = some u → w.cell? (x.add j) = some u) := hc
    have H2 : Hid (∀ u ∈ news, u.oneCell' = true) := h2
    clear hc h2
    go_enter Yba.func5, Yba.ntmps5
    go_wp2_with (at_builtin; refine wpList_append_own _ rfl _ _ 26 rfl w.heap.size 28 i0 (.pointer none) 1 8 Yba.underlying26 hi hz0 hz1 hz2 rfl (by decide) _ 0 [] rfl (World.ownsRow_made w #[] 0 (Nat.le_refl _) (Nat.zero_le _) rfl) x n c news rfl ?c1 ?c2 ?c3 ?c4 ?c5 ?c6 ?_)
    case c1 => simp [h1]
    case c2 =>
      intro j u hu
      have e := HC.out j u hu
      rw [World.cell?_alloc_lt _ _ _ (World.block_lt_of_cell? _ _ e)]; exact e
    case c3 => exact H2.out
    case c4 => unfold maxLen; omega
    case c5 => omega
    case c6 => simp
    intro v' w1 hown' hgrow _
    have hbel : Below w.heap.size w w1 := ((Below.refl _ _).alloc (Nat.le_refl _) _).grown hgrow (by simp) (by intro k hk; simp [Value.ownBlock] at hk; omega)
    have hex : ∃ a' c', v' = .slice a' n c' ∧ Src w1 a' n c' news ∧ (0 < n → ∃ g, w.heap.size ≤ g ∧ a' = some ⟨g, 0, none⟩) := by
      rcases hown'.2 with ⟨rfl, h0⟩ | ⟨g, cap, cur, rfl, hb, _⟩
      · subst h0
        exact ⟨none, 0, rfl, ⟨h1, H2.out, h3, .inl ⟨rfl, rfl, rfl⟩⟩, fun h => by omega⟩
      · exact ⟨_, _, rfl, src_of_own hown' H2.out h3, fun _ => ⟨g, hb, rfl⟩⟩
    obtain ⟨a', c', rfl, hs', hp'⟩ := hex
    clear hown' hgrow
    have HS : Hid (Src w1 a' n c' news) := hs'
    have HP : Hid (0 < n → ∃ g, w.heap.size ≤ g ∧ a' = some ⟨g, 0, none⟩) := hp'
    have HB : Hid (Below w.heap.size w w1) := hbel
    clear hs' hp' hbel
    go_wp2
    go_ret
    exact ⟨⟨_, _, rfl, HS.out, HP.out⟩, HB.out⟩

theorem equal8_zero (a b : Option Addr) (c d : Nat) (w : World) :
    Calls Yba.prog 8 #[.slice a 0 c, .slice b 0 d] w fun e w' => e = .returned (.bool true) ∧ w' = w := by
  go_enter Yba.func8, Yba.ntmps8
  go_wp2
  refine wp_loop_rounds 1 ?_; rw [rounds_succ]
  go_wp2
  go_ret
  exact ⟨rfl, rfl⟩

set_option maxHeartbeats 400000 in
theorem equal8 (a b : Option Addr) (n c d : Nat) (zs : List Int) (w : World) (h1 : Src w a n c (zs.map (Value.int .i64))) (h2 : Src w b n d (zs.map (Value.int .i64))) :
    Calls Yba.prog 8 #[.slice a n c, .slice b n d] w fun e w' => e = .returned (.bool true) ∧ ∃ q, w' = w.drewN q := by
  by_cases h0 : n = 0
  · subst h0
    refine (equal8_zero a b c d w).mono ?_
    rintro e w' ⟨rfl, rfl⟩
    exact ⟨rfl, 0, rfl⟩
  have hlen : zs.length = n := by simpa using h1.1
  have hn : n ≤ 2000000 := h1.2.2.1
  obtain ⟨b1, o1, rfl, hc1⟩ := h1.at (by omega)
  obtain ⟨b2, o2, rfl, hc2⟩ := h2.at (by omega)
  clear h1 h2
  have HC1 : Hid (∀ j u, (zs.map (Value.int .i64))[j]? = some u → w.cell? ⟨b1, o1 + j, none⟩ = some u) := hc1
  have HC2 : Hid (∀ j u, (zs.map (Value.int .i64))[j]? = some u → w.cell? ⟨b2, o2 + j, none⟩ = some u) := hc2
  clear hc1 hc2
  go_enter Yba.func8, Yba.ntmps8
  go_wp2
  go_loopw [5, 13] (fun _ i wr => ∃ k q : Nat, k ≤ n ∧ i = .int .i64 k ∧ wr = w.drewN q) (fun _ i _ => n - (intOf i).toNat)
  case atStart => exact ⟨0, 0, Nat.zero_le _, rfl, rfl⟩
  case round =>
    obtain ⟨k, q, hk, rfl, rfl⟩ := hrel
    by_cases hlt : k < n
    · have hu : (zs.map (Value.int .i64))[k]? = some (Value.int .i64 (zs.getD k 0)) := by simp [hlen, hlt]
      have g1 := HC1.out k _ hu
      have g2 := HC2.out k _ hu
      clear hu
      generalize zs.getD k 0 = y at g1 g2
      go_wp2
      go_region
      go_wp2
      go_roundw
      case rel => exact ⟨k + 1, q + 1, by omega, by go_num, rfl⟩
      case measure => simp [intOf]; omega
    · go_wp2
      go_ret
      exact ⟨rfl, q, rfl⟩

theorem equal7_zero (a b : Option Addr) (c d : Nat) (w : World) :
    Calls Yba.prog 7 #[.slice a 0 c, .slice b 0 d] w fun e w' => e = .returned (.bool true) ∧ w' = w := by
  go_enter Yba.func7, Yba.ntmps7
  go_wp2
  refine wp_loop_rounds 1 ?_; rw [rounds_succ]
  go_wp2
  go_ret
  exact ⟨rfl, rfl⟩

set_option maxHeartbeats 400000 in
theorem equal7 (a b : Option Addr) (n c d : Nat) (bs : List Nat) (w : World) (h1 : Src w a n c (bs.map (fun b => Value.pointer (some ⟨b, 0, none⟩)))) (h2 : Src w b n d (bs.map (fun b => Value.pointer (some ⟨b, 0, none⟩)))) :
    Calls Yba.prog 7 #[.slice a n c, .slice b n d] w fun e w' => e = .returned (.bool true) ∧ ∃ q, w' = w.drewN q := by
  by_cases h0 : n = 0
  · subst h0
    refine (equal7_zero a b c d w).mono ?_
    rintro e w' ⟨rfl, rfl⟩
    exact ⟨rfl, 0, rfl⟩
  have hlen : bs.length = n := by simpa using h1.1
  have hn : n ≤ 2000000 := h1.2.2.1
  obtain ⟨b1, o1, rfl, hc1⟩ := h1.at (by omega)
  obtain ⟨b2, o2, rfl, hc2⟩ := h2.at (by omega)
  clear h1 h2
  have HC1 : Hid (∀ j u, (bs.map (fun b => Value.pointer (some ⟨b, 0, none⟩)))[j]? = some u → w.cell? ⟨b1, o1 + j, none⟩ = some u) := hc1
  have HC2 : Hid (∀ j u, (bs.map (fun b => Value.pointer (some ⟨b, 0, none⟩)))[j]? = some u → w.cell? ⟨b2, o2 + j, none⟩ = some u) := hc2
  clear hc1 hc2
  obtain ⟨i30, hi30⟩ : ∃ i, Yba.prog.info? 30 = some i := Option.isSome_iff_exists.1 (by kernel_rfl)
  have hpn := fun (w : World) (a : Addr) => Lib.run_neq_ptr_same (P := Yba.prog) w a Yba.underlying28 hi30
  go_enter Yba.func7, Yba.ntmps7
  go_wp2
  go_loopw [5, 13] (fun _ i wr => ∃ k q : Nat, k ≤ n ∧ i = .int .i64 k ∧ wr = w.drewN q) (fun _ i _ => n - (intOf i).toNat)
  case atStart => exact ⟨0, 0, Nat.zero_le _, rfl, rfl⟩
  case round =>
    obtain ⟨k, q, hk, rfl, rfl⟩ := hrel
    by_cases hlt : k < n
    · have hu : (bs.map (fun b => Value.pointer (some ⟨b, 0, none⟩)))[k]? = some (Value.pointer (some ⟨bs.getD k 0, 0, none⟩)) := by simp [hlen, hlt]
      have g1 := HC1.out k _ hu
      have g2 := HC2.out k _ hu
      clear hu
      generalize bs.getD k 0 = y at g1 g2
      go_wp2
      go_region
      go_wp2
      go_roundw
      case rel => exact ⟨k + 1, q + 1, by omega, by go_num, rfl⟩
      case measure => simp [intOf]; omega
    · go_wp2
      go_ret
      exact ⟨rfl, q, rfl⟩

end Go.Proofs.Ybulkdyyy
