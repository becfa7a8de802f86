/-
  Seat b6277a: the law's head: the bounds, and the sum of the lengths.
-/
import Derived.Test.YbulkdyyyLoop
namespace Go.Proofs.Ybulkdyyy
open Go.RowKit
set_option linter.unusedVariables false

/-- What came in as the k-th child, of any length n. -/
def KidRaw (w : World) (a0 : Option Addr) (k n : Nat) : Prop :=
  ∃ (b o : Nat) (va : Option Addr) (vc : Nat) (vs : List Int) (q : Bool), a0 = some ⟨b, o, none⟩ ∧ w.cell? ⟨b, o + k * 2, none⟩ = some (.slice va n vc) ∧ w.cell? ⟨b, o + k * 2 + 1, none⟩ = some (.bool q) ∧
    vs.length = n ∧ ((va = none ∧ n = 0 ∧ vc = 0) ∨ ∃ x, va = some x ∧ ∀ j u, (vs.map (Value.int .i64))[j]? = some u → w.cell? (x.add j) = some u)

theorem KidRaw.toIn {w : World} {a0 : Option Addr} {k n : Nat} (h : KidRaw w a0 k n) (hn : n ≤ 2000000) : KidIn w a0 k := by
  obtain ⟨b, o, va, vc, vs, q, h1, h2, h3, h4, h5⟩ := h
  exact ⟨b, o, va, n, vc, vs, q, h1, h2, h3, by simpa using h4, ints_oneCell _ _, hn, h5⟩

theorem KidIn.drewN {w : World} {a0 : Option Addr} {k : Nat} (h : KidIn w a0 k) (q : Nat) : KidIn (w.drewN q) a0 k := h

set_option maxHeartbeats 4000000 in
set_option maxRecDepth 100000 in
theorem law_big {a0 sa wa : Option Addr} {n0 k0 sn sc wn wc : Nat} {w : World} (h0 : (n0 : Int) ≤ 140737488355328) (h1 : (sn : Int) ≤ 140737488355328) (h2 : (wn : Int) ≤ 140737488355328) (hbig : (1048576 : Int) < (n0 : Int) + (sn : Int) + (wn : Int)) :
    Calls Yba.prog 3 #[.slice a0 n0 k0, .slice sa sn sc, .slice wa wn wc] w fun e w' => e = .returned (.bool true) ∧ Below w.heap.size w w' := by
  have hd : decide ((1048576 : Int) < (n0 : Int) + (sn : Int) + (wn : Int)) = true := by simpa using hbig
  go_enter Yba.func3, Yba.ntmps3
  go_wp2
  go_ret
  exact ⟨rfl, by repeat (first | exact Below.refl _ _ | refine below_drewN ?_ _)⟩

set_option maxHeartbeats 4000000 in
set_option maxRecDepth 100000 in
theorem law_any {a0 sa wa : Option Addr} {n0 k0 sn sc wn wc : Nat} {zs ys : List Int} {w : World} (vn : Nat → Nat) (hsmall : n0 + sn + wn ≤ 1048576)
    (hin : ∀ k, k < n0 → KidRaw w a0 k (vn k)) (hvn : ∀ k, k < n0 → (vn k : Int) ≤ 140737488355328) (hS : Src w sa sn sc (zs.map (Value.int .i64))) (hW : Src w wa wn wc (ys.map (Value.int .i64))) :
    Calls Yba.prog 3 #[.slice a0 n0 k0, .slice sa sn sc, .slice wa wn wc] w fun e w' => e = .returned (.bool true) ∧ Below w.heap.size w w' := by
  have HIN : Hid (∀ k, k < n0 → KidRaw w a0 k (vn k)) := hin
  have HVN : Hid (∀ k, k < n0 → (vn k : Int) ≤ 140737488355328) := hvn
  have HS : Hid (Src w sa sn sc (zs.map (Value.int .i64))) := hS
  have HW : Hid (Src w wa wn wc (ys.map (Value.int .i64))) := hW
  have hd : decide ((1048576 : Int) < (n0 : Int) + (sn : Int) + (wn : Int)) = false := by simp; omega
  have hn0 : n0 ≤ 2000000 := by omega
  clear hin hvn hS hW
  go_enter Yba.func3, Yba.ntmps3
  go_upto_region 3 with fail
  go_cut [7] (fun t wx => t = .int .i64 0 ∧ ∃ q, wx = w.drewN q)
  case first =>
    go_wp2_with fail
    go_meet
    case rel => exact ⟨rfl, 0, rfl⟩
  case rest =>
  rename World => w1
  obtain ⟨rfl, q1, rfl⟩ := hcut
  go_step
  go_step
  go_cut [6] (fun vr wx => vr = .bool false ∧ (∃ q, wx = w.drewN q) ∧ Hid (∀ j, j < n0 → vn j ≤ 1048576))
  case first =>
    go_wp2_with fail
    go_loopw [6, 7, 31] (fun vr t i wr => ∃ (k T : Nat), vr = .bool false ∧ k ≤ n0 ∧ i = .int .i64 k ∧ t = .int .i64 T ∧ T ≤ 1048576 ∧ (∃ q, wr = w.drewN q) ∧ Hid (∀ j, j < k → vn j ≤ T)) (fun _ _ i _ => n0 - (intOf i).toNat)
    case atStart => exact ⟨0, 0, rfl, Nat.zero_le _, rfl, rfl, Nat.zero_le _, ⟨_, rfl⟩, fun j hj => by omega⟩
    case round =>
      obtain ⟨k, T, rfl, hkk, rfl, rfl, hT, ⟨q, rfl⟩, HJ⟩ := hrel
      by_cases hlt : k < n0
      · obtain ⟨b, o, va, vc, vs, qq, rfl, hc0, -⟩ := HIN.out k hlt
        have hvk := HVN.out k hlt
        obtain ⟨v, hv⟩ : ∃ v, v = vn k := ⟨_, rfl⟩
        rw [← hv] at hc0 hvk
        have HV : Hid (v = vn k) := hv
        clear hv
        have kk : (k : Int) < (n0 : Int) := by omega
        by_cases hgt : (1048576 : Int) < (T : Int) + (v : Int)
        · have hd2 : decide ((1048576 : Int) < (T : Int) + (v : Int)) = true := by simpa using hgt
          as_aux_lemma =>
          go_wp2
          go_ret
          exact ⟨rfl, by repeat (first | exact Below.refl _ _ | refine below_drewN ?_ _)⟩
        · have hd2 : decide ((1048576 : Int) < (T : Int) + (v : Int)) = false := by simpa using hgt
          as_aux_lemma =>
          go_wp2
          go_roundw
          case rel =>
            refine ⟨k + 1, T + v, rfl, by omega, by go_num, by go_num, by omega, ⟨_, rfl⟩, ?_⟩
            intro j hj
            by_cases hjk : j < k
            · have := HJ.out j hjk; omega
            · obtain rfl : j = k := by omega
              rw [← HV.out]; omega
          case measure => simp [intOf]; omega
      · obtain rfl : k = n0 := by omega
        go_wp2_with fail
        go_meet
        case rel => exact ⟨rfl, ⟨_, rfl⟩, fun j hj => Nat.le_trans (HJ.out j hj) hT⟩
  case rest =>
  rename World => w2
  obtain ⟨rfl, ⟨q2, rfl⟩, HJ⟩ := hcut
  go_step
  exact head2 (w0 := w) (w := w.drewN q2) (fun k hk => ((HIN.out k hk).toIn (by have := HJ.out k hk; omega)).drewN q2) hn0 (HS.out.drewN q2) (HW.out.drewN q2) (below_drewN (Below.refl _ _) q2)

end Go.Proofs.Ybulkdyyy
