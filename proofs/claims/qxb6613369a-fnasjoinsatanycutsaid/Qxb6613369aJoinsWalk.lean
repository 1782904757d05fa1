/-
  OURS. THE WALK OF FnAsJoinsAtAnyCut.
-/
import Derived.Test.Qxb6613369aAs
import Derived.Deep.QuietTactic
import Derived.BigQuiet
namespace Go.Proofs.Qxb6613369a
open Go.RowKit

theorem below_drawn {B : Nat} {a w : World} (h : Below B a w) (n : Nat) : Below B a (w.drewN n) := ⟨h.os, h.tape, h.output, h.size, h.block⟩

set_option maxHeartbeats 1000000 in
theorem joins_out (a b : Int) (w : World) (h : a < 0 ∨ 65536 < a ∨ b < 0 ∨ 65536 < b) :
    Calls Try.prog 5 #[.int .i64 a, .int .i64 b] w fun e w' => e = .returned (.bool true) ∧ Below w.heap.size w w' := by
  by_cases h1 : a < 0
  · go_enter Try.func5, Try.ntmps5
    go_wp2
    go_ret
    exact ⟨rfl, Below.refl _ _⟩
  · by_cases h2 : 65536 < a
    · go_enter Try.func5, Try.ntmps5
      go_wp2
      go_ret
      exact ⟨rfl, Below.refl _ _⟩
    · by_cases h3 : b < 0
      · go_enter Try.func5, Try.ntmps5
        go_wp2
        go_ret
        exact ⟨rfl, Below.refl _ _⟩
      · have h4 : 65536 < b := by omega
        go_enter Try.func5, Try.ntmps5
        go_wp2
        go_ret
        exact ⟨rfl, Below.refl _ _⟩

set_option maxHeartbeats 1000000 in
set_option maxRecDepth 100000 in
theorem joins_in (a b : Nat) (w : World) (ha : a ≤ 65536) (hb : b ≤ 65536) :
    Calls Try.prog 5 #[.int .i64 (a : Int), .int .i64 (b : Int)] w fun e w' => e = .returned (.bool true) ∧ Below w.heap.size w w' := by
  have d1 : decide ((a : Int) < 0) = false := decide_eq_false (by omega)
  have d2 : decide ((65536 : Int) < (a : Int)) = false := decide_eq_false (by omega)
  have d3 : decide ((b : Int) < 0) = false := decide_eq_false (by omega)
  have d4 : decide ((65536 : Int) < (b : Int)) = false := decide_eq_false (by omega)
  go_enter Try.func5, Try.ntmps5
  go_wp2_with fail
  rw [show ((a : Int) + (b : Int)) = ((a + b : Nat) : Int) from by omega]
  refine (zzas_any (a + b) (by omega) _).mono ?_
  rintro e w1 ⟨hx, rfl, X⟩
  go_wp2_with fail
  refine (zzas_any a (by omega) _).mono ?_
  rintro e w2 ⟨hy, rfl, Y⟩
  go_wp2_with fail
  refine (zzas_any b (by omega) _).mono ?_
  rintro e w3 ⟨hz, rfl, Z⟩
  have cx : ∀ j, j < a + b → w3.cell? ⟨hx, j, none⟩ = some (.int .u8 97) := fun j hj => by
    rw [Z.below.cell (p := ⟨hx, j, none⟩) (Nat.lt_of_lt_of_le X.hi Y.below.size), Y.below.cell (p := ⟨hx, j, none⟩) X.hi]; exact X.holds j hj
  have cy : ∀ j, j < a → w3.cell? ⟨hy, j, none⟩ = some (.int .u8 97) := fun j hj => by
    rw [Z.below.cell (p := ⟨hy, j, none⟩) Y.hi]; exact Y.holds j hj
  have cz := Z.holds
  have B3 : Below w.heap.size w w3 := X.below.trans ((Y.below.mono X.below.size).trans (Z.below.mono (Nat.le_trans X.below.size Y.below.size)))
  have HX : Hid (∀ j, j < a + b → w3.cell? ⟨hx, j, none⟩ = some (.int .u8 97)) := cx
  have HY : Hid (∀ j, j < a → w3.cell? ⟨hy, j, none⟩ = some (.int .u8 97)) := cy
  have HZ : Hid (∀ j, j < b → w3.cell? ⟨hz, j, none⟩ = some (.int .u8 97)) := cz
  clear cx cy cz X Y Z
  go_wp2
  clear d1 d2 d3 d4
  go_loop [8] (fun p => ∃ k : Nat, k ≤ a + b ∧ p = .int .i64 (k : Int)) (fun p => a + b - (intOf p).toNat)
  case atStart => exact ⟨0, Nat.zero_le _, rfl⟩
  case round =>
    obtain ⟨k, hk, rfl⟩ := hrel
    by_cases hlt : k < a + b
    · have c := HX.out k hlt
      go_wp2
      go_round
      case rel => exact ⟨k + 1, by omega, by go_num⟩
      case measure => simp [intOf]; omega
    · go_wp2
      go_loopw [9] (fun p wr => ∃ k : Nat, k ≤ a ∧ p = .int .i64 (k : Int) ∧ ∃ q, wr = w3.drewN q) (fun p _ => a - (intOf p).toNat)
      case atStart => exact ⟨0, Nat.zero_le _, rfl, 0, rfl⟩
      case round =>
        obtain ⟨k2, hk2, rfl, q, hq⟩ := hrel
        by_cases hlt2 : k2 < a
        · have c1 : wr.cell? ⟨hx, k2, none⟩ = some (.int .u8 97) := by rw [hq]; exact HX.out k2 (by omega)
          have c2 : wr.cell? ⟨hy, k2, none⟩ = some (.int .u8 97) := by rw [hq]; exact HY.out k2 (by omega)
          have HQ : Hid (wr = w3.drewN q) := hq
          clear hq
          have j1 : (k2 : Int) < (a : Int) := by omega
          have j2 : (k2 : Int) < (a : Int) + (b : Int) := by omega
          go_wp2
          go_quiet (fail)
          go_wp2
          go_roundw
          case rel => exact ⟨k2 + 1, by omega, by go_num, q + nq, by rw [HQ.out, World.drewN_drewN]⟩
          case measure => simp [intOf]; omega
        · have HQ : Hid (wr = w3.drewN q) := hq
          clear hq
          go_wp2
          go_loopw [10] (fun p wr => ∃ k : Nat, k ≤ b ∧ p = .int .i64 (k : Int) ∧ ∃ q, wr = w3.drewN q) (fun p _ => b - (intOf p).toNat)
          case atStart => exact ⟨0, Nat.zero_le _, rfl, q, HQ.out⟩
          case round =>
            obtain ⟨k3, hk3, rfl, q3, hq3⟩ := hrel
            by_cases hlt3 : k3 < b
            · have c1 : wr.cell? ⟨hx, a + k3, none⟩ = some (.int .u8 97) := by rw [hq3]; exact HX.out (a + k3) (by omega)
              have c2 : wr.cell? ⟨hz, k3, none⟩ = some (.int .u8 97) := by rw [hq3]; exact HZ.out k3 (by omega)
              have HQ3 : Hid (wr = w3.drewN q3) := hq3
              clear hq3
              have j1 : (k3 : Int) < (b : Int) := by omega
              have j2 : (a : Int) + (k3 : Int) < (a : Int) + (b : Int) := by omega
              have j3 : ((a : Int) + (k3 : Int)).toNat = a + k3 := by omega
              go_wp2
              go_quiet (fail)
              go_wp2
              go_roundw
              case rel => exact ⟨k3 + 1, by omega, by go_num, q3 + nq, by rw [HQ3.out, World.drewN_drewN]⟩
              case measure => simp [intOf]; omega
            · go_wp2
              go_ret
              exact ⟨rfl, below_drawn B3 q3⟩

end Go.Proofs.Qxb6613369a
