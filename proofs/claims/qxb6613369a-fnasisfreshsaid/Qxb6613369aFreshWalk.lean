/-
  OURS. THE WALK OF FnAsIsFresh.
-/
import Derived.Test.Qxb6613369aAs
import Derived.Outline
namespace Go.Proofs.Qxb6613369a
open Go.RowKit

set_option maxHeartbeats 1000000 in
theorem fresh_out (n p v : Int) (w : World) (h : n < 1 ∨ 65536 < n ∨ p < 0 ∨ n ≤ p) :
    Calls Try.prog 6 #[.int .i64 n, .int .i64 p, .int .u8 v] w fun e w' => e = .returned (.bool true) ∧ Below w.heap.size w w' := by
  by_cases h1 : n < 1
  · go_enter Try.func6, Try.ntmps6
    go_wp2
    go_ret
    exact ⟨rfl, Below.refl _ _⟩
  · by_cases h2 : 65536 < n
    · go_enter Try.func6, Try.ntmps6
      go_wp2
      go_ret
      exact ⟨rfl, Below.refl _ _⟩
    · by_cases h3 : p < 0
      · go_enter Try.func6, Try.ntmps6
        go_wp2
        go_ret
        exact ⟨rfl, Below.refl _ _⟩
      · have h4 : n ≤ p := by omega
        go_enter Try.func6, Try.ntmps6
        go_wp2
        go_ret
        exact ⟨rfl, Below.refl _ _⟩

set_option maxHeartbeats 1000000 in
set_option maxRecDepth 100000 in
theorem fresh_in (n p : Nat) (v : Int) (w : World) (h1 : 1 ≤ n) (hn : n ≤ 65536) (hp : p < n) :
    Calls Try.prog 6 #[.int .i64 (n : Int), .int .i64 (p : Int), .int .u8 v] w fun e w' => e = .returned (.bool true) ∧ Below w.heap.size w w' := by
  have d1 : decide ((n : Int) < 1) = false := decide_eq_false (by omega)
  have d2 : decide ((65536 : Int) < (n : Int)) = false := decide_eq_false (by omega)
  have d3 : decide ((p : Int) < 0) = false := decide_eq_false (by omega)
  have d4 : decide ((n : Int) ≤ (p : Int)) = false := decide_eq_false (by omega)
  have d5 : (p : Int) < (n : Int) := by omega
  go_enter Try.func6, Try.ntmps6
  go_wp2_with fail
  refine (zzas_any n (by omega) _).mono ?_
  rintro e w1 ⟨hx, rfl, X⟩
  have c1 := X.holds p hp
  have f1 := X.free p hp
  go_wp2_with fail
  refine (zzas_any n (by omega) _).mono ?_
  rintro e w2 ⟨hy, rfl, Y⟩
  have hsz : (w1.setCell ⟨hx, p, none⟩ (.int .u8 v)).heap.size = w1.heap.size := by simp [World.setCell]
  have cx : ∀ j, j < n → ¬ j = p → w2.cell? ⟨hx, j, none⟩ = some (.int .u8 97) := fun j hj hne => by
    rw [Y.below.cell (p := ⟨hx, j, none⟩) (by rw [hsz]; exact X.hi), World.cell?_setCell_other _ _ _ _ (by intro e; injection e with _ e; exact hne e.symm)]
    exact X.holds j hj
  have cp : w2.cell? ⟨hx, p, none⟩ = some (.int .u8 v) := by
    rw [Y.below.cell (p := ⟨hx, p, none⟩) (by rw [hsz]; exact X.hi), World.cell?_setCell_same _ _ _ c1]
  have cy := Y.holds
  have B2 : Below w.heap.size w w2 := (X.below.setCell (p := ⟨hx, p, none⟩) X.lo _).trans (Y.below.mono (by rw [hsz]; exact X.below.size))
  have HX : Hid (∀ j, j < n → ¬ j = p → w2.cell? ⟨hx, j, none⟩ = some (.int .u8 97)) := cx
  have HY : Hid (∀ j, j < n → w2.cell? ⟨hy, j, none⟩ = some (.int .u8 97)) := cy
  clear cx cy X Y d1 d2 d3 d4 c1 f1 hsz
  go_wp2
  go_loop [9] (fun q => ∃ k : Nat, k ≤ n ∧ q = .int .i64 (k : Int)) (fun q => n - (intOf q).toNat)
  case atStart => exact ⟨0, Nat.zero_le _, rfl⟩
  case round =>
    obtain ⟨k, hk, rfl⟩ := hrel
    by_cases hlt : k < n
    · have c := HY.out k hlt
      by_cases hkp : k = p
      · subst hkp
        go_wp2
        go_round
        case rel => exact ⟨k + 1, by omega, by go_num⟩
        case measure => simp [intOf]; omega
      · have c' := HX.out k hlt hkp
        have e1 : ((k : Int) == (p : Int)) = false := beq_eq_false_iff_ne.2 (by omega)
        go_wp2
        go_round
        case rel => exact ⟨k + 1, by omega, by go_num⟩
        case measure => simp [intOf]; omega
    · go_wp2
      go_ret
      exact ⟨rfl, B2⟩

end Go.Proofs.Qxb6613369a
