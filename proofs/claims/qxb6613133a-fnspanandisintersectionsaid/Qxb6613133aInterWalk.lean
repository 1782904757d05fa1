/-
  OURS. THE WALK of FnSpanAndIsIntersection.
-/
import Derived.Test.Qxb6613133aWalks
namespace Go.Proofs.Qxb6613133a
open Go.RowKit

set_option maxHeartbeats 4000000 in
set_option maxRecDepth 100000 in
theorem inter_any (a1 u1 a2 u2 d : Int) (w : World) (b1 : -2147483648 ≤ a1 ∧ a1 ≤ 2147483647) (b2 : -2147483648 ≤ u1 ∧ u1 ≤ 2147483647) (b3 : -2147483648 ≤ a2 ∧ a2 ≤ 2147483647) (b4 : -2147483648 ≤ u2 ∧ u2 ≤ 2147483647) :
    Calls Try.prog 3 #[.int .i32 a1, .int .i32 u1, .int .i32 a2, .int .i32 u2, .int .i32 d] w fun e w' => e = .returned (.bool true) ∧ Grown w w' := by
  obtain ⟨f, hf⟩ := exMax a1 a2
  obtain ⟨u, hu⟩ := exMin u1 u2
  obtain ⟨f1, f2, f3⟩ := hf.facts
  obtain ⟨g1, g2, g3⟩ := hu.facts
  have hf' : IsMax f a2 a1 := isMax_mk f2 f1 (Or.comm.1 f3)
  have hu' : IsMin u u2 u1 := isMin_mk g2 g1 (Or.comm.1 g3)
  have C1 : Hid (∀ W, Calls Try.prog 6 #[.int .i32 a1, .int .i32 u1, .int .i32 a2, .int .i32 u2] W fun e w' => e = .returned (.tuple #[.int .i32 f, .int .i32 u]) ∧ Grown W w') := fun W => span_any a1 u1 a2 u2 f u hf hu W
  have C2 : Hid (∀ W, Calls Try.prog 6 #[.int .i32 a2, .int .i32 u2, .int .i32 a1, .int .i32 u1] W fun e w' => e = .returned (.tuple #[.int .i32 f, .int .i32 u]) ∧ Grown W w') := fun W => span_any a2 u2 a1 u1 f u hf' hu' W
  have F3 : Hid (f = a1 ∨ f = a2) := f3
  have G3 : Hid (u = u1 ∨ u = u2) := g3
  clear hf hu hf' hu' f3 g3
  obtain ⟨b1a, b1b⟩ := b1
  obtain ⟨b2a, b2b⟩ := b2
  obtain ⟨b3a, b3b⟩ := b3
  obtain ⟨b4a, b4b⟩ := b4
  have fl : f ≤ 2147483647 := by have := F3.out; omega
  have ul : -2147483648 ≤ u := by have := G3.out; omega
  go_enter Try.func3, Try.ntmps3
  go_wp2_with fail
  refine (C1.out _).mono ?_
  rintro e w1 ⟨rfl, H1⟩
  have K1 : Hid (Grown w w1) := H1
  clear H1 C1
  go_wp2_with fail
  refine (C2.out _).mono ?_
  rintro e w2 ⟨rfl, H2⟩
  have K2 : Hid (Grown w w2) := grown_trans K1.out H2
  clear H2 C2 K1
  go_wp2_with fail
  have t1 : decide (f < a1) = false := decide_eq_false (by omega)
  have t2 : decide (f < a2) = false := decide_eq_false (by omega)
  have t3 : decide (u1 < u) = false := decide_eq_false (by omega)
  have t4 : decide (u2 < u) = false := decide_eq_false (by omega)
  by_cases I1 : a1 ≤ d ∧ d < u1
  · by_cases I2 : a2 ≤ d ∧ d < u2
    · refine (in_yes f u d (by have := F3.out; omega) (by have := G3.out; omega) _).mono ?_
      rintro e w' ⟨rfl, hw⟩
      rw [hw]
      clear hw w'
      go_wp2_with fail
      refine (in_yes a1 u1 d I1.1 I1.2 _).mono ?_
      rintro e w' ⟨rfl, hw⟩
      rw [hw]
      clear hw w'
      go_wp2_with fail
      refine (in_yes a2 u2 d I2.1 I2.2 _).mono ?_
      rintro e w' ⟨rfl, hw⟩
      rw [hw]
      clear hw w' I1 I2
      go_wp2
      all_goals first
        | (exfalso; have q1 := F3.out; have q2 := G3.out; omega)
        | (go_ret; exact ⟨rfl, K2.out⟩)
    · refine (in_no f u d (by omega) _).mono ?_
      rintro e w' ⟨rfl, hw⟩
      rw [hw]
      clear hw w'
      go_wp2_with fail
      refine (in_yes a1 u1 d I1.1 I1.2 _).mono ?_
      rintro e w' ⟨rfl, hw⟩
      rw [hw]
      clear hw w'
      go_wp2_with fail
      refine (in_no a2 u2 d I2 _).mono ?_
      rintro e w' ⟨rfl, hw⟩
      rw [hw]
      clear hw w'
      clear I1 I2
      go_wp2
      all_goals first
        | (exfalso; have q1 := F3.out; have q2 := G3.out; omega)
        | (go_ret; exact ⟨rfl, K2.out⟩)
  · refine (in_no f u d (by omega) _).mono ?_
    rintro e w' ⟨rfl, hw⟩
    rw [hw]
    clear hw w'
    go_wp2_with fail
    refine (in_no a1 u1 d I1 _).mono ?_
    rintro e w' ⟨rfl, hw⟩
    rw [hw]
    clear hw w'
    clear I1
    go_wp2
    all_goals first
      | (exfalso; have q1 := F3.out; have q2 := G3.out; omega)
      | (go_ret; exact ⟨rfl, K2.out⟩)

end Go.Proofs.Qxb6613133a
