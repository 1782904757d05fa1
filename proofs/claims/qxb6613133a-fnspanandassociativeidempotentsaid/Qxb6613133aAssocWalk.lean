/-
  OURS. THE WALK of FnSpanAndAssociativeIdempotent.
-/
import Derived.Test.Qxb6613133aWalks
namespace Go.Proofs.Qxb6613133a
open Go.RowKit

set_option maxHeartbeats 4000000 in
set_option maxRecDepth 100000 in
theorem assoc_any (a1 u1 a2 u2 a3 u3 d : Int) (w : World) :
    Calls Try.prog 4 #[.int .i32 a1, .int .i32 u1, .int .i32 a2, .int .i32 u2, .int .i32 a3, .int .i32 u3, .int .i32 d] w fun e w' => e = .returned (.bool true) ∧ Grown w w' := by
  obtain ⟨A, hA⟩ := exMax a1 a2
  obtain ⟨B, hB⟩ := exMin u1 u2
  obtain ⟨L, hL⟩ := exMax A a3
  obtain ⟨M, hM⟩ := exMin B u3
  obtain ⟨E, hE⟩ := exMax a2 a3
  obtain ⟨D, hD⟩ := exMin u2 u3
  obtain ⟨fA1, fA2, fA3⟩ := hA.facts
  obtain ⟨fB1, fB2, fB3⟩ := hB.facts
  obtain ⟨fL1, fL2, fL3⟩ := hL.facts
  obtain ⟨fM1, fM2, fM3⟩ := hM.facts
  obtain ⟨fE1, fE2, fE3⟩ := hE.facts
  obtain ⟨fD1, fD2, fD3⟩ := hD.facts
  have hL' : IsMax L a1 E := isMax_mk (by omega) (by omega) (by omega)
  have hM' : IsMin M u1 D := isMin_mk (by omega) (by omega) (by omega)
  have hI : IsMax a1 a1 a1 := isMax_mk (Int.le_refl _) (Int.le_refl _) (Or.inl rfl)
  have hJ : IsMin u1 u1 u1 := isMin_mk (Int.le_refl _) (Int.le_refl _) (Or.inl rfl)
  have C1 : Hid (∀ W, Calls Try.prog 6 #[.int .i32 a1, .int .i32 u1, .int .i32 a2, .int .i32 u2] W fun e w' => e = .returned (.tuple #[.int .i32 A, .int .i32 B]) ∧ Grown W w') := fun W => span_any a1 u1 a2 u2 A B hA hB W
  have C2 : Hid (∀ W, Calls Try.prog 6 #[.int .i32 A, .int .i32 B, .int .i32 a3, .int .i32 u3] W fun e w' => e = .returned (.tuple #[.int .i32 L, .int .i32 M]) ∧ Grown W w') := fun W => span_any A B a3 u3 L M hL hM W
  have C3 : Hid (∀ W, Calls Try.prog 6 #[.int .i32 a2, .int .i32 u2, .int .i32 a3, .int .i32 u3] W fun e w' => e = .returned (.tuple #[.int .i32 E, .int .i32 D]) ∧ Grown W w') := fun W => span_any a2 u2 a3 u3 E D hE hD W
  have C4 : Hid (∀ W, Calls Try.prog 6 #[.int .i32 a1, .int .i32 u1, .int .i32 E, .int .i32 D] W fun e w' => e = .returned (.tuple #[.int .i32 L, .int .i32 M]) ∧ Grown W w') := fun W => span_any a1 u1 E D L M hL' hM' W
  have C5 : Hid (∀ W, Calls Try.prog 6 #[.int .i32 a1, .int .i32 u1, .int .i32 a1, .int .i32 u1] W fun e w' => e = .returned (.tuple #[.int .i32 a1, .int .i32 u1]) ∧ Grown W w') := fun W => span_any a1 u1 a1 u1 a1 u1 hI hJ W
  have yes : a1 ≤ d → d < u1 → a2 ≤ d → d < u2 → a3 ≤ d → d < u3 → L ≤ d ∧ d < M := fun _ _ _ _ _ _ => ⟨by omega, by omega⟩
  have no1 : ¬ (a1 ≤ d ∧ d < u1) → ¬ (L ≤ d ∧ d < M) := fun _ => by omega
  have no2 : ¬ (a2 ≤ d ∧ d < u2) → ¬ (L ≤ d ∧ d < M) := fun _ => by omega
  have no3 : ¬ (a3 ≤ d ∧ d < u3) → ¬ (L ≤ d ∧ d < M) := fun _ => by omega
  have Y : Hid (a1 ≤ d → d < u1 → a2 ≤ d → d < u2 → a3 ≤ d → d < u3 → L ≤ d ∧ d < M) := yes
  have N1 : Hid (¬ (a1 ≤ d ∧ d < u1) → ¬ (L ≤ d ∧ d < M)) := no1
  have N2 : Hid (¬ (a2 ≤ d ∧ d < u2) → ¬ (L ≤ d ∧ d < M)) := no2
  have N3 : Hid (¬ (a3 ≤ d ∧ d < u3) → ¬ (L ≤ d ∧ d < M)) := no3
  clear yes no1 no2 no3 hA hB hL hM hE hD hL' hM' hI hJ fA1 fA2 fA3 fB1 fB2 fB3 fL1 fL2 fL3 fM1 fM2 fM3 fE1 fE2 fE3 fD1 fD2 fD3
  go_enter Try.func4, Try.ntmps4
  go_wp2_with fail
  refine (C1.out _).mono ?_
  rintro e w1 ⟨rfl, H1⟩
  have K1 : Hid (Grown w w1) := H1
  clear H1 C1
  go_wp2_with fail
  refine (C2.out _).mono ?_
  rintro e w2 ⟨rfl, H2⟩
  have K2 : Hid (Grown w w2) := grown_trans K1.out H2
  clear H2 C2 K1
  go_wp2_with fail
  refine (C3.out _).mono ?_
  rintro e w3 ⟨rfl, H3⟩
  have K3 : Hid (Grown w w3) := grown_trans K2.out H3
  clear H3 C3 K2
  go_wp2_with fail
  refine (C4.out _).mono ?_
  rintro e w4 ⟨rfl, H4⟩
  have K4 : Hid (Grown w w4) := grown_trans K3.out H4
  clear H4 C4 K3
  go_wp2_with fail
  refine (C5.out _).mono ?_
  rintro e w5 ⟨rfl, H5⟩
  have K5 : Hid (Grown w w5) := grown_trans K4.out H5
  clear H5 C5 K4
  by_cases I1 : a1 ≤ d ∧ d < u1
  · have Q1 : Hid (a1 ≤ d ∧ d < u1) := I1
    clear I1
    by_cases I2 : a2 ≤ d ∧ d < u2
    · have Q2 : Hid (a2 ≤ d ∧ d < u2) := I2
      clear I2
      by_cases I3 : a3 ≤ d ∧ d < u3
      · have Q3 : Hid (a3 ≤ d ∧ d < u3) := I3
        clear I3
        go_wp2_with fail
        refine (in_yes a1 u1 d Q1.out.1 Q1.out.2 _).mono ?_
        rintro e w' ⟨rfl, hw⟩
        rw [hw]
        clear hw w'
        go_wp2_with fail
        refine (in_yes a2 u2 d Q2.out.1 Q2.out.2 _).mono ?_
        rintro e w' ⟨rfl, hw⟩
        rw [hw]
        clear hw w'
        go_wp2_with fail
        refine (in_yes a3 u3 d Q3.out.1 Q3.out.2 _).mono ?_
        rintro e w' ⟨rfl, hw⟩
        rw [hw]
        clear hw w'
        go_wp2_with fail
        refine (in_yes L M d (Y.out Q1.out.1 Q1.out.2 Q2.out.1 Q2.out.2 Q3.out.1 Q3.out.2).1 (Y.out Q1.out.1 Q1.out.2 Q2.out.1 Q2.out.2 Q3.out.1 Q3.out.2).2 _).mono ?_
        rintro e w' ⟨rfl, hw⟩
        rw [hw]
        clear hw w'
        go_wp2
        go_ret
        exact ⟨rfl, K5.out⟩
      · have Q3 : Hid (¬ (a3 ≤ d ∧ d < u3)) := I3
        clear I3
        go_wp2_with fail
        refine (in_yes a1 u1 d Q1.out.1 Q1.out.2 _).mono ?_
        rintro e w' ⟨rfl, hw⟩
        rw [hw]
        clear hw w'
        go_wp2_with fail
        refine (in_yes a2 u2 d Q2.out.1 Q2.out.2 _).mono ?_
        rintro e w' ⟨rfl, hw⟩
        rw [hw]
        clear hw w'
        go_wp2_with fail
        refine (in_no a3 u3 d Q3.out _).mono ?_
        rintro e w' ⟨rfl, hw⟩
        rw [hw]
        clear hw w'
        go_wp2_with fail
        refine (in_no L M d (N3.out Q3.out) _).mono ?_
        rintro e w' ⟨rfl, hw⟩
        rw [hw]
        clear hw w'
        go_wp2
        go_ret
        exact ⟨rfl, K5.out⟩
    · have Q2 : Hid (¬ (a2 ≤ d ∧ d < u2)) := I2
      clear I2
      go_wp2_with fail
      refine (in_yes a1 u1 d Q1.out.1 Q1.out.2 _).mono ?_
      rintro e w' ⟨rfl, hw⟩
      rw [hw]
      clear hw w'
      go_wp2_with fail
      refine (in_no a2 u2 d Q2.out _).mono ?_
      rintro e w' ⟨rfl, hw⟩
      rw [hw]
      clear hw w'
      go_wp2_with fail
      refine (in_no L M d (N2.out Q2.out) _).mono ?_
      rintro e w' ⟨rfl, hw⟩
      rw [hw]
      clear hw w'
      go_wp2
      go_ret
      exact ⟨rfl, K5.out⟩
  · have Q1 : Hid (¬ (a1 ≤ d ∧ d < u1)) := I1
    clear I1
    go_wp2_with fail
    refine (in_no a1 u1 d Q1.out _).mono ?_
    rintro e w' ⟨rfl, hw⟩
    rw [hw]
    clear hw w'
    go_wp2_with fail
    refine (in_no L M d (N1.out Q1.out) _).mono ?_
    rintro e w' ⟨rfl, hw⟩
    rw [hw]
    clear hw w'
    go_wp2
    go_ret
    exact ⟨rfl, K5.out⟩

end Go.Proofs.Qxb6613133a
