/-
  OURS. THE WALK of FnPropertyNamesPrefixFree.
-/
import Derived.Test.Qxb6613471aFmtWalks
namespace Go.Proofs.Qxb6613471aFmt
open Go.RowKit

set_option maxHeartbeats 1000000 in
theorem prefix_out (p q : Int) (w : World) (h : 9 < p ∨ 9 < q) :
    Calls Tryf.prog 3 #[.int .u8 p, .int .u8 q] w fun e w' => e = .returned (.bool true) ∧ ∃ n, w' = w.drewN n := by
  by_cases h1 : 9 < p
  · go_enter Tryf.func3, Tryf.ntmps3
    go_wp2
    go_ret
    exact ⟨rfl, 0, rfl⟩
  · have h2 : 9 < q := by omega
    go_enter Tryf.func3, Tryf.ntmps3
    go_wp2
    go_ret
    exact ⟨rfl, 0, rfl⟩

set_option maxHeartbeats 1000000 in
set_option maxRecDepth 100000 in
theorem prefix_same (p : Nat) (hp : p < 10) (a : ByteArray) (w : World) (ha : w.cell? ⟨0, p, none⟩ = some (.string a)) (a0 : 0 < a.size) :
    Calls Tryf.prog 3 #[.int .u8 (p : Int), .int .u8 (p : Int)] w fun e w' => e = .returned (.bool true) ∧ ∃ n, w' = w.drewN n := by
  have d1 : decide ((9 : Int) < (p : Int)) = false := decide_eq_false (by omega)
  have z0 : ((a.size : Int) == 0) = false := beq_eq_false_iff_ne.2 (by omega)
  go_enter Tryf.func3, Tryf.ntmps3
  go_wp2_with fail
  refine (string_any p hp a _ ha).mono ?_
  rintro e w' ⟨rfl, hw⟩
  rw [hw]
  clear hw w'
  go_wp2_with fail
  refine (string_any p hp a _ ha).mono ?_
  rintro e w' ⟨rfl, hw⟩
  rw [hw]
  clear hw w'
  go_wp2
  go_ret
  exact ⟨rfl, 0, rfl⟩

set_option maxHeartbeats 1000000 in
set_option maxRecDepth 100000 in
theorem prefix_two (p q : Nat) (hp : p < 10) (hq : q < 10) (hpq : ¬ p = q) (a b : ByteArray) (w : World) (ha : w.cell? ⟨0, p, none⟩ = some (.string a)) (hb : w.cell? ⟨0, q, none⟩ = some (.string b))
    (a1 : a.size ≤ 1000) (b1 : b.size ≤ 1000) (d : Nat) (h1 : d < a.size) (h2 : d < b.size) (hne : ¬ a[d] = b[d]) :
    Calls Tryf.prog 3 #[.int .u8 (p : Int), .int .u8 (q : Int)] w fun e w' => e = .returned (.bool true) ∧ ∃ n, w' = w.drewN n := by
  have d1 : decide ((9 : Int) < (p : Int)) = false := decide_eq_false (by omega)
  have d2 : decide ((9 : Int) < (q : Int)) = false := decide_eq_false (by omega)
  have z0 : ((a.size : Int) == 0) = false := beq_eq_false_iff_ne.2 (by omega)
  have z1 : ((b.size : Int) == 0) = false := beq_eq_false_iff_ne.2 (by omega)
  have z2 : ((p : Int) == (q : Int)) = false := beq_eq_false_iff_ne.2 (by omega)
  have HNE : Hid (¬ a[d] = b[d]) := hne
  clear hne
  go_enter Tryf.func3, Tryf.ntmps3
  go_wp2_with fail
  refine (string_any p hp a _ ha).mono ?_
  rintro e w' ⟨rfl, hw⟩
  rw [hw]
  clear hw w'
  go_wp2_with fail
  refine (string_any q hq b _ hb).mono ?_
  rintro e w' ⟨rfl, hw⟩
  rw [hw]
  clear hw w'
  go_wp2_with fail
  refine (hasPrefix_no a b d h1 h2 a1 b1 HNE.out _).mono ?_
  rintro e w' ⟨rfl, n, hw⟩
  rw [hw]
  clear hw w'
  go_wp2_with fail
  refine (hasPrefix_no b a d h2 h1 b1 a1 (fun e => HNE.out e.symm) _).mono ?_
  rintro e w' ⟨rfl, m, hw⟩
  rw [hw]
  clear hw w'
  go_wp2
  go_ret
  exact ⟨rfl, n + m, rfl⟩

end Go.Proofs.Qxb6613471aFmt
