/-
  OURS. THE WALKS of (Property).String at a named property, b1HasPrefix and b1IsLower.
-/
import Derived.Test.Qxb6613471aFmtRows
import Derived.WalkKit
import Derived.WalkSpells
import Derived.Deep.QuietTactic
import Derived.BigQuiet
import Derived.Deep.Draws
import Derived.Outline
namespace Go.Proofs.Qxb6613471aFmt
open Go.RowKit

set_option maxHeartbeats 1000000 in
set_option maxRecDepth 100000 in
theorem string_any (p : Nat) (hp : p < 10) (s : ByteArray) (w : World) (hc : w.cell? ⟨0, p, none⟩ = some (.string s)) :
    Calls Tryf.prog 5 #[.int .u8 (p : Int)] w fun e w' => e = .returned (.string s) ∧ w' = w := by
  have h1 : (p : Int) < 10 := by omega
  go_enter Tryf.func5, Tryf.ntmps5
  go_wp2
  go_ret
  exact ⟨rfl, rfl⟩

set_option maxHeartbeats 1000000 in
theorem lower_yes (c : Int) (w : World) (h1 : 97 ≤ c) (h2 : c ≤ 122) :
    Calls Tryf.prog 7 #[.int .u8 c] w fun e w' => e = .returned (.bool true) ∧ w' = w := by
  have d1 : decide (97 ≤ c) = true := decide_eq_true h1
  have d2 : decide (c ≤ 122) = true := decide_eq_true h2
  go_enter Tryf.func7, Tryf.ntmps7
  go_wp2
  go_ret
  exact ⟨rfl, rfl⟩

theorem byte_eq {a b : UInt8} (h : ((a.toNat : Int) != (b.toNat : Int)) = false) : a = b := by
  have : (a.toNat : Int) = (b.toNat : Int) := by simpa using h
  exact UInt8.toNat_inj.1 (by omega)

theorem byte_ne {a : UInt8} (h : ¬ a = 45) : ((a.toNat : Int) == 45) = false := by
  refine beq_eq_false_iff_ne.2 fun e => h (UInt8.toNat_inj.1 ?_)
  show a.toNat = 45
  omega

set_option maxHeartbeats 1000000 in
set_option maxRecDepth 100000 in
theorem hasPrefix_no (s t : ByteArray) (d : Nat) (h1 : d < s.size) (h2 : d < t.size) (hs : s.size ≤ 1000) (_ht : t.size ≤ 1000) (hne : ¬ s[d] = t[d]) (w : World) :
    Calls Tryf.prog 6 #[.string s, .string t] w fun e w' => e = .returned (.bool false) ∧ ∃ n, w' = w.drewN n := by
  have HNE : Hid (¬ s[d] = t[d]) := hne
  clear hne
  by_cases hl : (s.size : Int) < (t.size : Int)
  · go_enter Tryf.func6, Tryf.ntmps6
    go_wp2
    go_ret
    exact ⟨rfl, 0, rfl⟩
  · have dl : decide ((s.size : Int) < (t.size : Int)) = false := decide_eq_false hl
    go_enter Tryf.func6, Tryf.ntmps6
    go_wp2
    clear dl
    go_loopw [5] (fun i wr => ∃ k : Nat, k ≤ d ∧ i = .int .i64 (k : Int) ∧ ∃ n, wr = w.drewN n) (fun i _ => t.size - (intOf i).toNat)
    case atStart => exact ⟨0, Nat.zero_le _, rfl, 0, rfl⟩
    case round =>
      obtain ⟨k, hk, rfl, n, hn⟩ := hrel
      have HN : Hid (wr = w.drewN n) := hn
      clear hn
      have j1 : (k : Int) < (s.size : Int) := by omega
      have j2 : (k : Int) < (t.size : Int) := by omega
      have j3 : k < s.size := by omega
      have j4 : k < t.size := by omega
      go_wp2
      go_quiet (fail)
      go_wp2
      · go_ret
        exact ⟨rfl, n + nq, by rw [HN.out, World.drewN_drewN]⟩
      · have hkd : k < d := by
          rcases Nat.lt_or_ge k d with h | h
          · exact h
          · obtain rfl : k = d := by omega
            exact absurd (byte_eq ‹_›) HNE.out
        go_roundw
        case rel => exact ⟨k + 1, by omega, by go_num, n + nq, by rw [HN.out, World.drewN_drewN]⟩
        case measure => simp [intOf]; omega

set_option maxHeartbeats 1000000 in
set_option maxRecDepth 100000 in
theorem kebab_yes (p : Nat) (hp : p < 10) (s : ByteArray) (w : World) (hc : w.cell? ⟨0, p, none⟩ = some (.string s))
    (q0 : 0 < s.size) (q1 : s.size ≤ 1000) (q2 : (97 : Int) ≤ (s[0].toNat : Int)) (q3 : (s[0].toNat : Int) ≤ 122) (q4 : (97 : Int) ≤ (s[s.size - 1].toNat : Int)) (q5 : (s[s.size - 1].toNat : Int) ≤ 122)
    (KM : ∀ k, (h0 : 1 ≤ k) → (h : k < s.size) → (s[k] = 45 ∧ ¬ s[k - 1] = 45) ∨ (¬ s[k] = 45 ∧ (97 : Int) ≤ (s[k].toNat : Int) ∧ (s[k].toNat : Int) ≤ 122)) :
    Calls Tryf.prog 4 #[.int .u8 (p : Int)] w fun e w' => e = .returned (.bool true) ∧ ∃ n, w' = w.drewN n := by
  have HM : Hid (∀ k, (h0 : 1 ≤ k) → (h : k < s.size) → (s[k] = 45 ∧ ¬ s[k - 1] = 45) ∨ (¬ s[k] = 45 ∧ (97 : Int) ≤ (s[k].toNat : Int) ∧ (s[k].toNat : Int) ≤ 122)) := KM
  clear KM
  have z0 : ((s.size : Int) == 0) = false := beq_eq_false_iff_ne.2 (by omega)
  have d9 : decide ((9 : Int) < (p : Int)) = false := decide_eq_false (by omega)
  go_enter Tryf.func4, Tryf.ntmps4
  go_wp2_with fail
  refine (string_any p hp s _ hc).mono ?_
  rintro e w' ⟨rfl, hw⟩
  rw [hw]
  clear hw w'
  go_wp2_with fail
  refine (lower_yes _ _ q2 q3).mono ?_
  rintro e w' ⟨rfl, hw⟩
  rw [hw]
  clear hw w'
  go_wp2_with fail
  refine (lower_yes _ _ q4 q5).mono ?_
  rintro e w' ⟨rfl, hw⟩
  rw [hw]
  clear hw w'
  go_wp2_with fail
  clear d9
  go_loop [4] (fun i => ∃ k : Nat, 1 ≤ k ∧ k ≤ s.size ∧ i = .int .i64 (k : Int)) (fun i => s.size - (intOf i).toNat)
  case atStart => exact ⟨1, Nat.le_refl _, by omega, rfl⟩
  case round =>
    obtain ⟨k, hk1, hk, rfl⟩ := hrel
    by_cases hlt : k < s.size
    · have j1 : (k : Int) < (s.size : Int) := by omega
      have jt : ((k : Int) - 1).toNat = k - 1 := by omega
      rcases HM.out k hk1 hlt with ⟨he, hne⟩ | ⟨hne, l1, l2⟩
      · have e1 : ((s[k].toNat : Int) == 45) = true := by rw [he]; rfl
        have e2 : ((s[k - 1].toNat : Int) == 45) = false := byte_ne hne
        clear he hne
        go_wp2_with fail
        go_round
        case rel => exact ⟨k + 1, by omega, by omega, by go_num⟩
        case measure => simp [intOf]; omega
      · have e1 : ((s[k].toNat : Int) == 45) = false := byte_ne hne
        clear hne
        go_wp2_with fail
        refine (lower_yes _ _ l1 l2).mono ?_
        rintro e w' ⟨rfl, hw⟩
        rw [hw]
        clear hw w'
        go_wp2_with fail
        go_round
        case rel => exact ⟨k + 1, by omega, by omega, by go_num⟩
        case measure => simp [intOf]; omega
    · go_wp2
      go_ret
      exact ⟨rfl, 0, rfl⟩

end Go.Proofs.Qxb6613471aFmt
