/-
  OURS. THE WALKS of zzBytes, zzHasDoubleUnderscore and MCPTool.
-/
import Derived.Test.Qxb6613957aRows
import Derived.WalkKit
import Derived.WalkSpells
import Derived.WalkLawsBesides
import Derived.Outline
namespace Go.Proofs.Qxb6613957a
open Go.RowKit

set_option maxHeartbeats 1000000 in
set_option maxRecDepth 100000 in
theorem bytes_any (a b c d : ByteArray) (w : World) (ha : a.size ≤ maxLen) (hb : b.size ≤ maxLen) (hc : c.size ≤ maxLen) (hd : d.size ≤ maxLen) :
    Calls Try.prog 13 #[.string a, .string b, .string c, .string d] w fun e w' => ∃ r : Bool, e = .returned (.bool r) ∧ w' = w := by
  unfold maxLen at ha hb hc hd
  go_enter Try.func13, Try.ntmps13
  go_wp2
  all_goals (go_ret; exact ⟨_, rfl, rfl⟩)

theorem und_ne {a : UInt8} (h : ((a.toNat : Int) == 95) = false) : ¬ a = 95 := by
  rintro rfl
  exact absurd h (by decide)

theorem und_eq {a : UInt8} (h : ¬ (a.toNat : Int) = 95) : ¬ a = 95 := by
  rintro rfl
  exact h (by decide)

/-- What zzHasDoubleUnderscore tells: a Bool; where it is false no two underscores stand side by side. -/
def Told (s : ByteArray) (e : Ending) : Prop := ∃ r : Bool, e = .returned (.bool r) ∧ (r = false → ∀ k, (h : k + 1 < s.size) → ¬ (s[k] = 95 ∧ s[k + 1] = 95))

set_option maxHeartbeats 1000000 in
set_option maxRecDepth 100000 in
theorem double_any (s : ByteArray) (w : World) (hs : s.size ≤ 262144) :
    Calls Try.prog 14 #[.string s] w fun e w' => Told s e ∧ w' = w := by
  go_enter Try.func14, Try.ntmps14
  go_wp2
  go_loop [3] (fun i => ∃ k : Nat, k ≤ s.size ∧ i = .int .i64 (k : Int) ∧ Hid (∀ j, j < k → (h : j + 1 < s.size) → ¬ (s[j] = 95 ∧ s[j + 1] = 95))) (fun i => s.size - (intOf i).toNat)
  case atStart => exact ⟨0, Nat.zero_le _, rfl, fun j hj => absurd hj (by omega)⟩
  case round =>
    obtain ⟨k, hk, rfl, HK⟩ := hrel
    by_cases hlt : k + 1 < s.size
    · have j1 : (k : Int) < (s.size : Int) := by omega
      have j2 : (k : Int) + 1 < (s.size : Int) := by omega
      have jt : ((k : Int) + 1).toNat = k + 1 := by omega
      go_wp2
      · go_ret
        exact ⟨⟨true, rfl, fun h => by cases h⟩, rfl⟩
      · have hn : ¬ s[k + 1] = 95 := und_ne ‹_›
        go_round
        case rel =>
          refine ⟨k + 1, by omega, by go_num, (show Hid _ from fun j hj h => ?_)⟩
          rcases Nat.lt_or_ge j k with h1 | h1
          · exact HK.out j h1 h
          · obtain rfl : j = k := by omega
            exact fun h2 => hn h2.2
        case measure => simp [intOf]; omega
      · have hn : ¬ s[k] = 95 := und_eq ‹_›
        go_round
        case rel =>
          refine ⟨k + 1, by omega, by go_num, (show Hid _ from fun j hj h => ?_)⟩
          rcases Nat.lt_or_ge j k with h1 | h1
          · exact HK.out j h1 h
          · obtain rfl : j = k := by omega
            exact fun h2 => hn h2.1
        case measure => simp [intOf]; omega
    · go_wp2
      go_ret
      exact ⟨⟨false, rfl, fun _ j hj => HK.out j (by omega) hj⟩, rfl⟩

set_option maxHeartbeats 1000000 in
theorem tool_any (s t : ByteArray) (w : World) (hs : s.size ≤ 262144) (ht : t.size ≤ 262144) :
    Calls Try.prog 15 #[.string s, .string t] w fun e w' => e = .returned (.string (⟨#[109, 99, 112, 95, 95]⟩ ++ s ++ ⟨#[95, 95]⟩ ++ t)) ∧ w' = w := by
  go_enter Try.func15, Try.ntmps15
  go_wp2
  go_ret
  exact ⟨rfl, rfl⟩

end Go.Proofs.Qxb6613957a
