/-
  OURS. THE WALK of FnMCPToolCollidesOnlyAtTrailingUnderscore.
-/
import Derived.Test.Qxb6613957aWalks
import Derived.Test.Qxb6613957aPlain
import Derived.Laws.Strings
namespace Go.Proofs.Qxb6613957a
open Go.RowKit

theorem noDbl_of (s : ByteArray) (h : ∀ k, (h : k + 1 < s.size) → ¬ (s[k] = 95 ∧ s[k + 1] = 95)) : NoDbl s.data.toList := by
  intro k h1 h2
  obtain ⟨l2, e2⟩ := List.getElem?_eq_some_iff.1 h2
  obtain ⟨l1, e1⟩ := List.getElem?_eq_some_iff.1 h1
  have l2' : k + 1 < s.size := by have h3 := l2; rw [Array.length_toList] at h3; exact h3
  exact h k l2' ⟨e1, e2⟩

theorem app_toList (x y : ByteArray) : (x ++ y).data.toList = x.data.toList ++ y.data.toList := by
  rw [ByteArray.data_append, Array.toList_append]

/-- The seven ways in the walk's own spelling. -/
theorem ways_bytes (a b c d : ByteArray) (ha : ∀ k, (h : k + 1 < a.size) → ¬ (a[k] = 95 ∧ a[k + 1] = 95)) (hc : ∀ k, (h : k + 1 < c.size) → ¬ (c[k] = 95 ∧ c[k + 1] = 95)) :
    ((a.toList == c.toList) = true ∧ (b.toList == d.toList) = true ∧ ((⟨#[109, 99, 112, 95, 95]⟩ ++ a ++ ⟨#[95, 95]⟩ ++ b : ByteArray).toList == (⟨#[109, 99, 112, 95, 95]⟩ ++ c ++ ⟨#[95, 95]⟩ ++ d : ByteArray).toList) = true) ∨
    ((a.toList == c.toList) = true ∧ (b.toList == d.toList) = false ∧ (a.toList == (c ++ ⟨#[95]⟩).toList) = false ∧ (c.toList == (a ++ ⟨#[95]⟩).toList) = false ∧ ((⟨#[109, 99, 112, 95, 95]⟩ ++ a ++ ⟨#[95, 95]⟩ ++ b : ByteArray).toList == (⟨#[109, 99, 112, 95, 95]⟩ ++ c ++ ⟨#[95, 95]⟩ ++ d : ByteArray).toList) = false) ∨
    ((a.toList == c.toList) = false ∧ (a.toList == (c ++ ⟨#[95]⟩).toList) = true ∧ (d.toList == ((⟨#[95]⟩ : ByteArray) ++ b).toList) = true ∧ ((⟨#[109, 99, 112, 95, 95]⟩ ++ a ++ ⟨#[95, 95]⟩ ++ b : ByteArray).toList == (⟨#[109, 99, 112, 95, 95]⟩ ++ c ++ ⟨#[95, 95]⟩ ++ d : ByteArray).toList) = true) ∨
    ((a.toList == c.toList) = false ∧ (a.toList == (c ++ ⟨#[95]⟩).toList) = true ∧ (d.toList == ((⟨#[95]⟩ : ByteArray) ++ b).toList) = false ∧ (c.toList == (a ++ ⟨#[95]⟩).toList) = false ∧ ((⟨#[109, 99, 112, 95, 95]⟩ ++ a ++ ⟨#[95, 95]⟩ ++ b : ByteArray).toList == (⟨#[109, 99, 112, 95, 95]⟩ ++ c ++ ⟨#[95, 95]⟩ ++ d : ByteArray).toList) = false) ∨
    ((a.toList == c.toList) = false ∧ (a.toList == (c ++ ⟨#[95]⟩).toList) = false ∧ (c.toList == (a ++ ⟨#[95]⟩).toList) = true ∧ (b.toList == ((⟨#[95]⟩ : ByteArray) ++ d).toList) = true ∧ ((⟨#[109, 99, 112, 95, 95]⟩ ++ a ++ ⟨#[95, 95]⟩ ++ b : ByteArray).toList == (⟨#[109, 99, 112, 95, 95]⟩ ++ c ++ ⟨#[95, 95]⟩ ++ d : ByteArray).toList) = true) ∨
    ((a.toList == c.toList) = false ∧ (a.toList == (c ++ ⟨#[95]⟩).toList) = false ∧ (c.toList == (a ++ ⟨#[95]⟩).toList) = true ∧ (b.toList == ((⟨#[95]⟩ : ByteArray) ++ d).toList) = false ∧ ((⟨#[109, 99, 112, 95, 95]⟩ ++ a ++ ⟨#[95, 95]⟩ ++ b : ByteArray).toList == (⟨#[109, 99, 112, 95, 95]⟩ ++ c ++ ⟨#[95, 95]⟩ ++ d : ByteArray).toList) = false) ∨
    ((a.toList == c.toList) = false ∧ (a.toList == (c ++ ⟨#[95]⟩).toList) = false ∧ (c.toList == (a ++ ⟨#[95]⟩).toList) = false ∧ ((⟨#[109, 99, 112, 95, 95]⟩ ++ a ++ ⟨#[95, 95]⟩ ++ b : ByteArray).toList == (⟨#[109, 99, 112, 95, 95]⟩ ++ c ++ ⟨#[95, 95]⟩ ++ d : ByteArray).toList) = false) := by
  have h := ways [109, 99, 112, 95, 95] a.data.toList b.data.toList c.data.toList d.data.toList (noDbl_of a ha) (noDbl_of c hc)
  simp only [ByteArray.toList_eq, app_toList, beq_iff_eq, beq_eq_false_iff_ne]
  exact h

set_option maxHeartbeats 1000000 in
set_option maxRecDepth 100000 in
theorem mcp_big (a b c d : ByteArray) (w : World) (ha : a.size ≤ maxLen) (hb : b.size ≤ maxLen) (hc : c.size ≤ maxLen) (hd : d.size ≤ maxLen)
    (h : 262144 < a.size ∨ 262144 < b.size ∨ 262144 < c.size ∨ 262144 < d.size) :
    Calls Try.prog 5 #[.string a, .string b, .string c, .string d] w fun e w' => e = .returned (.bool true) ∧ w' = w := by
  have HB := bytes_any a b c d w ha hb hc hd
  unfold maxLen at ha hb hc hd
  go_enter Try.func5, Try.ntmps5
  go_wp2_with fail
  refine HB.mono ?_
  rintro e w' ⟨r, rfl, hw⟩
  rw [hw]
  clear hw HB w'
  cases r
  · go_wp2
    go_ret
    exact ⟨rfl, rfl⟩
  · by_cases h1 : 262144 < a.size
    · go_wp2
      go_ret
      exact ⟨rfl, rfl⟩
    · by_cases h2 : 262144 < b.size
      · go_wp2
        go_ret
        exact ⟨rfl, rfl⟩
      · by_cases h3 : 262144 < c.size
        · go_wp2
          go_ret
          exact ⟨rfl, rfl⟩
        · have h4 : 262144 < d.size := by omega
          clear h
          go_wp2
          go_ret
          exact ⟨rfl, rfl⟩

set_option maxHeartbeats 1000000 in
set_option maxRecDepth 100000 in
theorem mcp_empty (a b c d : ByteArray) (w : World) (ha : a.size ≤ 262144) (hb : b.size ≤ 262144) (hc : c.size ≤ 262144) (hd : d.size ≤ 262144)
    (h : a.size = 0 ∨ c.size = 0) :
    Calls Try.prog 5 #[.string a, .string b, .string c, .string d] w fun e w' => e = .returned (.bool true) ∧ w' = w := by
  have HB := bytes_any a b c d w (by unfold maxLen; omega) (by unfold maxLen; omega) (by unfold maxLen; omega) (by unfold maxLen; omega)
  go_enter Try.func5, Try.ntmps5
  go_wp2_with fail
  refine HB.mono ?_
  rintro e w' ⟨r, rfl, hw⟩
  rw [hw]
  clear hw HB w'
  cases r
  · go_wp2
    go_ret
    exact ⟨rfl, rfl⟩
  · by_cases h1 : a.size = 0
    · have z : ((a.size : Int) == 0) = true := beq_iff_eq.2 (by omega)
      clear h h1
      go_wp2
      go_ret
      exact ⟨rfl, rfl⟩
    · have z1 : ((a.size : Int) == 0) = false := beq_eq_false_iff_ne.2 (by omega)
      have z2 : ((c.size : Int) == 0) = true := beq_iff_eq.2 (by omega)
      clear h h1
      go_wp2
      go_ret
      exact ⟨rfl, rfl⟩

set_option maxHeartbeats 1000000 in
set_option maxRecDepth 100000 in
theorem mcp_main (a b c d : ByteArray) (w : World) (ha : a.size ≤ 262144) (hb : b.size ≤ 262144) (hc : c.size ≤ 262144) (hd : d.size ≤ 262144)
    (h1 : 0 < a.size) (h2 : 0 < c.size) :
    Calls Try.prog 5 #[.string a, .string b, .string c, .string d] w fun e w' => e = .returned (.bool true) ∧ w' = w := by
  have HB := bytes_any a b c d w (by unfold maxLen; omega) (by unfold maxLen; omega) (by unfold maxLen; omega) (by unfold maxLen; omega)
  have z1 : ((a.size : Int) == 0) = false := beq_eq_false_iff_ne.2 (by omega)
  have z2 : ((c.size : Int) == 0) = false := beq_eq_false_iff_ne.2 (by omega)
  go_enter Try.func5, Try.ntmps5
  go_wp2_with fail
  refine HB.mono ?_
  rintro e w' ⟨r, rfl, hw⟩
  rw [hw]
  clear hw HB w'
  cases r
  · go_wp2
    go_ret
    exact ⟨rfl, rfl⟩
  · go_wp2_with fail
    refine (double_any a _ ha).mono ?_
    rintro e w' ⟨⟨r1, rfl, hr1⟩, hw⟩
    rw [hw]
    clear hw w'
    cases r1
    · have HR1 : Hid (∀ k, (h : k + 1 < a.size) → ¬ (a[k] = 95 ∧ a[k + 1] = 95)) := hr1 rfl
      clear hr1
      go_wp2_with fail
      refine (double_any c _ hc).mono ?_
      rintro e w' ⟨⟨r2, rfl, hr2⟩, hw⟩
      rw [hw]
      clear hw w'
      cases r2
      · have HR2 : Hid (∀ k, (h : k + 1 < c.size) → ¬ (c[k] = 95 ∧ c[k + 1] = 95)) := hr2 rfl
        clear hr2
        go_wp2_with fail
        refine (tool_any a b _ ha hb).mono ?_
        rintro e w' ⟨rfl, hw⟩
        rw [hw]
        clear hw w'
        go_wp2_with fail
        refine (tool_any c d _ hc hd).mono ?_
        rintro e w' ⟨rfl, hw⟩
        rw [hw]
        clear hw w'
        have key := ways_bytes a b c d HR1.out HR2.out
        clear HR1 HR2
        rcases key with ⟨x1, x2, x0⟩ | ⟨x1, x2, x3, x5, x0⟩ | ⟨x1, x3, x4, x0⟩ | ⟨x1, x3, x4, x5, x0⟩ | ⟨x1, x3, x5, x6, x0⟩ | ⟨x1, x3, x5, x6, x0⟩ | ⟨x1, x3, x5, x0⟩
        all_goals
          go_wp2
          go_ret
          exact ⟨rfl, rfl⟩
      · clear hr2
        go_wp2
        go_ret
        exact ⟨rfl, rfl⟩
    · clear hr1
      go_wp2
      go_ret
      exact ⟨rfl, rfl⟩

end Go.Proofs.Qxb6613957a
