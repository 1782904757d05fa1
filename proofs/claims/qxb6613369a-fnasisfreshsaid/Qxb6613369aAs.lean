/-
  OURS. 'as' and 'ZZas': n bytes 'a' in a new block.
-/
import Derived.Test.Qxb6613369aRepeat
import Derived.Lib.SlBytesConst
namespace Go.Proofs.Qxb6613369a
open Go.RowKit

/-- In w' a block h, new since w, bears n cells at least, none frozen, each 97; of what was there nothing has turned. -/
structure NewAs (w w' : World) (h n : Nat) : Prop where
  below : Below w.heap.size w w'
  lo : w.heap.size ≤ h
  hi : h < w'.heap.size
  free : ∀ j, j < n → w'.frozen? ⟨h, j, none⟩ = false
  holds : ∀ j, j < n → w'.cell? ⟨h, j, none⟩ = some (.int .u8 97)

set_option maxHeartbeats 1000000 in
set_option maxRecDepth 100000 in
theorem as_any (n : Nat) (hn : n ≤ 131072) (w : World) :
    Calls Try.prog 14 #[.int .i64 (n : Int)] w fun e w' => ∃ h, e = .returned (.slice (some ⟨h, 0, none⟩) n n) ∧ NewAs w w' h n := by
  have kc := fun (w : World) (C : Array Value) (n c : Nat) => Lib.run_convert_bytes_const (P := Try.prog) w 24 5 C n c Try.underlying24 Try.underlying5
  have hR : ∀ W : World, W.cell? ⟨w.heap.size, 0, none⟩ = some (.int .u8 97) → Calls Try.prog 15 #[.slice (some ⟨w.heap.size, 0, none⟩) 1 1, .int .i64 (n : Int)] W fun e w' => e = .returned (.slice (some ⟨W.heap.size, 0, none⟩) n n) ∧ Rep W w' n n := by
    intro W hc
    by_cases h0 : n = 0
    · subst h0
      exact repeat_zero _ W
    · exact repeat_main _ n (by omega) hn W hc
  have HRR : Hid (∀ W : World, W.cell? ⟨w.heap.size, 0, none⟩ = some (.int .u8 97) → Calls Try.prog 15 #[.slice (some ⟨w.heap.size, 0, none⟩) 1 1, .int .i64 (n : Int)] W fun e w' => e = .returned (.slice (some ⟨W.heap.size, 0, none⟩) n n) ∧ Rep W w' n n) := hR
  clear hR
  go_enter Try.func14, Try.ntmps14
  go_wp2_with fail
  refine (HRR.out _ (by rw [World.cell?_alloc_mark]; rfl)).mono ?_
  rintro e w1 ⟨rfl, R⟩
  have hs := R.size
  have hb := R.below
  have hB : Below w.heap.size w (w.alloc (.cells #[Value.int .u8 97] 5 (1, 2))) := (Below.refl _ _).alloc (Nat.le_refl _) _
  go_wp2
  go_ret
  exact ⟨_, rfl, hB.trans (hb.mono (by simp)), by simp, by simpa using hs, fun j hj => by simpa using R.free j hj, fun j hj => by simpa using R.holds j hj⟩

set_option maxHeartbeats 1000000 in
theorem zzas_any (n : Nat) (hn : n ≤ 131072) (w : World) :
    Calls Try.prog 13 #[.int .i64 (n : Int)] w fun e w' => ∃ h, e = .returned (.slice (some ⟨h, 0, none⟩) n n) ∧ NewAs w w' h n := by
  go_enter Try.func13, Try.ntmps13
  go_wp2_with fail
  refine (as_any n hn _).mono ?_
  rintro e w1 ⟨h, rfl, R⟩
  go_wp2
  go_ret
  exact ⟨h, rfl, R⟩

end Go.Proofs.Qxb6613369a
