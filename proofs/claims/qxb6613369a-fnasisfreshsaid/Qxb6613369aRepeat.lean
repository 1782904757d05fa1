/-
  OURS. bytes.Repeat over a one-byte slice of 'a', then 'as' and 'ZZas'.
-/
import Derived.Test.Qxb6613369aMul
import Derived.Test.Qxb6613369aRep
import Derived.Deep.RegionLaw
import Derived.Deep.DeepCutAuto
import Derived.Deep.DeepFit
import Derived.Outline
namespace Go.Proofs.Qxb6613369a
open Go.RowKit

theorem tail_slice (W : World) (h N k : Nat) (hk : k < N) :
    (Instr.slice 24 (.slice (some ⟨h, 0, none⟩) N N) (some (.int .i64 (k : Int))) none none).run Try.prog W = .ok (.slice (some ⟨h, k, none⟩) (N - k) (N - k)) W := by
  have he : Try.prog.elem 24 = 5 := by simp [Program.elem, Try.underlying24]
  have hz : ∀ w, (Go.sizeOf 5).run Try.prog w = .ok 1 w := fun _ => by kernel_rfl
  rw [run_slice_l W 24 _ _ _ (by rw [he]; exact Try.underlying24) .i64 _ (by omega) (by omega), he, hz]
  have h0 : ¬ N = k := by omega
  by_cases h1 : k = 0
  · subst h1; simp [Result.andThen, sliced, Addr.add, h0]
  · simp [Result.andThen, sliced, Addr.add, h0, h1]

theorem head_slice (W : World) (h N k : Nat) (hk : k ≤ N) :
    (Instr.slice 24 (.slice (some ⟨h, 0, none⟩) N N) none (some (.int .i64 (k : Int))) none).run Try.prog W = .ok (.slice (some ⟨h, 0, none⟩) k N) W := by
  have he : Try.prog.elem 24 = 5 := by simp [Program.elem, Try.underlying24]
  have hz : ∀ w, (Go.sizeOf 5).run Try.prog w = .ok 1 w := fun _ => by kernel_rfl
  rw [run_slice_h W 24 _ _ _ (by rw [he]; exact Try.underlying24) .i64 _ (by omega) (by omega), he, hz]
  simp [Result.andThen, sliced, Addr.add]

set_option maxHeartbeats 1000000 in
set_option maxRecDepth 100000 in
theorem repeat_main (b n : Nat) (h1 : 1 ≤ n) (hn : n ≤ 131072) (w : World) (hcell : w.cell? ⟨b, 0, none⟩ = some (.int .u8 97)) :
    Calls Try.prog 15 #[.slice (some ⟨b, 0, none⟩) 1 1, .int .i64 (n : Int)] w fun e w' => e = .returned (.slice (some ⟨w.heap.size, 0, none⟩) n n) ∧ Rep w w' n n := by
  have hMul := mul_any 1 n (by omega) (by omega) w
  rw [Nat.one_mul, Nat.div_eq_of_lt (by omega : n < 18446744073709551616), Nat.mod_eq_of_lt (by omega : n < 18446744073709551616)] at hMul
  have hz : ((n : Int) == 0) = false := beq_eq_false_iff_ne.2 (by omega)
  have hb : b < w.heap.size := World.block_lt_of_cell? w _ hcell
  go_enter Try.func15, Try.ntmps15
  go_upto_if 42 with (go_at_call 16; go_fit hMul; rintro e w' ⟨rfl, hw⟩; rw [hw])
  clear hMul
  go_cut [8] (fun s8 wx => w = wx ∧ ∃ cm : Nat, 1 ≤ cm ∧ cm ≤ 131072 ∧ s8 = .int .i64 (cm : Int))
  case first =>
    go_wp2
    · go_meet
      exact ⟨rfl, 8192, by omega, by omega, rfl⟩
    · go_meet
      exact ⟨rfl, n, by omega, by omega, rfl⟩
  case rest =>
    obtain ⟨rfl, cm, hcm1, hcm2, rfl⟩ := hcut
    obtain ⟨cs, hcall, hle⟩ := makeNoZero_call w n (by omega)
    have i0 : (0 : Int) ≤ (n : Int) := by omega
    have i1 : (n : Int) ≤ (cs.size : Int) := by omega
    have R0 := Rep.start w cs 5 n 2 hle
    obtain ⟨w1, hr1, R1⟩ := R0.copy 1 1 1 ⟨b, 0, none⟩ n 3 (by omega) (by omega) (fun j hj => by
      obtain rfl : j = 0 := by omega
      rw [R0.below.cell (p := (⟨b, 0, none⟩ : Addr).add 0) (by rw [addPlain]; exact hb)]
      rw [addPlain]
      exact hcell)
    rw [Nat.sub_zero] at hr1
    go_wp2_with (at_builtin; refine wpList_copy_known _ rfl _ _ 24 24 rfl _ _ rfl rfl hr1 ?_)
    have HR1 : Hid (Rep w w1 n 1) := R1
    clear R1 hr1 R0 hcall
    go_loopw [10] (fun s10 wr => ∃ k : Nat, 1 ≤ k ∧ k ≤ n ∧ s10 = .int .i64 (k : Int) ∧ Hid (Rep w wr n k)) (fun s10 _ => n - (intOf s10).toNat)
    case atStart => exact ⟨1, by omega, h1, rfl, HR1⟩
    case round =>
      obtain ⟨k, hk1, hkn, rfl, HR⟩ := hrel
      by_cases hlt : k < n
      · obtain ⟨ch, hch1, hchk, hmin⟩ : ∃ ch : Nat, 1 ≤ ch ∧ ch ≤ k ∧ (ch : Int) = if (cm : Int) < (k : Int) then (cm : Int) else (k : Int) := by
          by_cases hc : cm < k
          · exact ⟨cm, hcm1, by omega, by rw [if_pos (by omega)]⟩
          · exact ⟨k, hk1, Nat.le_refl _, by rw [if_neg (by omega)]⟩
        have hminr : ∀ (ts : Array TypeId) (t : TypeId) (W : World), (Builtin.min_ ts t #[.int .i64 (k : Int), .int .i64 (cm : Int)]).run Try.prog W = .ok (.int .i64 (ch : Int)) W := fun ts t W => by
          simp [Builtin.min_, Builtin.min2, hmin]
        clear hmin
        go_wp2
        have hsl1 : ∀ W, (Instr.slice 24 (.slice (some ⟨w.heap.size, 0, none⟩) n n) (some (.int .i64 (k : Int))) none none).run Try.prog W = .ok (.slice (some ⟨w.heap.size, k, none⟩) (n - k) (n - k)) W := fun W => tail_slice W w.heap.size n k hlt
        have hsl2 : ∀ W, (Instr.slice 24 (.slice (some ⟨w.heap.size, 0, none⟩) n n) none (some (.int .i64 (ch : Int))) none).run Try.prog W = .ok (.slice (some ⟨w.heap.size, 0, none⟩) ch n) W := fun W => head_slice W w.heap.size n ch (by omega)
        obtain ⟨m, hm⟩ : ∃ m, m = min ch (n - k) := ⟨_, rfl⟩
        obtain ⟨w2, hr2, R2⟩ := (HR.out).drew.copy ch m n ⟨w.heap.size, 0, none⟩ (n - k) 3 (by omega) hm (fun j hj => by
          rw [addPlain, Nat.zero_add]
          exact HR.out.drew.holds j (by omega))
        have hm1 : 1 ≤ m := by omega
        have hm2 : k + m ≤ n := by omega
        have HR2 : Hid (Rep w w2 n (k + m)) := R2
        clear hm R2
        have hwr : IntKind.i64.wrap ((k : Int) + (m : Int)) = (k : Int) + (m : Int) := by rw [IntKind.wrap_i64]; omega
        go_region_law (refine step_copy_known rfl (.tmp 70) (.tmp 73) 24 24 rfl _ _ (by simp [Act.eval, Act.put]) (by simp [Act.eval, Act.put]) hr2 ?_)
        go_simp
        go_wp2
        go_roundw
        case rel => exact ⟨k + m, by omega, hm2, by go_num, HR2⟩
        case measure => simp [intOf]; omega
      · obtain rfl : k = n := by omega
        go_wp2
        go_ret
        exact ⟨rfl, HR.out⟩

/-- No copy at all: '[]byte{}'. -/
theorem repeat_zero (b : Nat) (w : World) :
    Calls Try.prog 15 #[.slice (some ⟨b, 0, none⟩) 1 1, .int .i64 0] w fun e w' => e = .returned (.slice (some ⟨w.heap.size, 0, none⟩) 0 0) ∧ Rep w w' 0 0 := by
  go_enter Try.func15, Try.ntmps15
  go_wp2
  go_ret
  exact ⟨rfl, (Below.refl _ _).alloc (Nat.le_refl _) _, by simp, fun j hj => absurd hj (by omega), fun j hj => absurd hj (by omega), fun j hj => absurd hj (by omega)⟩

end Go.Proofs.Qxb6613369a
