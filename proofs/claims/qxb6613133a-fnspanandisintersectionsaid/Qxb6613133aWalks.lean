/-
  OURS. THE WALKS of span.and, ZZSpanAnd and zzIn.
-/
import Derived.Test.Qxb6613133aRows
import Derived.WalkKit
import Derived.WalkSpells
import Derived.WalkLawsBesides
import Derived.Deep.QuietTactic
import Derived.BigQuiet
import Derived.Outline
namespace Go.Proofs.Qxb6613133a
open Go.RowKit

/-- f is the greater of a and b. -/
def IsMax (f a b : Int) : Prop := f = if a < b then b else a
/-- u is the lesser of a and b. -/
def IsMin (u a b : Int) : Prop := u = if b < a then b else a

theorem run_max2 (ts : Array TypeId) (t : TypeId) (W : World) {f a b : Int} (h : IsMax f a b) : (Builtin.max_ ts t #[.int .i32 a, .int .i32 b]).run Try.prog W = .ok (.int .i32 f) W := by
  unfold IsMax at h
  subst h
  simp [Builtin.max_, Builtin.max2]
theorem run_min2 (ts : Array TypeId) (t : TypeId) (W : World) {u a b : Int} (h : IsMin u a b) : (Builtin.min_ ts t #[.int .i32 a, .int .i32 b]).run Try.prog W = .ok (.int .i32 u) W := by
  unfold IsMin at h
  subst h
  simp [Builtin.min_, Builtin.min2]

set_option maxHeartbeats 1000000 in
set_option maxRecDepth 100000 in
theorem and_any (a1 u1 a2 u2 f u : Int) (hf : IsMax f a1 a2) (hu : IsMin u u1 u2) (w : World) :
    Calls Try.prog 9 #[.agg #[.int .i32 a1, .int .i32 u1], .agg #[.int .i32 a2, .int .i32 u2]] w fun e w' => e = .returned (.agg #[.int .i32 f, .int .i32 u]) ∧ Grown w w' := by
  have hmx := fun ts t W => run_max2 ts t W hf
  have hmn := fun ts t W => run_min2 ts t W hu
  clear hf hu
  go_enter Try.func9, Try.ntmps9
  go_wp2
  refine bodyPost_ret (v := .agg #[.int .i32 f, .int .i32 u]) (by simp [results, Try.results9, go_sem]) rfl ⟨rfl, ?_⟩
  exact (((Grown.refl w).alloc _ _).alloc _ _).alloc _ _

theorem grown_trans {a b c : World} (h : Grown a b) (k : Grown b c) : Grown a c :=
  ⟨World.keptBut_trans h.1 (World.keptBut_mono (fun _ f => f.elim) k.1), fun x => (k.2.1 x).trans (h.2.1 x), Nat.le_trans h.2.2 k.2.2⟩

theorem grown_drawn {a b : World} (h : Grown a b) (n : Nat) : Grown a (b.drewN n) := h

theorem IsMax.facts {f a b : Int} (h : IsMax f a b) : a ≤ f ∧ b ≤ f ∧ (f = a ∨ f = b) := by
  unfold IsMax at h
  split at h <;> omega
theorem IsMin.facts {u a b : Int} (h : IsMin u a b) : u ≤ a ∧ u ≤ b ∧ (u = a ∨ u = b) := by
  unfold IsMin at h
  split at h <;> omega
theorem isMax_mk {f a b : Int} (h1 : a ≤ f) (h2 : b ≤ f) (h3 : f = a ∨ f = b) : IsMax f a b := by
  unfold IsMax
  split <;> omega
theorem isMin_mk {u a b : Int} (h1 : u ≤ a) (h2 : u ≤ b) (h3 : u = a ∨ u = b) : IsMin u a b := by
  unfold IsMin
  split <;> omega
theorem exMax (a b : Int) : ∃ f, IsMax f a b := ⟨_, rfl⟩
theorem exMin (a b : Int) : ∃ u, IsMin u a b := ⟨_, rfl⟩

set_option maxHeartbeats 1000000 in
set_option maxRecDepth 100000 in
theorem span_any (a1 u1 a2 u2 f u : Int) (hf : IsMax f a1 a2) (hu : IsMin u u1 u2) (w : World) :
    Calls Try.prog 6 #[.int .i32 a1, .int .i32 u1, .int .i32 a2, .int .i32 u2] w fun e w' => e = .returned (.tuple #[.int .i32 f, .int .i32 u]) ∧ Grown w w' := by
  have C := fun W => and_any a1 u1 a2 u2 f u hf hu W
  have HC : Hid (∀ W, Calls Try.prog 9 #[.agg #[.int .i32 a1, .int .i32 u1], .agg #[.int .i32 a2, .int .i32 u2]] W fun e w' => e = .returned (.agg #[.int .i32 f, .int .i32 u]) ∧ Grown W w') := C
  clear C hf hu
  go_enter Try.func6, Try.ntmps6
  go_wp2_with fail
  refine (HC.out _).mono ?_
  rintro e w1 ⟨rfl, G⟩
  have HG : Hid (Grown w w1) := G
  clear G HC
  go_wp2
  go_quiet (fail)
  go_wp2
  go_ret2
  exact ⟨rfl, grown_drawn (HG.out.alloc _ _) nq⟩

set_option maxHeartbeats 1000000 in
theorem in_yes (a u d : Int) (h1 : a ≤ d) (h2 : d < u) (w : World) :
    Calls Try.prog 7 #[.int .i32 a, .int .i32 u, .int .i32 d] w fun e w' => e = .returned (.bool true) ∧ w' = w := by
  have d1 : decide (a ≤ d) = true := decide_eq_true h1
  have d2 : decide (d < u) = true := decide_eq_true h2
  go_enter Try.func7, Try.ntmps7
  go_wp2
  go_ret
  exact ⟨rfl, rfl⟩

set_option maxHeartbeats 1000000 in
theorem in_no (a u d : Int) (h : ¬ (a ≤ d ∧ d < u)) (w : World) :
    Calls Try.prog 7 #[.int .i32 a, .int .i32 u, .int .i32 d] w fun e w' => e = .returned (.bool false) ∧ w' = w := by
  by_cases h1 : a ≤ d
  · have d1 : decide (a ≤ d) = true := decide_eq_true h1
    have d2 : decide (d < u) = false := decide_eq_false fun h2 => h ⟨h1, h2⟩
    clear h
    go_enter Try.func7, Try.ntmps7
    go_wp2
    go_ret
    exact ⟨rfl, rfl⟩
  · have d1 : decide (a ≤ d) = false := decide_eq_false h1
    clear h
    go_enter Try.func7, Try.ntmps7
    go_wp2
    go_ret
    exact ⟨rfl, rfl⟩

end Go.Proofs.Qxb6613133a
