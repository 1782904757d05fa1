/-
  OURS. Plain facts on the ten names, and the start that is shown to be there.
-/
import Derived.Test.Qxb6613471aFmtLaid
namespace Go.Proofs.Qxb6613471aFmt
open Go.ChangeShapes Go.WideShapes Go.ChangeAt Go.RowKit Go.Kit
open Go.Extern.Stop Go.Stop Go.Extern

theorem nm_pos : ∀ i : Fin 10, 0 < (nm i).size := by decide +kernel
theorem nm_small : ∀ i : Fin 10, (nm i).size ≤ 1000 := by decide +kernel
theorem nm_first : ∀ i : Fin 10, ∀ k, (h : k < (nm i).size) → k = 0 → (97 : Int) ≤ ((nm i)[k].toNat : Int) ∧ ((nm i)[k].toNat : Int) ≤ 122 := by decide +kernel
theorem nm_last : ∀ i : Fin 10, ∀ k, (h : k < (nm i).size) → k = (nm i).size - 1 → (97 : Int) ≤ ((nm i)[k].toNat : Int) ∧ ((nm i)[k].toNat : Int) ≤ 122 := by decide +kernel
theorem nm_mid : ∀ i : Fin 10, ∀ k, (h : k < (nm i).size) → 1 ≤ k → ((nm i)[k] = 45 ∧ ¬ (nm i)[k - 1] = 45) ∨ (¬ (nm i)[k] = 45 ∧ (97 : Int) ≤ ((nm i)[k].toNat : Int) ∧ ((nm i)[k].toNat : Int) ≤ 122) := by decide +kernel
theorem nm_part : ∀ i j : Fin 10, ¬ i = j → ∃ d : Fin 30, d.val < (nm i).size ∧ d.val < (nm j).size ∧ ¬ (names10.getD i [])[d.val]? = (names10.getD j [])[d.val]? := by decide +kernel

theorem nm_ne {i j d : Nat} (h1 : d < (nm i).size) (h2 : d < (nm j).size) (h : ¬ (names10.getD i [])[d]? = (names10.getD j [])[d]?) : ¬ (nm i)[d] = (nm j)[d] := by
  intro e
  apply h
  have l1 : d < (names10.getD i []).length := by simpa [nm, ByteArray.size] using h1
  have l2 : d < (names10.getD j []).length := by simpa [nm, ByteArray.size] using h2
  rw [List.getElem?_eq_getElem l1, List.getElem?_eq_getElem l2]
  exact congrArg some e

def laidWorld (P : Program) (os : Os) : World :=
  { World.holding P os ⟨#[], #[], []⟩ with heap := (World.holding P os ⟨#[], #[], []⟩).heap.modify 0 fun
      | .cells _ t frozen => .cells cells10 t frozen
      | o => o }
theorem laid_met (os : Os) (args : Array Value) : laidMet Tryf.prog Rows.fnPropertyNamesPrefixFreeRow.laid ((laidWorld Tryf.prog os).forCall (fun _ _ => 0) ⟨#[], args, []⟩).memory :=
  laidMet_of_run (ps := [.cell 0 0, .cell 0 1, .cell 0 2, .cell 0 3, .cell 0 4, .cell 0 5, .cell 0 6, .cell 0 7, .cell 0 8, .cell 0 9]) 8 (by kernel_rfl) (by kernel_rfl) (by kernel_rfl)

theorem Tryf.own : ownKnob Tryf.prog.godebug = none := by kernel_rfl
theorem Tryf.laidOut : laidOutB Tryf.pinned.checked.prog = true := by kernel_rfl
theorem Tryf.stops : Tryf.pinned.checked.prog.stops = ["fmt.Sprintf"] := by kernel_rfl
theorem Tryf.stopKnobs : Tryf.pinned.checked.prog.stopKnobs = [] := by kernel_rfl
theorem Tryf.quiet (os : Os) : Stop.quiet Tryf.pinned.checked.prog os := by
  intro k hk
  rw [Tryf.stopKnobs] at hk
  cases hk

end Go.Proofs.Qxb6613471aFmt
