/-
  OURS. The ten names: the cells of the table off 'laid', and the plain facts on the names.
-/
import Derived.Test.Qxb6613471aFmtPrefixWalk
import Derived.ProofKit
import Derived.Stop.JoinedAt
import Derived.Stop.JoinedTold
import Derived.Stop.LaidErr
import Derived.ShutString
import Derived.OpenShut
import Derived.OpenVars
namespace Go.Proofs.Qxb6613471aFmt
open Go.ChangeShapes Go.WideShapes Go.ChangeAt Go.RowKit Go.Kit
open Go.Extern.Stop Go.Stop Go.Extern

/-- The ten names' bytes. -/
def names10 : List (List UInt8) := [[100, 101, 97, 100, 108, 111, 99, 107, 45, 102, 114, 101, 101],
  [115, 117, 99, 99, 101, 115, 115, 45, 114, 101, 97, 99, 104, 97, 98, 108, 101],
  [99, 104, 97, 108, 108, 101, 110, 103, 101, 45, 97, 102, 116, 101, 114, 45, 105, 100, 101, 110, 116, 105, 116, 121],
  [115, 117, 99, 99, 101, 115, 115, 45, 97, 102, 116, 101, 114, 45, 99, 104, 97, 108, 108, 101, 110, 103, 101],
  [101, 118, 101, 114, 121, 45, 114, 117, 110, 45, 101, 110, 100, 115],
  [107, 115, 101, 97, 102, 45, 115, 101, 99, 114, 101, 116],
  [115, 117, 112, 105, 45, 115, 101, 99, 114, 101, 116],
  [117, 101, 45, 97, 103, 114, 101, 101, 115, 45, 111, 110, 45, 115, 110, 45, 110, 97, 109, 101],
  [115, 110, 45, 97, 103, 114, 101, 101, 115, 45, 111, 110, 45, 117, 101],
  [111, 110, 101, 45, 118, 101, 99, 116, 111, 114, 45, 112, 101, 114, 45, 114, 101, 113, 117, 101, 115, 116]]
def nm (i : Nat) : ByteArray := ⟨(names10.getD i []).toArray⟩

/-- The table's name, off the given specification. -/
def pn : String := Rows.fnPropertyNamesPrefixFreeSpec.vars.head (List.cons_ne_nil _ _)
theorem Tryf.gN : Tryf.prog.globalNamed pn = some 0 := by kernel_rfl
theorem Tryf.gNType : (Tryf.prog.globals[0]?).map (·.type) = some 29 := by kernel_rfl
theorem Tryf.cells29 : Tryf.prog.cellsOf 29 = 10 := by kernel_rfl
theorem Tryf.cells9 : Tryf.prog.cellsOf 9 = 1 := by kernel_rfl

def cells10 : Array Value := #[.string (nm 0), .string (nm 1), .string (nm 2), .string (nm 3), .string (nm 4), .string (nm 5), .string (nm 6), .string (nm 7), .string (nm 8), .string (nm 9)]

theorem str_of_trod {H : Type} {enc : TypeId × Value → H} {w : World} {base : Nat} {sp : Nat → Bool} {held : Bool} {fuel : Nat} {c : Value} {y : DataW H × List MemPlace}
    (h : DataW.trod enc Tryf.prog w base sp held fuel 9 [c] = some y) : ∃ s : ByteArray, c = .string s ∧ y = (.lit (.string s.data.toList), []) := by
  obtain ⟨s, hc, hy, _⟩ := DataW.trod_string Tryf.underlying9 h
  simp only [List.cons.injEq, and_true] at hc
  exact ⟨s, hc, hy⟩
theorem ba_of_list {s : ByteArray} {l : List UInt8} (h : s.data.toList = l) : s = ⟨l.toArray⟩ := by rw [← h]

theorem ten_of_length {l : List Value} (h : l.length = 10) : ∃ c0 c1 c2 c3 c4 c5 c6 c7 c8 c9, l = [c0, c1, c2, c3, c4, c5, c6, c7, c8, c9] := by
  match l, h with
  | [x0, x1, x2, x3, x4, x5, x6, x7, x8, x9], _ => exact ⟨x0, x1, x2, x3, x4, x5, x6, x7, x8, x9, rfl⟩

set_option maxRecDepth 100000 in
theorem cells_of_laid {W : World} (h : laidMet Tryf.prog Rows.fnPropertyNamesPrefixFreeRow.laid W) : W.var? Tryf.prog pn = some cells10 := by
  obtain ⟨ps, ⟨g, t, cs, fuel, p, q, hg, ht, hvar, hd, _, _⟩, _⟩ := h
  obtain rfl := Option.some.inj (Tryf.gN.symm.trans hg)
  obtain rfl := Option.some.inj (Tryf.gNType.symm.trans ht)
  refine (show _ = _ from hvar).trans ?_
  congr 1
  obtain ⟨l⟩ := cs
  cases fuel with
  | zero => simp [DataW.trod] at hd
  | succ fuel =>
    simp only [DataW.trod, Tryf.underlying29, Tryf.cells29, Tryf.cells9] at hd
    split at hd
    · rename_i hl
      obtain ⟨c0, c1, c2, c3, c4, c5, c6, c7, c8, c9, rfl⟩ := ten_of_length (by simpa using hl)
      have e : List.range 10 = [0, 1, 2, 3, 4, 5, 6, 7, 8, 9] := rfl
      rw [e] at hd
      simp only [Option.map_eq_some_iff, List.mapM_cons, List.mapM_nil, Option.bind_eq_bind, Option.bind_eq_some_iff, Option.pure_def, Option.some.injEq] at hd
      obtain ⟨xs, ⟨y0, h0, _, ⟨y1, h1, _, ⟨y2, h2, _, ⟨y3, h3, _, ⟨y4, h4, _, ⟨y5, h5, _, ⟨y6, h6, _, ⟨y7, h7, _, ⟨y8, h8, _, ⟨y9, h9, _, rfl, rfl⟩, rfl⟩, rfl⟩, rfl⟩, rfl⟩, rfl⟩, rfl⟩, rfl⟩, rfl⟩, rfl⟩, hx⟩ := hd
      obtain ⟨n0, rfl, rfl⟩ := str_of_trod h0
      obtain ⟨n1, rfl, rfl⟩ := str_of_trod h1
      obtain ⟨n2, rfl, rfl⟩ := str_of_trod h2
      obtain ⟨n3, rfl, rfl⟩ := str_of_trod h3
      obtain ⟨n4, rfl, rfl⟩ := str_of_trod h4
      obtain ⟨n5, rfl, rfl⟩ := str_of_trod h5
      obtain ⟨n6, rfl, rfl⟩ := str_of_trod h6
      obtain ⟨n7, rfl, rfl⟩ := str_of_trod h7
      obtain ⟨n8, rfl, rfl⟩ := str_of_trod h8
      obtain ⟨n9, rfl, rfl⟩ := str_of_trod h9
      simp [Rows.laid_example_com_attestra_attestra_explorer_propertyNames] at hx
      obtain ⟨⟨e0, e1, e2, e3, e4, e5, e6, e7, e8, e9⟩, _⟩ := hx
      rw [ba_of_list e0, ba_of_list e1, ba_of_list e2, ba_of_list e3, ba_of_list e4, ba_of_list e5, ba_of_list e6, ba_of_list e7, ba_of_list e8, ba_of_list e9]
      rfl
    · cases hd

theorem cell_name {W : World} (h : laidMet Tryf.prog Rows.fnPropertyNamesPrefixFreeRow.laid W) (i : Nat) (hi : i < 10) : W.cell? ⟨0, i, none⟩ = some (.string (nm i)) := by
  rw [World.var?_cell Tryf.gN (cells_of_laid h) i]
  rcases (by omega : i = 0 ∨ i = 1 ∨ i = 2 ∨ i = 3 ∨ i = 4 ∨ i = 5 ∨ i = 6 ∨ i = 7 ∨ i = 8 ∨ i = 9) with rfl | rfl | rfl | rfl | rfl | rfl | rfl | rfl | rfl | rfl <;> rfl

end Go.Proofs.Qxb6613471aFmt
