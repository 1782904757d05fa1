/-
  OURS. THE CARD 'Rows.FnPropertyNamesPrefixFreeToldSaid': told and tied. The road never comes to fmt: both properties are named.
-/
import Derived.Test.Qxb6613471aFmtNames
import Derived.Test.Qxb6613471aFmtTie
import Derived.Test.Qxb6613471aFmtCards
import Derived.SevenTiedAt
namespace Go.Proofs.Qxb6613471aFmt.fnPropertyNamesPrefixFree
open Go.ChangeShapes Go.WideShapes Go.ChangeAt Go.RowKit Go.Kit
open Go.Extern.Stop Go.Stop Go.Extern
set_option linter.unusedVariables false

theorem walk (p q : Int) (h0 : 0 ≤ p) (h1 : 0 ≤ q) (w : World) (hc : ∀ i, i < 10 → w.cell? ⟨0, i, none⟩ = some (.string (nm i))) :
    Calls Tryf.prog 3 #[.int .u8 p, .int .u8 q] w fun e w' => e = .returned (.bool true) ∧ ∃ n, w' = w.drewN n := by
  by_cases h : 9 < p ∨ 9 < q
  · exact prefix_out p q w h
  · obtain ⟨i, rfl⟩ := Int.eq_ofNat_of_zero_le h0
    obtain ⟨j, rfl⟩ := Int.eq_ofNat_of_zero_le h1
    have hi : i < 10 := by omega
    have hj : j < 10 := by omega
    by_cases hij : i = j
    · subst hij
      exact prefix_same i hi (nm i) w (hc i hi) (nm_pos ⟨i, hi⟩)
    · obtain ⟨d, d1, d2, d3⟩ := nm_part ⟨i, hi⟩ ⟨j, hj⟩ (fun e => hij (congrArg Fin.val e))
      exact prefix_two i j hi hj hij (nm i) (nm j) w (hc i hi) (hc j hj) (nm_small ⟨i, hi⟩) (nm_small ⟨j, hj⟩) d.val d1 d2 (nm_ne d1 d2 d3)

set_option maxRecDepth 100000 in
theorem lifted (os : Os) (started : os.Started) (H : Type) (enc : TypeId × Value → H) :
    ReturnsInTold none {} Tryf.checked os 3 .any Input.okWide ((OpenSpec.ofChange Rows.fnPropertyNamesPrefixFreeSpec).preRow enc Tryf.prog Tryf.f3 [] false Rows.fnPropertyNamesPrefixFreeRow.laid) (fun F => ((OpenSpec.ofChange Rows.fnPropertyNamesPrefixFreeSpec).at F).post enc Tryf.prog Tryf.f3 false true false false) (aloneAtReturn Tryf.prog) nothingAlways := by
  refine returnsInTold_of_row (C := Tryf.checked) (s := OpenSpec.ofChange Rows.fnPropertyNamesPrefixFreeSpec) (by kernel_rfl) Tryf.own started (by kernel_rfl) Tryf.func3
    (OpenSpec.witness_stopped_at (enc := enc) (C := Tryf.checked) false (laidWorld Tryf.prog os) #[.int .u8 0, .int .u8 0] rfl (by kernel_rfl) (by kernel_rfl) (by kernel_rfl)
      (OpenSpec.preRow_of_B rfl 8 (by kernel_rfl) (by kernel_rfl) (laid_met os _))) ?_
  intro F W base args ds gs before _ hF hval0 hW _ _ _ hL _
  have hval : ∀ (j : Nat) t v, Tryf.f3.params[j]? = some t → args[j]? = some v → Value.okWide Tryf.prog W .any base t v := hval0
  have hW' := hW
  obtain ⟨p, q, hA0, hV, rfl, hfz, hnd⟩ := hW
  have hA : DataW.TrodAll enc Tryf.prog W 0 (fun _ => true) true Tryf.f3.params.toList args.toList ds p := hA0
  rw [Tryf.params3] at hA hval
  obtain ⟨v0, v1, d0, d1, p0, p1, rfl, rfl, rfl, h0, h1⟩ := trodAll_two hA
  obtain ⟨a0, rfl, rfl, rfl, w0⟩ := open_int Tryf.underlying5 (hval 0 5 v0 rfl rfl) h0
  obtain ⟨a1, rfl, rfl, rfl, w1⟩ := open_int Tryf.underlying5 (hval 1 5 v1 rfl rfl) h1
  have hV1 : DataW.TrodVars enc Tryf.prog W (fun _ => true) [pn] gs q := hV
  obtain ⟨gv, gt, gcs, gfuel, g0, gp, rfl, _⟩ := trodVars_one hV1
  clear hA0 hval0
  have hb8 := bounds_u8 w0
  have hb9 := bounds_u8 w1
  refine (walk a0 a1 (by omega) (by omega) W (fun i hi => cell_name hL i hi)).mono fun e W' ⟨he, n, hw⟩ => ?_
  subst he; subst hw
  have bel : Below W.heap.size W (W.drewN n) := ⟨rfl, rfl, rfl, Nat.le_refl _, fun _ _ => rfl⟩
  exact ⟨_, rfl, _, _, _, [], _, _, hW', trodAll_mk1 (shut_bool Tryf.underlying4 _), trodAll_mk2 (shut_int Tryf.underlying5 w0) (shut_int Tryf.underlying5 w1), Below.trodVars Tryf.laidOut bel (by kernel_rfl) hV1, bel.frame _, fun h => by cases h⟩

theorem proved : Rows.FnPropertyNamesPrefixFreeToldSaid :=
  Claim7.holds_of_told_tied_any_at .later 3 Tryf.f3 "fmt.Sprintf" [] [] _ _ _ _ _ (by kernel_rfl) rfl rfl rfl Tryf.laidOut (by kernel_rfl) rfl ⟨rfl, rfl, rfl, rfl, rfl, rfl, rfl⟩ rfl rfl (by kernel_rfl) (by kernel_rfl) Tryf.func3 (by kernel_rfl)
    (of_decide_eq_true (by kernel_rfl)) (by unfold Func.isWrapper; first | (rw [if_pos (by decide +kernel)]; kernel_rfl) | (rw [if_neg (by decide +kernel)]; exact ⟨rfl, rfl⟩)) Tryf.stops.symm rfl Tryf.stopKnobs.symm (by kernel_rfl)
    (by kernel_rfl) (by kernel_rfl) (by kernel_rfl) (by kernel_rfl) (by kernel_rfl) (by kernel_rfl) (by kernel_rfl) (by kernel_rfl) (by kernel_rfl) rfl (by kernel_rfl) rfl rfl
    rfl rfl
    rfl (by kernel_rfl) (by kernel_rfl) (by kernel_rfl) (by decide) (by kernel_rfl) fnPropertyNamesPrefixFree_row_tie
    (OpenClaim.moreEntering_of (by kernel_rfl) (by kernel_rfl) (by kernel_rfl) (by kernel_rfl) (by kernel_rfl) (by kernel_rfl) (by kernel_rfl) (by kernel_rfl) (by kernel_rfl) (by kernel_rfl))
    ⟨_, WideRow.started_initial, Tryf.quiet _⟩
    (fun os started _ H enc _ => lifted os started H enc)

#print axioms proved
end Go.Proofs.Qxb6613471aFmt.fnPropertyNamesPrefixFree
