/-
  OURS. THE CARD 'Rows.FnPropertyNameIsKebabCaseToldSaid': told and tied. The road never comes to fmt: the property is named.
-/
import Derived.Test.Qxb6613471aFmtNames
import Derived.Test.Qxb6613471aFmtTie
import Derived.Test.Qxb6613471aFmtCards
import Derived.SevenTiedAt
namespace Go.Proofs.Qxb6613471aFmt.fnPropertyNameIsKebabCase
open Go.ChangeShapes Go.WideShapes Go.ChangeAt Go.RowKit Go.Kit
open Go.Extern.Stop Go.Stop Go.Extern
set_option linter.unusedVariables false

set_option maxHeartbeats 1000000 in
theorem out (p : Int) (w : World) (h : 9 < p) :
    Calls Tryf.prog 4 #[.int .u8 p] w fun e w' => e = .returned (.bool true) ∧ ∃ n, w' = w.drewN n := by
  go_enter Tryf.func4, Tryf.ntmps4
  go_wp2
  go_ret
  exact ⟨rfl, 0, rfl⟩

theorem walk (p : Int) (h0 : 0 ≤ p) (w : World) (hc : ∀ i, i < 10 → w.cell? ⟨0, i, none⟩ = some (.string (nm i))) :
    Calls Tryf.prog 4 #[.int .u8 p] w fun e w' => e = .returned (.bool true) ∧ ∃ n, w' = w.drewN n := by
  by_cases h : 9 < p
  · exact out p w h
  · obtain ⟨i, rfl⟩ := Int.eq_ofNat_of_zero_le h0
    have hi : i < 10 := by omega
    exact kebab_yes i hi (nm i) w (hc i hi) (nm_pos ⟨i, hi⟩) (nm_small ⟨i, hi⟩) (nm_first ⟨i, hi⟩ 0 (nm_pos ⟨i, hi⟩) rfl).1 (nm_first ⟨i, hi⟩ 0 (nm_pos ⟨i, hi⟩) rfl).2
      (nm_last ⟨i, hi⟩ _ (Nat.sub_lt (nm_pos ⟨i, hi⟩) Nat.one_pos) rfl).1 (nm_last ⟨i, hi⟩ _ (Nat.sub_lt (nm_pos ⟨i, hi⟩) Nat.one_pos) rfl).2 (fun k a b => nm_mid ⟨i, hi⟩ k b a)

set_option maxRecDepth 100000 in
theorem lifted (os : Os) (started : os.Started) (H : Type) (enc : TypeId × Value → H) :
    ReturnsInTold none {} Tryf.checked os 4 .any Input.okWide ((OpenSpec.ofChange Rows.fnPropertyNameIsKebabCaseSpec).preRow enc Tryf.prog Tryf.f4 [] false Rows.fnPropertyNameIsKebabCaseRow.laid) (fun F => ((OpenSpec.ofChange Rows.fnPropertyNameIsKebabCaseSpec).at F).post enc Tryf.prog Tryf.f4 false true false false) (aloneAtReturn Tryf.prog) nothingAlways := by
  refine returnsInTold_of_row (C := Tryf.checked) (s := OpenSpec.ofChange Rows.fnPropertyNameIsKebabCaseSpec) (by kernel_rfl) Tryf.own started (by kernel_rfl) Tryf.func4
    (OpenSpec.witness_stopped_at (enc := enc) (C := Tryf.checked) false (laidWorld Tryf.prog os) #[.int .u8 0] rfl (by kernel_rfl) (by kernel_rfl) (by kernel_rfl)
      (OpenSpec.preRow_of_B rfl 8 (by kernel_rfl) (by kernel_rfl) (laid_met os _))) ?_
  intro F W base args ds gs before _ hF hval0 hW _ _ _ hL _
  have hval : ∀ (j : Nat) t v, Tryf.f4.params[j]? = some t → args[j]? = some v → Value.okWide Tryf.prog W .any base t v := hval0
  have hW' := hW
  obtain ⟨p, q, hA0, hV, rfl, hfz, hnd⟩ := hW
  have hA : DataW.TrodAll enc Tryf.prog W 0 (fun _ => true) true Tryf.f4.params.toList args.toList ds p := hA0
  rw [Tryf.params4] at hA hval
  obtain ⟨v0, d0, rfl, rfl, h0⟩ := trodAll_one hA
  obtain ⟨a0, rfl, rfl, rfl, w0⟩ := open_int Tryf.underlying5 (hval 0 5 v0 rfl rfl) h0
  have hV1 : DataW.TrodVars enc Tryf.prog W (fun _ => true) [pn] gs q := hV
  obtain ⟨gv, gt, gcs, gfuel, g0, gp, rfl, _⟩ := trodVars_one hV1
  clear hA0 hval0
  have hb8 := bounds_u8 w0
  refine (walk a0 (by omega) W (fun i hi => cell_name hL i hi)).mono fun e W' ⟨he, n, hw⟩ => ?_
  subst he; subst hw
  have bel : Below W.heap.size W (W.drewN n) := ⟨rfl, rfl, rfl, Nat.le_refl _, fun _ _ => rfl⟩
  exact ⟨_, rfl, _, _, _, [], _, _, hW', trodAll_mk1 (shut_bool Tryf.underlying4 _), trodAll_mk1 (shut_int Tryf.underlying5 w0), Below.trodVars Tryf.laidOut bel (by kernel_rfl) hV1, bel.frame _, fun h => by cases h⟩

theorem proved : Rows.FnPropertyNameIsKebabCaseToldSaid :=
  Claim7.holds_of_told_tied_any_at .later 4 Tryf.f4 "fmt.Sprintf" [] [] _ _ _ _ _ (by kernel_rfl) rfl rfl rfl Tryf.laidOut (by kernel_rfl) rfl ⟨rfl, rfl, rfl, rfl, rfl, rfl, rfl⟩ rfl rfl (by kernel_rfl) (by kernel_rfl) Tryf.func4 (by kernel_rfl)
    (of_decide_eq_true (by kernel_rfl)) (by unfold Func.isWrapper; first | (rw [if_pos (by decide +kernel)]; kernel_rfl) | (rw [if_neg (by decide +kernel)]; exact ⟨rfl, rfl⟩)) Tryf.stops.symm rfl Tryf.stopKnobs.symm (by kernel_rfl)
    (by kernel_rfl) (by kernel_rfl) (by kernel_rfl) (by kernel_rfl) (by kernel_rfl) (by kernel_rfl) (by kernel_rfl) (by kernel_rfl) (by kernel_rfl) rfl (by kernel_rfl) rfl rfl
    rfl rfl
    rfl (by kernel_rfl) (by kernel_rfl) (by kernel_rfl) (by decide) (by kernel_rfl) fnPropertyNameIsKebabCase_row_tie
    (OpenClaim.moreEntering_of (by kernel_rfl) (by kernel_rfl) (by kernel_rfl) (by kernel_rfl) (by kernel_rfl) (by kernel_rfl) (by kernel_rfl) (by kernel_rfl) (by kernel_rfl) (by kernel_rfl))
    ⟨_, WideRow.started_initial, Tryf.quiet _⟩
    (fun os started _ H enc _ => lifted os started H enc)

#print axioms proved
end Go.Proofs.Qxb6613471aFmt.fnPropertyNameIsKebabCase
