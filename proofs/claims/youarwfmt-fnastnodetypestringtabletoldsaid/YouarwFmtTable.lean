/-
  FnASTNodeTypeStringTable: THE TOLD AND TIED CARD, PROVED.
-/
import Derived.Test.YouarwFmtLifts
import Derived.Test.YouarwFmtTie
import Derived.Test.YouarwFmtCards
import Derived.SevenTiedAt
namespace Go.Proofs.YouarwFmt
open Go.ChangeShapes Go.WideShapes Go.ChangeAt Go.RowKit

set_option maxRecDepth 100000 in
theorem table_lifted (os : Os) (started : os.Started) (H : Type) (enc : TypeId × Value → H) :
    ReturnsInTold none {} Uarg.checked os 3 .any Input.okWide ((OpenSpec.ofChange Rows.fnASTNodeTypeStringTableSpec).preRow enc Uarg.prog Uarg.f3 [] false Rows.fnASTNodeTypeStringTableRow.laid)
      (fun F => ((OpenSpec.ofChange Rows.fnASTNodeTypeStringTableSpec).at F).post enc Uarg.prog Uarg.f3 false true false false) (aloneAtReturn Uarg.prog) nothingAlways := by
  refine returnsInTold_of_row (C := Uarg.checked) (s := OpenSpec.ofChange Rows.fnASTNodeTypeStringTableSpec) (by kernel_rfl) Uarg.own started (by kernel_rfl) Uarg.func3
    (OpenSpec.witness_stopped_atRef (enc := enc) (C := Uarg.checked) false (World.doorLaid Uarg.prog 400 os) #[.int .i64 0] rfl (by kernel_rfl) (by kernel_rfl) (by kernel_rfl)
      (OpenSpec.preRow_of_B rfl 8 (by kernel_rfl) (by kernel_rfl) (door_met os _))) ?_
  intro F W base args ds gs before _ _ hval0 hW _ _ _ hL _
  have hval : ∀ (j : Nat) t v, Uarg.f3.params[j]? = some t → args[j]? = some v → Value.okWide Uarg.prog W .any base t v := hval0
  have hW' := hW
  obtain ⟨p, q, hA0, hV0, rfl, hfz, hnd⟩ := hW
  have hA : DataW.TrodAll enc Uarg.prog W 0 (fun _ => true) true Uarg.f3.params.toList args.toList ds p := hA0
  have hV : DataW.TrodVars enc Uarg.prog W (fun _ => true) Rows.fnASTNodeTypeStringTableSpec.vars gs q := hV0
  rw [Uarg.params3] at hA hval
  obtain ⟨v0, d0, rfl, rfl, h0⟩ := trodAll_one hA
  obtain ⟨i, rfl, rfl, rfl, wi⟩ := open_int Uarg.underlying3 (hval 0 3 v0 rfl rfl) h0
  clear hA0 hV0 hval0
  have hV2 := Below.trodVars (enc := enc) Uarg.laidOut (Below.refl W.heap.size W) (by kernel_rfl) hV
  obtain ⟨g, rfl⟩ : ∃ g, gs = [g] := by
    match gs, hV with
    | [g], _ => exact ⟨g, rfl⟩
    | [], h => exact h.elim
    | _ :: _ :: _, h => obtain ⟨_, _, _, _, _, _, _, _, _, _, h, _⟩ := h; exact h.elim
  refine (table_any i W (cells_of_laid hL)).mono fun e W' ⟨he, hw⟩ => ?_
  subst he
  refine ⟨_, rfl, ChangeSpec.post_alike (W'' := W) ?_ hw⟩
  exact ⟨_, _, _, [], [], q, hW', trodAll_mk1 (shut_bool Uarg.underlying4 _), trodAll_mk1 (shut_int Uarg.underlying3 wi), hV2, World.keptBut_refl _ _, fun h => by cases h⟩

theorem table_card : Rows.FnASTNodeTypeStringTableToldSaid :=
  Claim7.holds_of_told_tied_any_at .later 3 Uarg.f3 _ _ [] _ _ _ _ _ (by kernel_rfl) rfl rfl rfl Uarg.laidOut (by kernel_rfl) rfl ⟨rfl, rfl, rfl, rfl, rfl, rfl, rfl⟩ rfl rfl (by kernel_rfl) (by kernel_rfl) Uarg.func3 (by kernel_rfl)
    (of_decide_eq_true (by kernel_rfl)) (of_decide_eq_true (by kernel_rfl)) (by kernel_rfl) rfl Uarg.stopKnobs.symm (by kernel_rfl)
    (by kernel_rfl) (by kernel_rfl) (by kernel_rfl) (by kernel_rfl) (by kernel_rfl) (by kernel_rfl) (by kernel_rfl) (by kernel_rfl) (by kernel_rfl) rfl (by kernel_rfl) rfl rfl
    rfl rfl
    rfl (by kernel_rfl) (by kernel_rfl) (by kernel_rfl) (by kernel_rfl) (by kernel_rfl) fnASTNodeTypeStringTable_row_tie
    (OpenClaim.moreEntering_of (by kernel_rfl) (by kernel_rfl) (by kernel_rfl) (by kernel_rfl) (by kernel_rfl) (by kernel_rfl) (by kernel_rfl) (by kernel_rfl) (by kernel_rfl) (by kernel_rfl))
    ⟨_, WideRow.started_initial, Uarg.quiet _⟩
    (fun os started _ H enc _ => table_lifted os started H enc)

end Go.Proofs.YouarwFmt
