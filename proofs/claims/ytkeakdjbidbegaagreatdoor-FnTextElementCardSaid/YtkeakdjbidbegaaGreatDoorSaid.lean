/- A part of the proof that laws.FnTextElement returns true at every input: Saidx. -/
import Derived.Test.YtkeakdjbidbegaaGreatDoorRow
set_option linter.unusedSimpArgs false
set_option linter.unusedVariables false
set_option maxRecDepth 100000
set_option maxHeartbeats 8000000
namespace Go.Proofs.YtkeakdjbidbegaaGreatDoor
open Go.ChangeShapes Go.WideShapes Go.ChangeAt Go.RowKit
theorem said_named : Tryz.pinned.checked.prog.funcNamed Rows.fnTextElementRow.func = some 3 := by kernel_rfl
theorem said_instance : Tryz.f3.isInstance Tryz.pinned.checked.prog Rows.fnTextElementRow.origin Rows.fnTextElementRow.targs := of_decide_eq_true (by kernel_rfl)
theorem said_wrapper : Tryz.f3.isWrapper Tryz.pinned.checked.prog Rows.fnTextElementRow.wrapper Rows.fnTextElementRow.mainSum := by
 unfold Func.isWrapper
 first | (rw [if_pos (by decide +kernel)]; kernel_rfl) | (rw [if_neg (by decide +kernel)]; exact ⟨rfl, rfl⟩)
theorem said_facts : joinedFacts Tryz.pinned.checked.prog 3 Tryz.f3 Rows.fnTextElementSpec Rows.fnTextElementRow = true := by kernel_rfl
theorem fnTextElement_said : Rows.FnTextElementSaid :=
 OpenClaim.holds_of_wide 3 Tryz.f3 rfl rfl rfl rfl rfl rfl rfl ⟨rfl, rfl, rfl, rfl, rfl⟩ rfl rfl rfl rfl rfl said_named Tryz.func3 said_facts said_instance said_wrapper
  (fun os started H enc _ => row_lifted os started H enc)
end Go.Proofs.YtkeakdjbidbegaaGreatDoor
