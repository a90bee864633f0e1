/- A part of the proof that laws.FnExtKind returns true at every input: Said. -/
import Derived.Test.YtlgmlfhalgnppaaGreatDoorRow
/- laws.FnExtKind returns true at every input: the row's statement (FnExtKindSaid) out of row_lifted and the closed facts. -/
namespace Go.Proofs.YtlgmlfhalgnppaaGreatDoor
open Go.ChangeShapes Go.WideShapes Go.ChangeAt Go.RowKit
theorem said_named : Tryz.pinned.checked.prog.funcNamed Rows.fnExtKindRow.func = some 3 := by kernel_rfl
theorem said_instance : Tryz.f3.isInstance Tryz.pinned.checked.prog Rows.fnExtKindRow.origin Rows.fnExtKindRow.targs := of_decide_eq_true (by kernel_rfl)
theorem said_wrapper : Tryz.f3.isWrapper Tryz.pinned.checked.prog Rows.fnExtKindRow.wrapper Rows.fnExtKindRow.mainSum := by
  unfold Func.isWrapper
  first | (rw [if_pos (by decide +kernel)]; kernel_rfl) | (rw [if_neg (by decide +kernel)]; exact ⟨rfl, rfl⟩)
theorem said_facts : joinedFacts Tryz.pinned.checked.prog 3 Tryz.f3 Rows.fnExtKindSpec Rows.fnExtKindRow = true := by kernel_rfl
theorem fnExtKind_said : Rows.FnExtKindSaid :=
  OpenClaim.holds_of_wide 3 Tryz.f3 rfl rfl rfl rfl rfl rfl rfl ⟨rfl, rfl, rfl, rfl, rfl⟩ rfl rfl rfl rfl rfl said_named Tryz.func3 said_facts said_instance said_wrapper
    (fun os started H enc _ => row_lifted os started H enc)
#print axioms fnExtKind_said
end Go.Proofs.YtlgmlfhalgnppaaGreatDoor
