/- A part of the proof that laws.FnExtKind returns true at every input: Card. -/
import Derived.Test.YtlgmlfhalgnppaaGreatDoorSaid
import Derived.Test.YtlgmlfhalgnppaaGreatDoorCards
import Derived.Test.YtlgmlfhalgnppaaGreatDoorTie
import Derived.SevenTiedAt
/- laws.FnExtKind returns true at every input: the tied card (FnExtKindCardSaid), out of the row's statement and the given tie. -/
namespace Go.Proofs.YtlgmlfhalgnppaaGreatDoor
open Go
theorem fnExtKind_holds : Rows.FnExtKindCardSaid :=
  Claim7.holds_tied_plain_at .later [] _ _ _ _ fnExtKind_said (fun _ h => by cases h) (by kernel_rfl) (fun _ h => by cases h) fnExtKind_row_tie rfl ⟨rfl, rfl⟩ (by kernel_rfl) rfl
    (fun f fn hf hfn => by
      obtain rfl : f = 3 := Option.some.inj ((show Tryz.prog.funcNamed "pub-gunnysack/laws.FnExtKind" = some 3 by kernel_rfl).symm.trans hf) |>.symm
      obtain rfl : fn = Tryz.f3 := (Option.some.inj (Tryz.func3.symm.trans hfn)).symm
      exact ⟨by kernel_rfl, fun j t ht => by
        rw [Tryz.params3] at ht
        have hm : t ∈ [26, 23] := by simpa using Array.mem_of_getElem? ht
        have hall : ([26, 23].all fun u => !Tryz.prog.wantsStandIn u) = true := by kernel_rfl
        exact (show Tryz.prog.wantsStandIn t = false by simpa using List.all_eq_true.1 hall t hm)⟩)
    (by kernel_rfl)
#print axioms fnExtKind_holds
end Go.Proofs.YtlgmlfhalgnppaaGreatDoor
