/- A part of the proof that laws.FnTextElement returns true at every input: Cardx. -/
import Derived.Test.YtkeakdjbidbegaaGreatDoorSaid
import Derived.Test.YtkeakdjbidbegaaGreatDoorCards
import Derived.Test.YtkeakdjbidbegaaGreatDoorTie
import Derived.SevenTiedAt
set_option linter.unusedSimpArgs false
set_option linter.unusedVariables false
set_option maxRecDepth 100000
set_option maxHeartbeats 8000000
namespace Go.Proofs.YtkeakdjbidbegaaGreatDoor
open Go
theorem fnTextElement_holds : Rows.FnTextElementCardSaid :=
 Claim7.holds_tied_plain_at .later [] _ _ _ _ fnTextElement_said (fun _ h => by cases h) (by kernel_rfl) (fun _ h => by cases h) fnTextElement_row_tie rfl ⟨rfl, rfl⟩ (by kernel_rfl) rfl
  (fun f fn hf hfn => by
   obtain rfl : f = 3 := Option.some.inj ((show Tryz.prog.funcNamed "pub-gunnysack/laws.FnTextElement" = some 3 by kernel_rfl).symm.trans hf) |>.symm
   obtain rfl : fn = Tryz.f3 := (Option.some.inj (Tryz.func3.symm.trans hfn)).symm
   exact ⟨by kernel_rfl, fun j t ht => by
    rw [Tryz.params3] at ht
    have hm : t ∈ [26, 9, 27] := by simpa using Array.mem_of_getElem? ht
    have hall : ([26, 9, 27].all fun u => !Tryz.prog.wantsStandIn u) = true := by kernel_rfl
    exact (show Tryz.prog.wantsStandIn t = false by simpa using List.all_eq_true.1 hall t hm)⟩)
  (by kernel_rfl)
end Go.Proofs.YtkeakdjbidbegaaGreatDoor
