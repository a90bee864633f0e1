/- A part of the proof that laws.FnExtKind returns true at every input: Row. -/
import Derived.Test.YtlgmlfhalgnppaaGreatDoorV
import Derived.Test.YtlgmlfhalgnppaaGreatDoorU
import Derived.Carry
import Derived.LaidMore
import Derived.Lay
import Derived.Stop.Joined
/- laws.FnExtKind returns true at every input: the row's statement (FnExtKindSaid). -/
set_option linter.unusedSimpArgs false
set_option linter.unusedVariables false
namespace Go.Proofs.YtlgmlfhalgnppaaGreatDoor
open Go.ChangeShapes Go.WideShapes Go.ChangeAt Go.RowKit
theorem row_own : ownKnob Tryz.prog.godebug = none := by kernel_rfl
theorem row_out : laidOutB Tryz.prog = true := by kernel_rfl
theorem row_plain : (Rows.fnExtKindRow.laid.all fun x => x.2.handleName?.isNone) = true := by kernel_rfl
theorem met_of {W : World} (h : laidMetH Tryz.prog Rows.fnExtKindRow.laid W) : laidMet Tryz.prog Rows.fnExtKindRow.laid W := by
  rw [MakeChecks.laidMetH_plain _ _ _ row_plain] at h
  exact h
theorem of_met {W : World} (h : laidMet Tryz.prog Rows.fnExtKindRow.laid W) : laidMetH Tryz.prog Rows.fnExtKindRow.laid W := by
  rw [MakeChecks.laidMetH_plain _ _ _ row_plain]
  exact h
theorem Pow10W.below {w w' : World} (h : Pow10W w) (hb : Below w.heap.size w w') : Pow10W w' := by
  unfold Pow10W Lib.TabIs at h ⊢
  unfold World.var? at h ⊢
  cases hg : Tryz.prog.globalNamed "internal/strconv.uint64pow10" with
  | none => simp [hg] at h
  | some g =>
    simp only [hg, Option.bind_some] at h ⊢
    have hlt : g < w.heap.size := by
      rcases Nat.lt_or_ge g w.heap.size with h' | h'
      · exact h'
      · simp [Array.getElem?_eq_none h'] at h
    rw [hb.block g hlt]
    exact h
theorem fenv_of {W : World} (h : laidMet Tryz.prog Rows.fnExtKindRow.laid W) : ∀ w', Below W.heap.size W w' → Env w' := fun w' hb => by
  obtain ⟨h1, h2, _, _⟩ := of_laid h
  exact Env.of ⟨hiT_range, loT_range, fun w2 hb2 => ⟨h1.below (hb.trans (hb2.mono hb.size)), h2.below (hb.trans (hb2.mono hb.size))⟩⟩
set_option maxRecDepth 100000 in
theorem row_lifted (os : Os) (started : os.Started) (H : Type) (enc : TypeId × Value → H) :
    ReturnsInHanded {} Tryz.checked os 3 .any (fun w args => (Rows.fnExtKindSpec.pre enc Tryz.prog Tryz.f3 Rows.fnExtKindRow.domain false w args ∧ laidMetH Tryz.prog Rows.fnExtKindRow.laid w) ∧ sizedMet enc Tryz.prog Tryz.f3 (OpenSpec.ofChange Rows.fnExtKindSpec) false w args)
      (Rows.fnExtKindSpec.post enc Tryz.prog Tryz.f3 false true false false) := by
  refine returnsInHanded_of_change_and (C := Tryz.checked) (X := fun w _ => laidMetH Tryz.prog Rows.fnExtKindRow.laid w) (fun _ _ _ hh h => h.of_heap hh) row_own started (by kernel_rfl) Tryz.func3
    (ChangeSpec.witness_shaped (enc := enc) (C := Tryz.checked) (os := os) (X := fun w _ => laidMetH Tryz.prog Rows.fnExtKindRow.laid w) false (World.laidAll Tryz.prog os Rows.fnExtKindRow.laid)
      #[.agg #[.int .i64 0, .string ⟨#[]⟩, .string ⟨#[]⟩, .int .i64 0, .int .u64 0, .int .u64 0, .slice none 0 0, .slice none 0 0], .slice none 0 0] 8 (World.laidAll_os _ _ _)
      (World.shaped_of_ZipB (by kernel_rfl) (by kernel_rfl)) (by kernel_rfl) (by kernel_rfl) (by kernel_rfl)
      (of_met (laidMet_laidAll _ (by kernel_rfl) (by kernel_rfl)))) ?_
  intro W base args ds gs before hval0 hW _ _ hL _
  have hval : ∀ (j : Nat) t v, Tryz.f3.params[j]? = some t → args[j]? = some v → Value.okWide Tryz.prog W .any base t v := hval0
  have hW' := hW
  obtain ⟨p, q, hA0, hV, rfl, _, _⟩ := hW
  have hA : DataW.TrodAll enc Tryz.prog W 0 (fun _ => true) true Tryz.f3.params.toList args.toList ds p := hA0
  have hlt0 := hW'.lt
  rw [Tryz.params3] at hA hval
  obtain ⟨v0, v1, d0, d1, p0, p1, rfl, rfl, rfl, h0, h1⟩ := trodAll_two hA
  obtain ⟨rfl, rfl⟩ := trodVars_none hV
  obtain ⟨cs0, rfl, _⟩ := okWide_struct Tryz.underlying26 (hval 0 _ v0 rfl rfl)
  obtain ⟨A1, n1, c1, rfl⟩ := okWide_slice Tryz.underlying23 (hval 1 _ v1 rfl rfl)
  have h0' := h0
  have h1' := h1
  obtain ⟨fu0, hf0⟩ := h0
  obtain ⟨fu1, hf1⟩ := h1
  obtain ⟨t, ht, hin⟩ := open_val W fu0 _ _ hf0
  have hv0 : (Value.agg cs0) = t.val := by
    have : cs0.toList = t.cells := ht
    show Value.agg cs0 = Value.agg _
    congr 1
    exact Array.toList_inj.1 this
  obtain ⟨A2, bs, bc, hc1, hR, hbl, hbm, hbr⟩ := open_u8s (show DataW.trod enc Tryz.prog W 0 (fun _ => true) true fu1 23 [.slice A1 n1 c1] = some _ from hf1)
  obtain ⟨rfl, rfl, rfl⟩ := Value.slice.inj hc1
  have hM := met_of hL
  obtain ⟨_, _, he, hle⟩ := of_laid hM
  have hcall := FnExtKind_calls t W A1 bs c1 hin (fenv_of hM) he hle hR hbr hbl hbm
  rw [hv0]
  refine hcall.mono fun e W' ⟨he', hb⟩ => ?_
  subst he'
  rw [← hv0]
  refine ⟨_, rfl, _, _, _, [], p0 ++ p1, [], hW', ?_, ?_, rfl, hb.frame _, fun h => by cases h⟩
  · exact trodAll_mk1 (shut_bool Tryz.underlying4 _)
  · have hl : ∀ x ∈ p0 ++ p1, x.block < W.heap.size := fun x hx => hlt0 x (by simpa using hx)
    exact trodAll_mk2 (Below.trod row_out (by kernel_rfl) (by decide +kernel) h0' hb (fun x hx => hl x (List.mem_append_left _ hx))) (Below.trod row_out (by kernel_rfl) (by decide +kernel) h1' hb (fun x hx => hl x (List.mem_append_right _ hx)))
end Go.Proofs.YtlgmlfhalgnppaaGreatDoor
