/- A part of the proof that laws.FnTextElement returns true at every input: Laidx, Rowx. -/
import Derived.Test.YtkeakdjbidbegaaGreatDoorRows
import Derived.Test.YtkeakdjbidbegaaGreatDoorV
import Derived.ProofKit
import Derived.OpenShut
import Derived.Lib.LaidTab
import Derived.Lib.LaidU8T
import Derived.Test.YtkeakdjbidbegaaGreatDoorH
import Derived.Carry
import Derived.LaidMore
import Derived.Lay
import Derived.Stop.Joined
set_option linter.unusedSimpArgs false
set_option linter.unusedVariables false
set_option maxRecDepth 100000
set_option maxHeartbeats 8000000
namespace Go.Proofs.YtkeakdjbidbegaaGreatDoor
open Go.RowKit Go.ChangeShapes
open Go.Proofs.YtkeakdjbidbegaaGreatDoorW.PrintWords
def hiT (i : Nat) : Int := ((Pinned.pow10Rows.getD i (0, 0)).1 : Nat)
def loT (i : Nat) : Int := ((Pinned.pow10Rows.getD i (0, 0)).2 : Nat)
theorem rows_small : (Pinned.pow10Rows.all fun x => decide (x.1 < 18446744073709551616) && decide (x.2 < 18446744073709551616)) = true := by kernel_rfl
theorem rows_length : Pinned.pow10Rows.length = 696 := by kernel_rfl
theorem row_small (i : Nat) : (Pinned.pow10Rows.getD i (0, 0)).1 < 18446744073709551616 ∧ (Pinned.pow10Rows.getD i (0, 0)).2 < 18446744073709551616 := by
 rw [List.getD_eq_getElem?_getD]
 cases h : Pinned.pow10Rows[i]? with
 | none => exact ⟨by decide, by decide⟩
 | some x =>
  have := List.all_eq_true.1 rows_small x (List.mem_of_getElem? h)
  simp only [Bool.and_eq_true, decide_eq_true_eq] at this
  exact this
theorem hiT_range (i : Nat) : 0 ≤ hiT i ∧ hiT i < 18446744073709551616 := by have := (row_small i).1; unfold hiT; omega
theorem loT_range (i : Nat) : 0 ≤ loT i ∧ loT i < 18446744073709551616 := by have := (row_small i).2; unfold loT; omega
theorem hilo_cells : Tryz.prog.cellsOf 282 = 1392 ∧ Tryz.prog.cellsOf 281 = 2 ∧ Tryz.prog.cellsOf 22 = 1 := ⟨by kernel_rfl, by kernel_rfl, by kernel_rfl⟩
theorem tabW_of {W : World} {rest : List (String × DataW Unit)} (h : laidMet Tryz.prog (("internal/strconv.pow10Tab", Pinned.pow10Tab) :: rest) W) : TabW hiT loT W := by
 obtain ⟨ps, ⟨g, t, cs, fuel, p, q, hg, ht, hv, hd, _, _⟩, _, _⟩ := h
 obtain rfl := Option.some.inj ((show Tryz.prog.globalNamed "internal/strconv.pow10Tab" = some 12 by kernel_rfl).symm.trans hg)
 obtain rfl := Option.some.inj ((show (Tryz.prog.globals[12]?).map (·.type) = some 282 by kernel_rfl).symm.trans ht)
 obtain ⟨xs, m, _, ex, hcl, hl, hel⟩ := DataW.trod_array Tryz.underlying282 hd
 obtain ⟨c1, c2, c3⟩ := hilo_cells
 rw [c1] at hcl
 have e3 : (xs.map (·.1)) = Pinned.pow10Rows.map fun x => .agg [.lit (.int .u64 x.1), .lit (.int .u64 x.2)] := (DataW.agg.inj (Prod.mk.inj ex).1).symm
 have key : ∀ i, i < 696 → cs.toList[i * 2]? = some (.int .u64 (hiT i)) ∧ cs.toList[i * 2 + 1]? = some (.int .u64 (loT i)) := by
  intro i hi
  have hE := hel i hi
  rw [c2, List.getElem?_eq_getElem (by omega)] at hE
  obtain ⟨ys, m2, _, ey, hyl, hyn, hf⟩ := DataW.trod_struct Tryz.underlying281 hE
  have hy2 : ys.length = 2 := hyn
  obtain ⟨u, v, rfl⟩ : ∃ u v, ys = [u, v] := by
   match ys, hy2 with
   | [u, v], _ => exact ⟨u, v, rfl⟩
  have f0 : DataW.trod (fun _ => ()) Tryz.prog W 0 (fun _ => true) false m2 22 ((((cs.toList.drop (i * 2)).take 2).drop 0).take 1) = some u := by
   have := hf 0 _ rfl
   simpa [c3] using this
  have f1 : DataW.trod (fun _ => ()) Tryz.prog W 0 (fun _ => true) false m2 22 ((((cs.toList.drop (i * 2)).take 2).drop 1).take 1) = some v := by
   have := hf 1 _ rfl
   simpa [c3] using this
  obtain ⟨z0, a0, b0, _⟩ := DataW.trod_int Tryz.underlying22 f0
  obtain ⟨z1, a1, b1, _⟩ := DataW.trod_int Tryz.underlying22 f1
  have hrl := rows_length
  have e4 : (xs.map (·.1))[i]? = (Pinned.pow10Rows.map fun x => (.agg [.lit (.int .u64 x.1), .lit (.int .u64 x.2)] : DataW Unit))[i]? := by rw [e3]
  rw [List.getElem?_map, List.getElem?_map, List.getElem?_eq_getElem (by omega : i < xs.length), List.getElem?_eq_getElem (by omega : i < Pinned.pow10Rows.length), ey] at e4
  simp only [Option.map_some, Option.some.injEq, DataW.agg.injEq, List.map_cons, List.map_nil, List.cons.injEq, and_true, b0, b1, DataW.lit.injEq, Lit.int.injEq, true_and] at e4
  have hh : hiT i = z0 ∧ loT i = z1 := by
   unfold hiT loT
   rw [List.getD_eq_getElem?_getD, List.getElem?_eq_getElem (by omega : i < Pinned.pow10Rows.length)]
   exact ⟨e4.1.symm, e4.2.symm⟩
  have g0 : cs.toList[i * 2]? = some (.int .u64 z0) := by
   have h0 : ((((cs.toList.drop (i * 2)).take 2).drop 0).take 1)[0]? = some (.int .u64 z0) := by rw [a0]; rfl
   simpa using h0
  have g1 : cs.toList[i * 2 + 1]? = some (.int .u64 z1) := by
   have h0 : ((((cs.toList.drop (i * 2)).take 2).drop 1).take 1)[0]? = some (.int .u64 z1) := by rw [a1]; rfl
   simpa using h0
  rw [hh.1, hh.2]
  exact ⟨g0, g1⟩
 refine ⟨fun i hi => ?_, fun i hi => ?_⟩
 ·rw [World.var?_cell hg hv (i * 2)]
  simpa using (key i hi).1
 ·rw [World.var?_cell hg hv (i * 2 + 1)]
  simpa using (key i hi).2
def u8_ren : Go.Shelf.Ren := ⟨fun n => n, fun n => if n = 5 then 5 else if n = 119 then 206 else if n = 138 then 228 else 229, fun n => if n = 3 then 6 else 7⟩
theorem u8_types : U8Types Tryz.prog u8_ren := ⟨Tryz.underlying5, Tryz.underlying206, Tryz.underlying228, Tryz.underlying229⟩
theorem u8_extra : U8Extra Tryz.prog u8_ren := ⟨by kernel_rfl, by kernel_rfl, by kernel_rfl, by kernel_rfl, by kernel_rfl, by kernel_rfl, by kernel_rfl⟩
theorem first_data : Go.Pinned.utf8First = Lib.firstData := by kernel_rfl
theorem accept_data : (Rows.laid_unicode_utf8_acceptRanges : DataW Unit) = Lib.acceptData := by kernel_rfl
theorem safe_data : (Rows.laid_pub_gunnysack_pub_bsoncore_htmlSafeSet : DataW Unit) = .agg ((List.range 128).map fun q => .lit (.bool (safeF q))) := by kernel_rfl
theorem bool_cells : Tryz.prog.cellsOf 4 = 1 := by kernel_rfl
theorem esc_of {W : World} {l : List (String × DataW Unit)} (h : laidMet Tryz.prog l W) (h1 : ("unicode/utf8.first", Rows.laid_unicode_utf8_first) ∈ l) (h2 : ("unicode/utf8.acceptRanges", Rows.laid_unicode_utf8_acceptRanges) ∈ l) (h3 : ("pub-gunnysack/pub/bsoncore.htmlSafeSet", Rows.laid_pub_gunnysack_pub_bsoncore_htmlSafeSet) ∈ l) : EscEnv W := by
 refine ⟨fun q hq => ?_, ?_⟩
 ·obtain ⟨g, t, cs, fuel, p, hg, hty, hvar, hd⟩ := Lib.laidMet.reads h h3
  obtain rfl := Option.some.inj ((show Tryz.prog.globalNamed "pub-gunnysack/pub/bsoncore.htmlSafeSet" = some 2 by kernel_rfl).symm.trans hg)
  obtain rfl := Option.some.inj ((show (Tryz.prog.globals[2]?).map (·.type) = some 152 by kernel_rfl).symm.trans hty)
  rw [safe_data] at hd
  obtain ⟨fuel', d, q', hdi, he⟩ := Lib.array_elem Tryz.underlying152 hd q hq
  simp only [List.getElem?_map, List.getElem?_range hq, Option.map_some, Option.some.injEq] at hdi
  subst hdi
  rw [bool_cells] at he
  obtain ⟨b, hb, hx⟩ := DataW.trod_bool Tryz.underlying4 he
  have hbb : safeF q = b := by
   have := congrArg Prod.fst hx
   simpa using this
  have e0 := congrArg (·[0]?) hb
  simp only [List.getElem?_take, List.getElem?_drop] at e0
  rw [World.var?_cell hg hvar q, ← Array.getElem?_toList, hbb]
  simpa using e0
 ·have hf := Lib.laidMet.reads h h1
  have ha := Lib.laidMet.reads h h2
  rw [show Rows.laid_unicode_utf8_first = Lib.firstData from first_data] at hf
  rw [accept_data] at ha
  exact utf8Tabs_of_readsT u8_types u8_extra hf ha
theorem env_of {W : World} (h : laidMet Tryz.prog Rows.fnTextElementRow.laid W) : ∃ D, PEnv D W := by
 have h3 := h.tail.tail.tail
 have hP : Pow10W W := Lib.tabIs_of_head (zs := Lib.pow10Tab) (show Tryz.prog.globalNamed "internal/strconv.uint64pow10" = some 4 by kernel_rfl) (by kernel_rfl) Tryz.underlying225 Tryz.underlying22 (by kernel_rfl) (by kernel_rfl) h3
 have hT := tabW_of h3.tail.tail.tail.tail.tail.tail
 have hE : EscEnv W := esc_of h (by simp [Rows.fnTextElementRow]) (by simp [Rows.fnTextElementRow]) (by simp [Rows.fnTextElementRow])
 obtain ⟨D, hD⟩ := denv (hi := hiT) (lo := loT) (w0 := W) ⟨hiT_range, loT_range, fun w2 hb2 => ⟨hT.below hb2, hP.below hb2⟩⟩
 exact ⟨D, hP, hE, hD⟩
end Go.Proofs.YtkeakdjbidbegaaGreatDoor
namespace Go.Proofs.YtkeakdjbidbegaaGreatDoor
open Go.ChangeShapes Go.WideShapes Go.ChangeAt Go.RowKit
theorem row_own : ownKnob Tryz.prog.godebug = none := by kernel_rfl
theorem row_out : laidOutB Tryz.prog = true := by kernel_rfl
theorem row_plain : (Rows.fnTextElementRow.laid.all fun x => x.2.handleName?.isNone) = true := by kernel_rfl
theorem met_of {W : World} (h : laidMetH Tryz.prog Rows.fnTextElementRow.laid W) : laidMet Tryz.prog Rows.fnTextElementRow.laid W := by
 rw [MakeChecks.laidMetH_plain _ _ _ row_plain] at h
 exact h
theorem of_met {W : World} (h : laidMet Tryz.prog Rows.fnTextElementRow.laid W) : laidMetH Tryz.prog Rows.fnTextElementRow.laid W := by
 rw [MakeChecks.laidMetH_plain _ _ _ row_plain]
 exact h
theorem row_lifted (os : Os) (started : os.Started) (H : Type) (enc : TypeId × Value → H) :
  ReturnsInHanded {} Tryz.checked os 3 .any (fun w args => (Rows.fnTextElementSpec.pre enc Tryz.prog Tryz.f3 Rows.fnTextElementRow.domain false w args ∧ laidMetH Tryz.prog Rows.fnTextElementRow.laid w) ∧ sizedMet enc Tryz.prog Tryz.f3 (OpenSpec.ofChange Rows.fnTextElementSpec) false w args)
   (Rows.fnTextElementSpec.post enc Tryz.prog Tryz.f3 false true false false) := by
 refine returnsInHanded_of_change_and (C := Tryz.checked) (X := fun w _ => laidMetH Tryz.prog Rows.fnTextElementRow.laid w) (fun _ _ _ hh h => h.of_heap hh) row_own started (by kernel_rfl) Tryz.func3
  (ChangeSpec.witness_shaped (enc := enc) (C := Tryz.checked) (os := os) (X := fun w _ => laidMetH Tryz.prog Rows.fnTextElementRow.laid w) false (World.laidAll Tryz.prog os Rows.fnTextElementRow.laid)
   #[.agg #[.int .i64 0, .string ⟨#[]⟩, .string ⟨#[]⟩, .int .i64 0, .int .u64 0, .int .u64 0, .slice none 0 0, .slice none 0 0], .string ⟨#[]⟩, .int .u16 0] 8 (World.laidAll_os _ _ _)
   (World.shaped_of_ZipB (by kernel_rfl) (by kernel_rfl)) (by kernel_rfl) (by kernel_rfl) (by kernel_rfl)
   (of_met (laidMet_laidAll _ (by kernel_rfl) (by kernel_rfl)))) ?_
 intro W base args ds gs before hval0 hW _ _ hL _
 have hval : ∀ (j : Nat) t v, Tryz.f3.params[j]? = some t → args[j]? = some v → Value.okWide Tryz.prog W .any base t v := hval0
 have hW' := hW
 obtain ⟨p, q, hA0, hV, rfl, _, _⟩ := hW
 have hA : DataW.TrodAll enc Tryz.prog W 0 (fun _ => true) true Tryz.f3.params.toList args.toList ds p := hA0
 have hlt0 := hW'.lt
 rw [Tryz.params3] at hA hval
 obtain ⟨v0, v1, v2, d0, d1, d2, p0, p1, p2, rfl, rfl, rfl, h0, h1, h2⟩ := trodAll_three hA
 obtain ⟨rfl, rfl⟩ := trodVars_none hV
 obtain ⟨cs0, rfl, _⟩ := okWide_struct Tryz.underlying26 (hval 0 _ v0 rfl rfl)
 obtain ⟨s1, rfl⟩ := okWide_string Tryz.underlying9 (hval 1 _ v1 rfl rfl)
 obtain ⟨n2, rfl⟩ := okWide_int Tryz.underlying27 (hval 2 _ v2 rfl rfl)
 have h0' := h0
 have h1' := h1
 have h2' := h2
 obtain ⟨fu0, hf0⟩ := h0
 obtain ⟨fu1, hf1⟩ := h1
 obtain ⟨fu2, hf2⟩ := h2
 obtain ⟨t, ht, hin⟩ := open_val W fu0 _ _ hf0
 have hv0 : (Value.agg cs0) = t.val := by
  have : cs0.toList = t.cells := ht
  show Value.agg cs0 = Value.agg _
  congr 1
  exact Array.toList_inj.1 this
 obtain ⟨s', hs1, _, hsz⟩ := DataW.trod_string Tryz.underlying9 (show DataW.trod enc Tryz.prog W 0 (fun _ => true) true fu1 9 [.string s1] = some _ from hf1)
 obtain rfl : s1 = s' := by simpa using hs1
 obtain ⟨n', hn2, _, hwf⟩ := DataW.trod_int Tryz.underlying27 (show DataW.trod enc Tryz.prog W 0 (fun _ => true) true fu2 27 [.int .u16 n2] = some _ from hf2)
 obtain rfl : n2 = n' := by simpa using hn2
 have hnr : 0 ≤ n2 ∧ n2 ≤ 65535 := by simpa [Lit.wf, IntKind.min, IntKind.max, IntKind.bits, IntKind.signed] using hwf
 obtain ⟨N, rfl⟩ : ∃ N : Nat, n2 = N := ⟨n2.toNat, by omega⟩
 have hM := met_of hL
 obtain ⟨D, hE⟩ := env_of hM
 have hcall := FnTextElement_calls t s1 N W hin hsz (by omega) hE
 rw [hv0]
 refine hcall.mono fun e W' ⟨he', hb⟩ => ?_
 subst he'
 rw [← hv0]
 refine ⟨_, rfl, _, _, _, [], p0 ++ (p1 ++ p2), [], hW', ?_, ?_, rfl, hb.frame _, fun h => by cases h⟩
 ·exact trodAll_mk1 (shut_bool Tryz.underlying4 _)
 ·have hl : ∀ x ∈ p0 ++ p1 ++ p2, x.block < W.heap.size := fun x hx => hlt0 x (by simpa using hx)
  exact trodAll_mk3 (Below.trod row_out (by kernel_rfl) (by decide +kernel) h0' hb (fun x hx => hl x (by simp [hx]))) (Below.trod row_out (by kernel_rfl) (by decide +kernel) h1' hb (fun x hx => hl x (by simp [hx]))) (Below.trod row_out (by kernel_rfl) (by decide +kernel) h2' hb (fun x hx => hl x (by simp [hx])))
end Go.Proofs.YtkeakdjbidbegaaGreatDoor
