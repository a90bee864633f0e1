/- A part of the proof that laws.FnTextElement returns true at every input: Lfit. -/
import Derived.Test.YtkeakdjbidbegaaGreatDoorRa
import Derived.Test.YtkeakdjbidbegaaGreatDoorH
import Derived.BigQuiet
import Derived.Deep.RegionHeld3
import Derived.Deep.DeepMust
import Derived.Deep.Cut
import Derived.Deep.CutRange
import Derived.Deep.CutBlock
import Derived.Deep.DeepCutAuto
import Derived.Test.YtkeakdjbidbegaaGreatDoorR
import Derived.Test.YtkeakdjbidbegaaGreatDoorO
set_option linter.unusedSimpArgs false
set_option linter.unusedVariables false
set_option maxRecDepth 100000
set_option maxHeartbeats 8000000
namespace Go.Proofs.YtkeakdjbidbegaaGreatDoor
open Go.RowKit
open Go.Proofs.YtkeakdjbidbegaaGreatDoorW.PrintWords
structure HoldsT (x : List Int) (w : World) (e : Ending) (w' : World) : Prop where
 out : ∃ u, e = .returned (.tuple #[.string u, .bool true]) ∧ ∃ l, StrIs u l ∧ (Low l ∧ l.length ≤ 1000) ∧ ∀ y ∈ x, y ∈ l
 below : Below w.heap.size w w'
theorem ExtText_1r (text more : ByteArray) (n bits high : Int) (bA : Option Addr) (bs : List Int) (bc : Nat) (kA : Option Addr) (kl kc : Nat) (w : World) {x : List Int} (hlow : Low x) (hD : ∀ W, Below w.heap.size w W → Calls Tryz.prog 49 #[.float .f64 bits.toNat] W (TextIs x W)) (hx : x.length ≤ 400) :
  Calls Tryz.prog 22 #[.agg #[.int .i64 1, .string text, .string more, .int .i64 n, .int .u64 bits, .int .u64 high, .slice bA bs.length bc, .slice kA kl kc], .bool false, .bool false] w (HoldsT x w) := by
 obtain ⟨W0, hW0, HB, HW, HW0, HWW, HQ⟩ := tx_env w (.int .i64 1) (.string text) (.string more) (.int .i64 n) (.int .u64 bits) (.int .u64 high) (.slice bA bs.length bc) (.slice kA kl kc) false
 have hmf := mk_func
 obtain ⟨q0, q1, q2, q3, q4, q5, q6, q7, q8⟩ := HQ.out _ HW.out
 have HD := Lib.hid hD
 have HL := Lib.hid hx
 clear hD hx
 have hfb := fun (W : World) => frombits_run bits W
 have HLO := Lib.hid hlow
 clear hlow
 have HNAN := Lib.hid (fun (W : World) => IsNaN_calls bits.toNat W)
 obtain ⟨b1, hb1⟩ : ∃ b, isNaNF bits.toNat = b := ⟨_, rfl⟩
 rw [hb1] at HNAN
 clear hb1
 obtain ⟨b2, hb2⟩ := IsInf_any bits.toNat
 have HINF := Lib.hid hb2
 clear hb2
 go_enter Tryz.func22, Tryz.ntmps22
 go_wp2_with fail
 refine (HD.out _ (HWW.out _ HW.out)).mono ?_
 rintro e w1 ⟨rfl, hw⟩
 obtain ⟨u1, hu1⟩ : ∃ u, strOfNums x = u := ⟨_, rfl⟩
 have HU1 : Hid (StrIs u1 x) := by rw [← hu1]; exact .of _
 rw [hu1]
 clear hu1
 have hs1 : u1.size ≤ 1000000 := by rw [HU1.out.size]; have := HL.out; omega
 have n1 := HW.out.trans (hw.mono (Nat.le_trans HB.out HW.out.size))
 clear hw
 clear q0 q1 q2 q3 q4 q5 q6 q7 q8 HW
 have HW := Lib.hid n1
 clear n1
 obtain ⟨q0, q1, q2, q3, q4, q5, q6, q7, q8⟩ := HQ.out _ HW.out
 have HX : Hid (StrIs u1 x) := HU1.out
 cases b1
 ·go_wp2_with fail
  refine (HNAN.out _).mono ?_
  rintro e w2 ⟨rfl, hw2⟩
  subst hw2
  go_wp2_with fail
  refine (HINF.out _).mono ?_
  rintro e w3 ⟨rfl, hw3⟩
  subst hw3
  cases b2
  ·go_wp2_with fail
   go_ret2
   exact ⟨⟨_, rfl, _, HU1.out, ⟨HLO.out, by have := HL.out; omega⟩, fun y hy => hy⟩, HWW.out _ HW.out⟩
  ·go_wp2_with fail
   refine (Wrap_calls (StrIs.of [36, 110, 117, 109, 98, 101, 114, 68, 111, 117, 98, 108, 101]) (((StrIs.of [34]).append HU1.out).append (StrIs.of [34])) (by decide) (by have := HL.out; simp only [List.length_append, List.length_cons, List.length_nil]; omega) _).mono ?_
   rintro e wz ⟨u, rfl, hu, hwz⟩
   subst hwz
   have HU := Lib.hid hu
   clear hu
   go_wp2_with fail
   go_ret2
   exact ⟨⟨_, rfl, _, HU.out, ⟨(((((show Low [123, 34] by decide).append (by decide)).append (by decide)).append (((show Low [34] by decide).append HLO.out).append (by decide))).append (by decide)), by have := HL.out; simp only [wrapL, List.length_append, List.length_cons, List.length_nil]; omega⟩, fun y hy => by unfold wrapL; simp [hy]⟩, HWW.out _ HW.out⟩
 ·go_wp2_with fail
  refine (HNAN.out _).mono ?_
  rintro e w2 ⟨rfl, hw2⟩
  subst hw2
  go_wp2_with fail
  refine (Wrap_calls (StrIs.of [36, 110, 117, 109, 98, 101, 114, 68, 111, 117, 98, 108, 101]) (((StrIs.of [34]).append HU1.out).append (StrIs.of [34])) (by decide) (by have := HL.out; simp only [List.length_append, List.length_cons, List.length_nil]; omega) _).mono ?_
  rintro e wz ⟨u, rfl, hu, hwz⟩
  subst hwz
  have HU := Lib.hid hu
  clear hu
  go_wp2_with fail
  go_ret2
  exact ⟨⟨_, rfl, _, HU.out, ⟨(((((show Low [123, 34] by decide).append (by decide)).append (by decide)).append (((show Low [34] by decide).append HLO.out).append (by decide))).append (by decide)), by have := HL.out; simp only [wrapL, List.length_append, List.length_cons, List.length_nil]; omega⟩, fun y hy => by unfold wrapL; simp [hy]⟩, HWW.out _ HW.out⟩
theorem estr_calls (s : ByteArray) (hs : s.size ≤ 300) (hv : utf8F s = true) (W : World) : Calls Tryz.prog 21 #[.string s, .bool true] W fun e w' => e = .returned (.string (strOfNums (extStrF s true))) ∧ Below W.heap.size W w' :=
 (ExtString_calls s true (by omega) hv W).mono fun e w' ⟨u, he, hu, hb⟩ => ⟨by rw [he, hu.out], hb⟩
theorem eq_quo {name : ByteArray} (hn : utf8F name = true) : ((strOfNums (extStrF name true)).toList == ((⟨#[34]⟩ : ByteArray) ++ name ++ ⟨#[34]⟩).toList) = true → extStrF name true = quoL (bytesOf name) := fun h => by
 have h1 : (strOfNums (extStrF name true)).toList = ((⟨#[34]⟩ : ByteArray) ++ name ++ ⟨#[34]⟩).toList := eq_of_beq h
 rw [Lib.toList_data, Lib.toList_data] at h1
 have h2 : strOfNums (extStrF name true) = (⟨#[34]⟩ : ByteArray) ++ name ++ ⟨#[34]⟩ := ByteArray.ext (Array.toList_inj.1 h1)
 have h3 : StrIs ((⟨#[34]⟩ : ByteArray) ++ name ++ ⟨#[34]⟩) ([34] ++ bytesOf name ++ [34]) := ((StrIs.of [34]).append (strIs_bytes name)).append (StrIs.of [34])
 have h4 : bytesOf (strOfNums (extStrF name true)) = extStrF name true := StrIs.bytes (.of _) (ext_U8 true hn).range
 have h5 : bytesOf (strOfNums (extStrF name true)) = [34] ++ bytesOf name ++ [34] := by
  rw [h2]
  refine h3.bytes fun x hx => ?_
  have := bytes_range name
  simp only [List.mem_append, List.mem_singleton] at hx
  rcases hx with (h | h) | h
  ·omega
  ·exact this x h
  ·omega
 rw [← h4, h5]
 rfl
theorem bt_mem {u : ByteArray} {l : List Int} (hu : StrIs u l) (hr : ∀ x ∈ l, 0 ≤ x ∧ x ≤ 255) {z : Int} (h : ∀ j, j < u.size → bt u j ≠ z) : ∀ x ∈ l, x ≠ z := fun x hx => by
 obtain ⟨j, hj, rfl⟩ := List.getElem_of_mem hx
 have h2 := h j (by rw [hu.size]; exact hj)
 rw [strIs_fn hu hr, rn_lt hj] at h2
 exact h2
theorem ExtLongFits_calls {D : Int → List Int} {w0 : World} (E : DEnv D w0) : ∀ (d : Nat) (t : VT) (w : World), Below w0.heap.size w0 w → t.In w d → t.Fitx d → Calls Tryz.prog 12 #[t.val] w (AnsB (fun b => b = true → t.LongP D d) w) := by
 intro d
 induction d with
 | zero => intro t w _ _ h; exact h.elim
 | succ d ih =>
  intro t w hw hin hfit
  have IH := Lib.hid ih
  have HW00 := Lib.hid hw
  obtain ⟨kind, text, more, n, bits, high, bA, bs, bc, kA, kids, kc⟩ := t
  obtain ⟨g1, g2, g3, g4, g5, g6, g7, g8, g9, g10, g11, g12⟩ := hin
  obtain ⟨hC, hk3, hkid⟩ := hfit
  have htx : text.size ≤ 300 ∧ utf8F text = true := hC.text
  simp only [VT.val, VT.kind, VT.text, VT.more, VT.n, VT.bits, VT.high, VT.bA, VT.bs, VT.bc, VT.kA, VT.kids, VT.kc] at *
  have HCE := Lib.hid g12
  have HKID := Lib.hid hkid
  have ht3 := htx.1
  have HES := Lib.hid (fun (W : World) => estr_calls text htx.1 htx.2 W)
  obtain ⟨W0, hW0⟩ : ∃ W, w.alloc (.cells #[.int .i64 kind, .string text, .string more, .int .i64 n, .int .u64 bits, .int .u64 high, .slice bA bs.length bc, .slice kA kids.length kc] 26) = W := ⟨_, rfl⟩
  have HB : Hid (w.heap.size + 1 ≤ W0.heap.size) := Nat.le_of_eq (by rw [← hW0]; simp)
  have HW : Hid (Below (w.heap.size + 1) W0 W0) := Below.refl _ _
  have HW0 : Hid (Below w.heap.size w W0) := by rw [← hW0]; exact (Below.refl _ _).alloc (Nat.le_refl _) _
  have HWW : Hid (∀ W, Below (w.heap.size + 1) W0 W → Below w.heap.size w W) := fun W h => HW0.out.trans (h.mono (by omega))
  have HQ : Hid (∀ W, Below (w.heap.size + 1) W0 W → W.cell? ⟨w.heap.size, 0, none⟩ = some (.int .i64 kind) ∧ W.cell? ⟨w.heap.size, 1, none⟩ = some (.string text) ∧ W.cell? ⟨w.heap.size, 2, none⟩ = some (.string more) ∧ W.cell? ⟨w.heap.size, 3, none⟩ = some (.int .i64 n) ∧ W.cell? ⟨w.heap.size, 4, none⟩ = some (.int .u64 bits) ∧ W.cell? ⟨w.heap.size, 5, none⟩ = some (.int .u64 high) ∧ W.cell? ⟨w.heap.size, 6, none⟩ = some (.slice bA bs.length bc) ∧ W.cell? ⟨w.heap.size, 7, none⟩ = some (.slice kA kids.length kc)) := by
   intro W h
   refine ⟨?_, ?_, ?_, ?_, ?_, ?_, ?_, ?_⟩ <;> exact (h.cell (p := ⟨w.heap.size, _, none⟩) (by simp)).trans (by rw [← hW0]; simp [go_sem])
  have HDT := Lib.hid (fun (W : World) (h : Below w.heap.size w W) => ExtText_1r text more n bits high bA bs bc kA kids.length kc W (x := D bits) (E.low bits) (fun W2 h2 => E.spec bits W2 g3.1 g3.2 (HW00.out.trans ((h.trans (h2.mono h.size)).mono HW00.out.size))) (E.len bits))
  have HDL := Lib.hid (E.low bits)
  have HDN := Lib.hid (E.len bits)
  obtain ⟨q0, q1, q2, q3, q4, q5, q6, q7⟩ := HQ.out _ HW.out
  clear hw ih g12 hC hkid htx
  go_enter Tryz.func12, Tryz.ntmps12
  go_upto_region 1 with fail
  go_cut [25] from 8 to 70 (fun s25 wx => ∃ g : Bool, s25 = .bool g ∧ Hid (g = false → kind ≠ 15) ∧ Hid (Below (w.heap.size + 1) W0 wx))
  case first =>
   by_cases k15 : kind = 15
   ·have d15 : (kind == 15) = true := beq_iff_eq.2 k15
    clear k15 HES HDT HCE HKID
    go_quiet (fail)
    go_wp2_with fail
    go_meet
    exact ⟨true, rfl, (fun h => by cases h), pw_below_drewN HW.out nq⟩
   ·have d15 : (kind == 15) = false := beq_eq_false_iff_ne.2 k15
    have HN := Lib.hid k15
    clear k15
    by_cases k12 : kind = 12
    ·have d12 : (kind == 12) = true := beq_iff_eq.2 k12
     clear k12 HDT HCE HKID
     have hap := @ByteArray.size_append
     have fa1 : (9223372036854775807 < 1 + text.size) = False := eq_false (by omega)
     have fa2 : (9223372036854775807 < 1 + text.size + 1) = False := eq_false (by omega)
     obtain ⟨U, hU⟩ : ∃ U, strOfNums (extStrF text true) = U := ⟨_, rfl⟩
     rw [hU] at HES
     obtain ⟨bb, hbb⟩ : ∃ bb, (U.toList == ((⟨#[34]⟩ : ByteArray) ++ text ++ ⟨#[34]⟩).toList) = bb := ⟨_, rfl⟩
     have HC : Hid (∀ w', Below (w.heap.size + 1) W0 w' → Below (w.heap.size + 1) W0 w' ∧ w'.cell? ⟨w.heap.size, 0, none⟩ = some (.int .i64 kind) ∧ w'.cell? ⟨w.heap.size, 1, none⟩ = some (.string text) ∧ w'.cell? ⟨w.heap.size, 2, none⟩ = some (.string more) ∧ w'.cell? ⟨w.heap.size, 3, none⟩ = some (.int .i64 n) ∧ w'.cell? ⟨w.heap.size, 4, none⟩ = some (.int .u64 bits) ∧ w'.cell? ⟨w.heap.size, 5, none⟩ = some (.int .u64 high) ∧ w'.cell? ⟨w.heap.size, 6, none⟩ = some (.slice bA bs.length bc) ∧ w'.cell? ⟨w.heap.size, 7, none⟩ = some (.slice kA kids.length kc)) := fun w' h => ⟨h, HQ.out _ h⟩
     first | (go_must (go_region_held3 (fun w' => Below (w.heap.size + 1) W0 w' ∧ w'.cell? ⟨w.heap.size, 0, none⟩ = some (.int .i64 kind) ∧ w'.cell? ⟨w.heap.size, 1, none⟩ = some (.string text) ∧ w'.cell? ⟨w.heap.size, 2, none⟩ = some (.string more) ∧ w'.cell? ⟨w.heap.size, 3, none⟩ = some (.int .i64 n) ∧ w'.cell? ⟨w.heap.size, 4, none⟩ = some (.int .u64 bits) ∧ w'.cell? ⟨w.heap.size, 5, none⟩ = some (.int .u64 high) ∧ w'.cell? ⟨w.heap.size, 6, none⟩ = some (.slice bA bs.length bc) ∧ w'.cell? ⟨w.heap.size, 7, none⟩ = some (.slice kA kids.length kc)) (first | assumption | exact HC.out _ (Below.refl _ _).drew | exact HC.out _ HP.out | exact HC.out _ HP.out.drew) (first | (go_at_call 21; go_must (refine (HES.out _).mono ?_; rintro e w6 ⟨rfl, hbw⟩; have HP := Lib.hid ((And.left (by assumption : Below (w.heap.size + 1) W0 _ ∧ _)).trans (hbw.mono (by have := (And.left (by assumption : Below (w.heap.size + 1) W0 _ ∧ _)).size; have := HB.out; omega))); clear hbw))))) | skip
     all_goals go_wp2_with fail
     all_goals go_meet
     all_goals exact ⟨_, rfl, fun _ => HN.out, HP.out⟩
    ·have d12 : (kind == 12) = false := beq_eq_false_iff_ne.2 k12
     clear k12 HES HDT HCE HKID
     go_quiet (fail)
     go_wp2_with fail
     go_meet
     exact ⟨false, rfl, fun _ => HN.out, pw_below_drewN HW.out nq⟩
  obtain ⟨g, rfl, HG, HW1⟩ := hcut
  clear q0 q1 q2 q3 q4 q5 q6 q7 HW HES
  obtain ⟨q0, q1, q2, q3, q4, q5, q6, q7⟩ := HQ.out _ HW1.out
  cases g
  case true =>
   go_wp2_with fail
   go_ret
   exact AnsB.of rfl (fun h => by cases h) (HWW.out _ HW1.out)
  have HK15 : Hid (kind ≠ 15) := HG.out rfl
  clear HG
  go_upto_if 28 with fail
  go_cut [2] from 3 to 70 (fun s2 wx => s2 = .bool false ∧ Hid (kind = 1 → ∀ x ∈ D bits, x ≠ 69) ∧ Hid (Below (w.heap.size + 1) W0 wx))
  case first =>
   by_cases k1 : kind = 1
   ·have d1 : (kind == 1) = true := beq_iff_eq.2 k1
    subst k1
    clear HCE HKID
    go_wp2_with fail
    refine (HDT.out _ (HWW.out _ HW1.out)).mono ?_
    rintro e w5 ⟨⟨u, rfl, l, hu, hlow, hl⟩, hw5⟩
    have HW5 := Lib.hid (HW1.out.trans (hw5.mono (Nat.le_trans HB.out HW1.out.size)))
    have HUL := Lib.hid (And.intro hu (And.intro hlow.1 hl))
    have hus : u.size ≤ 1000 := by rw [hu.size]; exact hlow.2
    clear hu hlow hl hw5 HDT
    go_wp2_with fail
    go_loopw [2, 5] (fun r i wr => ∃ k : Nat, r = .bool false ∧ k ≤ u.size ∧ i = .int .i64 k ∧ Hid (∀ j, j < k → bt u j ≠ 69) ∧ Hid (Below (w.heap.size + 1) W0 wr)) (fun _ i _ => u.size - (intOf i).toNat)
    case atStart => exact ⟨0, rfl, Nat.zero_le _, rfl, fun j h => absurd h (Nat.not_lt_zero _), HW5⟩
    case round =>
     obtain ⟨k, rfl, hk, rfl, HA, HWr⟩ := hrel
     clear HW5
     by_cases hlt : k < u.size
     ·have hd' : decide ((k : Int) < u.size) = true := decide_eq_true (by omega)
      have hbk := bt_at u k hlt
      by_cases hz : bt u k = 69
      ·have hzb : (bt u k == 69) = true := beq_iff_eq.2 hz
       clear hz
       go_wp2_with fail
       go_ret
       exact AnsB.of rfl (fun h => by cases h) (HWW.out _ HWr.out)
      ·have hzb : (bt u k == 69) = false := beq_eq_false_iff_ne.2 hz
       have HZ := Lib.hid hz
       clear hz
       go_wp2_with fail
       go_roundw
       case rel =>
        refine ⟨k + 1, rfl, by omega, by first | rfl | (congr 1; omega), fun j hj => ?_, HWr⟩
        by_cases e : j = k
        ·rw [e]; exact HZ.out
        ·exact HA.out j (by omega)
       case measure => simp [intOf] <;> omega
     ·obtain rfl : k = u.size := by omega
      have hd' : decide ((u.size : Int) < u.size) = false := decide_eq_false (by omega)
      go_wp2_with fail
      go_meet
      exact ⟨rfl, fun _ x hx => bt_mem HUL.out.1 (fun y hy => by have := HUL.out.2.1 y hy; omega) HA.out x (HUL.out.2.2 x hx), HWr.out⟩
   ·have d1 : (kind == 1) = false := beq_eq_false_iff_ne.2 k1
    have HN := Lib.hid k1
    clear k1 HCE HKID HDT
    go_wp2_with fail
    go_meet
    exact ⟨rfl, fun h => absurd h HN.out, HW1.out⟩
  obtain ⟨rfl, HD, HW2⟩ := hcut
  clear q0 q1 q2 q3 q4 q5 q6 q7 HW1 HDT
  obtain ⟨q0, q1, q2, q3, q4, q5, q6, q7⟩ := HQ.out _ HW2.out
  go_wp2_with fail
  go_loopw [47] (fun i wr => ∃ k : Nat, k ≤ kids.length ∧ i = .int .i64 k ∧ Hid (∀ j (h : j < k) (hj : j < kids.length), (0 < kids[j].1.size ∧ extStrF kids[j].1 true = quoL (bytesOf kids[j].1)) ∧ VT.LongP D d kids[j].2) ∧ Hid (Below (w.heap.size + 1) W0 wr)) (fun i _ => kids.length - (intOf i).toNat)
  case atStart => exact ⟨0, Nat.zero_le _, rfl, fun j h => absurd h (Nat.not_lt_zero _), HW2⟩
  case round =>
   obtain ⟨k, hk, rfl, HA, HWr⟩ := hrel
   clear q0 q1 q2 q3 q4 q5 q6 q7 HW2
   have HWWr := Lib.hid (HWW.out _ HWr.out)
   by_cases hlt : k < kids.length
   ·have hd' : decide ((k : Int) < kids.length) = true := decide_eq_true (by omega)
    obtain ⟨ad, rfl, hkd⟩ := HCE.out (by omega)
    obtain ⟨p, name, t, hp, hkt, hn, ht, hpb, c0, c1, c2, c3, c4, c5, c6, c7, c8⟩ := VT.kid HWWr.out hlt hkd
    clear hkd
    have HKT := Lib.hid hkt
    have hkf := HKID.out k hlt
    rw [hkt] at hkf
    have HKF := Lib.hid hkf
    have HT := Lib.hid ht
    clear hkt ht hkf
    have hn3 : name.size ≤ 300 := HKF.out.1.1
    obtain ⟨W1, hW1⟩ : ∃ W, (wr.alloc (.cells #[.string name, .int .i64 t.kind, .string t.text, .string t.more, .int .i64 t.n, .int .u64 t.bits, .int .u64 t.high, .slice t.bA t.bs.length t.bc, .slice t.kA t.kids.length t.kc] 30)) = W := ⟨_, rfl⟩
    have HB1 : Hid (wr.heap.size + 1 ≤ W1.heap.size) := Nat.le_of_eq (by rw [← hW1]; simp)
    have HX0 : Hid (Below (wr.heap.size + 1) W1 W1) := Below.refl _ _
    have HWr1 : Hid (Below (w.heap.size + 1) W0 W1) := by rw [← hW1]; exact HWr.out.alloc (Nat.le_trans HB.out HWr.out.size) _
    have HX : Hid (∀ W, Below (wr.heap.size + 1) W1 W → Below (w.heap.size + 1) W0 W) := fun W h => HWr1.out.trans (h.mono (by have := HWr.out.size; have := HB.out; omega))
    have HQ9 : Hid (∀ W, Below (wr.heap.size + 1) W1 W → W.cell? ⟨wr.heap.size, 0, none⟩ = some (.string name) ∧ W.cell? ⟨wr.heap.size, 1, none⟩ = some (.int .i64 t.kind) ∧ W.cell? ⟨wr.heap.size, 2, none⟩ = some (.string t.text) ∧ W.cell? ⟨wr.heap.size, 3, none⟩ = some (.string t.more) ∧ W.cell? ⟨wr.heap.size, 4, none⟩ = some (.int .i64 t.n) ∧ W.cell? ⟨wr.heap.size, 5, none⟩ = some (.int .u64 t.bits) ∧ W.cell? ⟨wr.heap.size, 6, none⟩ = some (.int .u64 t.high) ∧ W.cell? ⟨wr.heap.size, 7, none⟩ = some (.slice t.bA t.bs.length t.bc) ∧ W.cell? ⟨wr.heap.size, 8, none⟩ = some (.slice t.kA t.kids.length t.kc)) := by
     intro W h
     refine ⟨?_, ?_, ?_, ?_, ?_, ?_, ?_, ?_, ?_⟩ <;> exact (h.cell (p := ⟨wr.heap.size, _, none⟩) (by simp)).trans (by rw [← hW1]; simp [go_sem])
    have HES := Lib.hid (fun (W : World) => estr_calls name hn3 HKF.out.1.2 W)
    obtain ⟨U, hU⟩ : ∃ U, strOfNums (extStrF name true) = U := ⟨_, rfl⟩
    have HEQ := Lib.hid (eq_quo HKF.out.1.2)
    rw [hU] at HES HEQ
    have HREC := Lib.hid (fun (W : World) (h : Below (wr.heap.size + 1) W1 W) => IH.out t W (HW00.out.trans ((HWW.out _ (HX.out _ h)).mono HW00.out.size)) (HT.out.below ((HX.out _ h |> fun h2 => by
     have h3 := h
     exact (show Below wr.heap.size wr W from by
      have ha : Below wr.heap.size wr W1 := by rw [← hW1]; exact (Below.refl _ _).alloc (Nat.le_refl _) _
      exact ha.trans (h3.mono (by omega)))))) HKF.out.2)
    obtain ⟨r0, r1, r2, r3, r4, r5, r6, r7, r8⟩ := HQ9.out _ HX0.out
    by_cases hz : name.size = 0
    ·have hze : name.toList.isEmpty = true := by rw [str_empty hz]; rfl
     clear hz HES HEQ HREC
     go_wp2_with fail
     go_quiet (fail)
     go_wp2_with fail
     go_ret
     exact AnsB.of rfl (fun h => by cases h) (HWW.out _ (HX.out _ (pw_below_drewN HX0.out nq)))
    ·have hze : name.toList.isEmpty = false := str_pos (by omega)
     have hap := @ByteArray.size_append
     have fa1 : (9223372036854775807 < 1 + name.size) = False := eq_false (by omega)
     have fa2 : (9223372036854775807 < 1 + name.size + 1) = False := eq_false (by omega)
     have HPOS : Hid (0 < name.size) := by show _ < _; omega
     clear hz
     have HC : Hid (∀ w', Below (wr.heap.size + 1) W1 w' → Below (wr.heap.size + 1) W1 w' ∧ w'.cell? ⟨wr.heap.size, 0, none⟩ = some (.string name) ∧ w'.cell? ⟨wr.heap.size, 1, none⟩ = some (.int .i64 t.kind) ∧ w'.cell? ⟨wr.heap.size, 2, none⟩ = some (.string t.text) ∧ w'.cell? ⟨wr.heap.size, 3, none⟩ = some (.string t.more) ∧ w'.cell? ⟨wr.heap.size, 4, none⟩ = some (.int .i64 t.n) ∧ w'.cell? ⟨wr.heap.size, 5, none⟩ = some (.int .u64 t.bits) ∧ w'.cell? ⟨wr.heap.size, 6, none⟩ = some (.int .u64 t.high) ∧ w'.cell? ⟨wr.heap.size, 7, none⟩ = some (.slice t.bA t.bs.length t.bc) ∧ w'.cell? ⟨wr.heap.size, 8, none⟩ = some (.slice t.kA t.kids.length t.kc)) := fun w' h => ⟨h, HQ9.out _ h⟩
     by_cases hb : (U.toList == ((⟨#[34]⟩ : ByteArray) ++ name ++ ⟨#[34]⟩).toList) = true
     ·have HLE := Lib.hid (HEQ.out hb)
      clear HEQ
      go_wp2_with fail
      first | (go_must (go_region_held3 (fun w' => Below (wr.heap.size + 1) W1 w' ∧ w'.cell? ⟨wr.heap.size, 0, none⟩ = some (.string name) ∧ w'.cell? ⟨wr.heap.size, 1, none⟩ = some (.int .i64 t.kind) ∧ w'.cell? ⟨wr.heap.size, 2, none⟩ = some (.string t.text) ∧ w'.cell? ⟨wr.heap.size, 3, none⟩ = some (.string t.more) ∧ w'.cell? ⟨wr.heap.size, 4, none⟩ = some (.int .i64 t.n) ∧ w'.cell? ⟨wr.heap.size, 5, none⟩ = some (.int .u64 t.bits) ∧ w'.cell? ⟨wr.heap.size, 6, none⟩ = some (.int .u64 t.high) ∧ w'.cell? ⟨wr.heap.size, 7, none⟩ = some (.slice t.bA t.bs.length t.bc) ∧ w'.cell? ⟨wr.heap.size, 8, none⟩ = some (.slice t.kA t.kids.length t.kc)) (first | assumption | exact HC.out _ (Below.refl _ _).drew | exact HC.out _ HP.out | exact HC.out _ HP.out.drew) (first | (go_at_call 21; go_must (refine (HES.out _).mono ?_; rintro e w6 ⟨rfl, hbw⟩; have HP := Lib.hid ((And.left (by assumption : Below (wr.heap.size + 1) W1 _ ∧ _)).trans (hbw.mono (by have := (And.left (by assumption : Below (wr.heap.size + 1) W1 _ ∧ _)).size; have := HB1.out; omega))); clear hbw)) | (go_at_call 12; go_must (refine (HREC.out _ (And.left (by assumption : Below (wr.heap.size + 1) W1 _ ∧ _))).mono ?_; rintro e w7 ⟨b, rfl, hb1, hb2⟩; have HBB := Lib.hid hb1; have HPP := Lib.hid ((And.left (by assumption : Below (wr.heap.size + 1) W1 _ ∧ _)).trans (hb2.mono (by have := (And.left (by assumption : Below (wr.heap.size + 1) W1 _ ∧ _)).size; have := HB1.out; omega))); clear HP; have HP := HPP; clear HPP hb1 hb2))))) | skip
      cases b
      ·go_wp2_with fail
       go_ret
       exact AnsB.of rfl (fun h => by cases h) (HWW.out _ (HX.out _ HP.out))
      ·go_wp2_with fail
       go_roundw
       case rel =>
        refine ⟨k + 1, by omega, by first | rfl | (congr 1; omega), fun j hj hjl => ?_, HX.out _ HP.out⟩
        by_cases e : j = k
        ·subst e
         rw [HKT.out]
         exact ⟨⟨HPOS.out, HLE.out⟩, HBB.out rfl⟩
        ·exact HA.out j (by omega) hjl
       case measure => simp [intOf] <;> omega
     ·have hbf : (U.toList == ((⟨#[34]⟩ : ByteArray) ++ name ++ ⟨#[34]⟩).toList) = false := by
       cases h : (U.toList == ((⟨#[34]⟩ : ByteArray) ++ name ++ ⟨#[34]⟩).toList) with
       | true => exact absurd h hb
       | false => rfl
      clear hb HEQ HREC
      go_wp2_with fail
      first | (go_must (go_region_with (go_at_call 21; refine (HES.out _).mono ?_; rintro e w6 ⟨rfl, hbw⟩; have HP : Hid (Below (wr.heap.size + 1) W1 w6) := (by first | exact hbw.mono HB1.out | exact (Below.refl _ _).drew.trans (hbw.mono HB1.out)); obtain ⟨t0, t1, t2, t3, t4, t5, t6, t7, t8⟩ := HQ9.out _ HP.out; clear hbw))) | skip
      all_goals go_wp2_with fail
      all_goals go_ret
      all_goals exact AnsB.of rfl (fun h => by cases h) (HWW.out _ (HX.out _ (by first | exact HP.out | exact HP.out.drew)))
   ·obtain rfl : k = kids.length := by omega
    have hd' : decide ((kids.length : Int) < kids.length) = false := decide_eq_false (by omega)
    go_wp2_with fail
    go_ret
    exact AnsB.of rfl (fun _ => ⟨⟨HK15.out, HD.out⟩, fun i hi => HA.out i hi hi⟩) HWWr.out
end Go.Proofs.YtkeakdjbidbegaaGreatDoor
