/- A part of the proof that laws.FnTextElement returns true at every input: Extw, Texa, Texb, Texc, Texd, Texe, Texf, Texg, Texh. -/
import Derived.Test.YtkeakdjbidbegaaGreatDoorC
import Derived.Test.YtkeakdjbidbegaaGreatDoorH
import Derived.BigQuiet
import Derived.Deep.RegionHeld3
import Derived.Deep.DeepMust
import Derived.Test.YtkeakdjbidbegaaGreatDoorI
set_option linter.unusedSimpArgs false
set_option linter.unusedVariables false
set_option maxRecDepth 100000
set_option maxHeartbeats 8000000
namespace Go.Proofs.YtkeakdjbidbegaaGreatDoor
open Go.RowKit
open Go.Proofs.YtkeakdjbidbegaaGreatDoorW.PrintWords
def TextOk (l : List Int) (w : World) (e : Ending) (w' : World) : Prop := ∃ u, e = .returned (.tuple #[.string u, .bool true]) ∧ StrIs u l ∧ Below w.heap.size w w'
theorem rd_btx (s : ByteArray) (j : Nat) (h : j < s.size) : rd (bytesOf s) (j : Int) = bt s j := by
 unfold rd
 rw [Int.toNat_natCast, List.getD_eq_getElem?_getD, List.getElem?_eq_getElem (by rw [bytesOf_length]; exact h)]
 simp only [Option.getD_some]
 unfold bytesOf
 rw [List.getElem_map, Array.getElem_toList]
 exact bt_at s j h
theorem mk_func : ∀ (fn : Fn) (first cap : Array Value) (w : World), (Instr.makeFunc fn first cap).run Tryz.prog w = .ok (.func fn first cap) w := fun _ _ _ _ => rfl
theorem tx_env (w : World) (c0 c1 c2 c3 c4 c5 c6 c7 : Value) (e : Bool) : ∃ W0, (w.alloc (.cells #[c0, c1, c2, c3, c4, c5, c6, c7] 26)).alloc (.cells #[.bool e] 4) = W0 ∧ Hid (w.heap.size + 2 ≤ W0.heap.size) ∧ Hid (Below (w.heap.size + 2) W0 W0) ∧ Hid (Below w.heap.size w W0) ∧ Hid (∀ W, Below (w.heap.size + 2) W0 W → Below w.heap.size w W) ∧
  Hid (∀ W, Below (w.heap.size + 2) W0 W → W.cell? ⟨w.heap.size, 0, none⟩ = some c0 ∧ W.cell? ⟨w.heap.size, 1, none⟩ = some c1 ∧ W.cell? ⟨w.heap.size, 2, none⟩ = some c2 ∧ W.cell? ⟨w.heap.size, 3, none⟩ = some c3 ∧ W.cell? ⟨w.heap.size, 4, none⟩ = some c4 ∧ W.cell? ⟨w.heap.size, 5, none⟩ = some c5 ∧ W.cell? ⟨w.heap.size, 6, none⟩ = some c6 ∧ W.cell? ⟨w.heap.size, 7, none⟩ = some c7 ∧ W.cell? ⟨w.heap.size + 1, 0, none⟩ = some (.bool e)) := by
 obtain ⟨W0, hW0⟩ : ∃ W, (w.alloc (.cells #[c0, c1, c2, c3, c4, c5, c6, c7] 26)).alloc (.cells #[.bool e] 4) = W := ⟨_, rfl⟩
 have HW0 : Below w.heap.size w W0 := by rw [← hW0]; exact ((Below.refl _ _).alloc (Nat.le_refl _) _).alloc (by simp) _
 refine ⟨W0, hW0, Nat.le_of_eq (by rw [← hW0]; simp), Below.refl _ _, HW0, fun W h => HW0.trans (h.mono (by omega)), fun W h => ?_⟩
 have key : ∀ j (v : Value), W0.cell? ⟨w.heap.size, j, none⟩ = some v → W.cell? ⟨w.heap.size, j, none⟩ = some v := fun j v hv => (h.cell (p := ⟨w.heap.size, j, none⟩) (by show w.heap.size < w.heap.size + 2; omega)).trans hv
 refine ⟨key 0 _ ?_, key 1 _ ?_, key 2 _ ?_, key 3 _ ?_, key 4 _ ?_, key 5 _ ?_, key 6 _ ?_, key 7 _ ?_, (h.cell (p := ⟨w.heap.size + 1, 0, none⟩) (by show w.heap.size + 1 < w.heap.size + 2; omega)).trans ?_⟩ <;> (rw [← hW0]; simp [go_sem])
theorem TextOk.cast {l l' : List Int} {w : World} {e : Ending} {w' : World} (h : TextOk l w e w') (he : l = l') : TextOk l' w e w' := he ▸ h
theorem Wrap_calls {a s : ByteArray} {la ls : List Int} (ha : StrIs a la) (hs : StrIs s ls) (h1 : la.length ≤ 1000) (h2 : ls.length ≤ 100000000) (W : World) :
  Calls Tryz.prog 48 #[.string a, .string s] W fun e w' => ∃ u, e = .returned (.tuple #[.string u, .bool true]) ∧ StrIs u (wrapL la ls) ∧ w' = W := by
 have s1 : a.size ≤ 1000 := by rw [ha.size]; exact h1
 have s2 : s.size ≤ 100000000 := by rw [hs.size]; exact h2
 have HA := Lib.hid ha
 have HS := Lib.hid hs
 clear ha hs h1 h2
 go_enter Tryz.func48, Tryz.ntmps48
 go_wp2_with fail
 go_ret2
 exact ⟨_, rfl, ((((StrIs.of [123, 34]).append HA.out).append (StrIs.of [34, 58])).append HS.out).append (StrIs.of [125]), rfl⟩
theorem Str_calls (s : ByteArray) (esc : Bool) (p : Nat) (hs : s.size ≤ 300) (hu : utf8F s = true) (W : World) (hc : W.cell? ⟨p, 0, none⟩ = some (.bool esc)) :
  Calls Tryz.prog 47 #[.string s, .pointer (some ⟨p, 0, none⟩)] W (TxtIs (extStrF s esc) W) := by
 have HE := Lib.hid (fun W => ExtString_calls s esc (by omega) hu W)
 clear hs hu
 go_enter Tryz.func47, Tryz.ntmps47
 go_wp2_with fail
 refine (HE.out _).mono ?_
 rintro e w1 ⟨u, rfl, hu, hw⟩
 have HU := Lib.hid hu
 have HW := Lib.hid hw
 clear hu hw
 go_wp2_with fail
 go_ret
 exact ⟨⟨_, rfl, HU.out⟩, HW.out⟩
theorem ExtText_6 (text more : ByteArray) (n bits high : Int) (bA : Option Addr) (bs : List Int) (bc : Nat) (kA : Option Addr) (kl kc : Nat) (w : World) :
  Calls Tryz.prog 22 #[.agg #[.int .i64 6, .string text, .string more, .int .i64 n, .int .u64 bits, .int .u64 high, .slice bA bs.length bc, .slice kA kl kc], .bool true, .bool true] w (TextOk (wrapL [36, 117, 110, 100, 101, 102, 105, 110, 101, 100] [116, 114, 117, 101]) w) := by
 obtain ⟨W0, hW0, HB, HW, HW0, HWW, HQ⟩ := tx_env w (.int .i64 6) (.string text) (.string more) (.int .i64 n) (.int .u64 bits) (.int .u64 high) (.slice bA bs.length bc) (.slice kA kl kc) true
 have hmf := mk_func
 obtain ⟨q0, q1, q2, q3, q4, q5, q6, q7, q8⟩ := HQ.out _ HW.out
 go_enter Tryz.func22, Tryz.ntmps22
 go_wp2_with fail
 refine (Wrap_calls (StrIs.of [36, 117, 110, 100, 101, 102, 105, 110, 101, 100]) (StrIs.of [116, 114, 117, 101]) (by decide) (by first | omega | (simp only [List.length_append, List.length_cons, List.length_nil]; omega)) _).mono ?_
 rintro e wz ⟨u, rfl, hu, hwz⟩
 subst hwz
 have HU := Lib.hid hu
 clear hu
 go_wp2_with fail
 go_ret2
 exact ⟨_, rfl, HU.out, HWW.out _ HW.out⟩
theorem ExtText_10 (text more : ByteArray) (n bits high : Int) (bA : Option Addr) (bs : List Int) (bc : Nat) (kA : Option Addr) (kl kc : Nat) (w : World) :
  Calls Tryz.prog 22 #[.agg #[.int .i64 10, .string text, .string more, .int .i64 n, .int .u64 bits, .int .u64 high, .slice bA bs.length bc, .slice kA kl kc], .bool true, .bool true] w (TextOk ([110, 117, 108, 108]) w) := by
 obtain ⟨W0, hW0, HB, HW, HW0, HWW, HQ⟩ := tx_env w (.int .i64 10) (.string text) (.string more) (.int .i64 n) (.int .u64 bits) (.int .u64 high) (.slice bA bs.length bc) (.slice kA kl kc) true
 have hmf := mk_func
 obtain ⟨q0, q1, q2, q3, q4, q5, q6, q7, q8⟩ := HQ.out _ HW.out
 go_enter Tryz.func22, Tryz.ntmps22
 go_wp2_with fail
 go_ret2
 exact ⟨_, rfl, StrIs.of [110, 117, 108, 108], HWW.out _ HW.out⟩
theorem ExtText_8 (text more : ByteArray) (n bits high : Int) (bA : Option Addr) (bs : List Int) (bc : Nat) (kA : Option Addr) (kl kc : Nat) (w : World) :
  Calls Tryz.prog 22 #[.agg #[.int .i64 8, .string text, .string more, .int .i64 n, .int .u64 bits, .int .u64 high, .slice bA bs.length bc, .slice kA kl kc], .bool true, .bool true] w (TextOk (if n = 1 then [116, 114, 117, 101] else [102, 97, 108, 115, 101]) w) := by
 obtain ⟨W0, hW0, HB, HW, HW0, HWW, HQ⟩ := tx_env w (.int .i64 8) (.string text) (.string more) (.int .i64 n) (.int .u64 bits) (.int .u64 high) (.slice bA bs.length bc) (.slice kA kl kc) true
 have hmf := mk_func
 obtain ⟨q0, q1, q2, q3, q4, q5, q6, q7, q8⟩ := HQ.out _ HW.out
 go_enter Tryz.func22, Tryz.ntmps22
 by_cases h : n = 1
 ·have hb : (n == 1) = true := beq_iff_eq.2 h
  rw [if_pos h]
  clear h
  go_wp2_with fail
  go_ret2
  exact ⟨_, rfl, StrIs.of [116, 114, 117, 101], HWW.out _ HW.out⟩
 ·have hb : (n == 1) = false := beq_eq_false_iff_ne.2 h
  rw [if_neg h]
  clear h
  go_wp2_with fail
  go_ret2
  exact ⟨_, rfl, StrIs.of [102, 97, 108, 115, 101], HWW.out _ HW.out⟩
theorem ExtText_2 (text more : ByteArray) (n bits high : Int) (bA : Option Addr) (bs : List Int) (bc : Nat) (kA : Option Addr) (kl kc : Nat) (w : World) (ht : text.size ≤ 300 ∧ utf8F text = true) :
  Calls Tryz.prog 22 #[.agg #[.int .i64 2, .string text, .string more, .int .i64 n, .int .u64 bits, .int .u64 high, .slice bA bs.length bc, .slice kA kl kc], .bool true, .bool true] w (TextOk (extStrF text true) w) := by
 obtain ⟨W0, hW0, HB, HW, HW0, HWW, HQ⟩ := tx_env w (.int .i64 2) (.string text) (.string more) (.int .i64 n) (.int .u64 bits) (.int .u64 high) (.slice bA bs.length bc) (.slice kA kl kc) true
 have hmf := mk_func
 obtain ⟨q0, q1, q2, q3, q4, q5, q6, q7, q8⟩ := HQ.out _ HW.out
 have HS := Lib.hid (fun (W : World) (hc : W.cell? ⟨w.heap.size + 1, 0, none⟩ = some (.bool true)) => Str_calls text true (w.heap.size + 1) ht.1 ht.2 W hc)
 have HL : Hid ((extStrF text true).length ≤ 6 * text.size + 2) := extStrF_length true ht.2
 have ht1 := ht.1
 clear ht
 go_enter Tryz.func22, Tryz.ntmps22
 go_wp2_with fail
 refine (HS.out _ q8).mono ?_
 rintro e w1 ⟨⟨u1, rfl, hu1⟩, hw⟩
 have HU1 := Lib.hid hu1
 have hs1 : u1.size ≤ 1000000 := by rw [hu1.size]; have := HL.out; omega
 have n1 := HW.out.trans (hw.mono (Nat.le_trans HB.out HW.out.size))
 clear hw hu1
 clear q0 q1 q2 q3 q4 q5 q6 q7 q8 HW
 have HW := Lib.hid n1
 clear n1
 obtain ⟨q0, q1, q2, q3, q4, q5, q6, q7, q8⟩ := HQ.out _ HW.out
 go_wp2_with fail
 go_ret2
 exact ⟨_, rfl, HU1.out, HWW.out _ HW.out⟩
theorem ExtText_255 (text more : ByteArray) (n bits high : Int) (bA : Option Addr) (bs : List Int) (bc : Nat) (kA : Option Addr) (kl kc : Nat) (w : World) :
  Calls Tryz.prog 22 #[.agg #[.int .i64 255, .string text, .string more, .int .i64 n, .int .u64 bits, .int .u64 high, .slice bA bs.length bc, .slice kA kl kc], .bool true, .bool true] w (TextOk (wrapL [36, 109, 105, 110, 75, 101, 121] [49]) w) := by
 obtain ⟨W0, hW0, HB, HW, HW0, HWW, HQ⟩ := tx_env w (.int .i64 255) (.string text) (.string more) (.int .i64 n) (.int .u64 bits) (.int .u64 high) (.slice bA bs.length bc) (.slice kA kl kc) true
 have hmf := mk_func
 obtain ⟨q0, q1, q2, q3, q4, q5, q6, q7, q8⟩ := HQ.out _ HW.out
 go_enter Tryz.func22, Tryz.ntmps22
 go_wp2_with fail
 refine (Wrap_calls (StrIs.of [36, 109, 105, 110, 75, 101, 121]) (StrIs.of [49]) (by decide) (by first | omega | (simp only [List.length_append, List.length_cons, List.length_nil]; omega)) _).mono ?_
 rintro e wz ⟨u, rfl, hu, hwz⟩
 subst hwz
 have HU := Lib.hid hu
 clear hu
 go_wp2_with fail
 go_ret2
 exact ⟨_, rfl, HU.out, HWW.out _ HW.out⟩
theorem ExtText_127 (text more : ByteArray) (n bits high : Int) (bA : Option Addr) (bs : List Int) (bc : Nat) (kA : Option Addr) (kl kc : Nat) (w : World) :
  Calls Tryz.prog 22 #[.agg #[.int .i64 127, .string text, .string more, .int .i64 n, .int .u64 bits, .int .u64 high, .slice bA bs.length bc, .slice kA kl kc], .bool true, .bool true] w (TextOk (wrapL [36, 109, 97, 120, 75, 101, 121] [49]) w) := by
 obtain ⟨W0, hW0, HB, HW, HW0, HWW, HQ⟩ := tx_env w (.int .i64 127) (.string text) (.string more) (.int .i64 n) (.int .u64 bits) (.int .u64 high) (.slice bA bs.length bc) (.slice kA kl kc) true
 have hmf := mk_func
 obtain ⟨q0, q1, q2, q3, q4, q5, q6, q7, q8⟩ := HQ.out _ HW.out
 go_enter Tryz.func22, Tryz.ntmps22
 go_wp2_with fail
 refine (Wrap_calls (StrIs.of [36, 109, 97, 120, 75, 101, 121]) (StrIs.of [49]) (by decide) (by first | omega | (simp only [List.length_append, List.length_cons, List.length_nil]; omega)) _).mono ?_
 rintro e wz ⟨u, rfl, hu, hwz⟩
 subst hwz
 have HU := Lib.hid hu
 clear hu
 go_wp2_with fail
 go_ret2
 exact ⟨_, rfl, HU.out, HWW.out _ HW.out⟩
theorem ExtText_13 (text more : ByteArray) (n bits high : Int) (bA : Option Addr) (bs : List Int) (bc : Nat) (kA : Option Addr) (kl kc : Nat) (w : World) (ht : text.size ≤ 300 ∧ utf8F text = true) :
  Calls Tryz.prog 22 #[.agg #[.int .i64 13, .string text, .string more, .int .i64 n, .int .u64 bits, .int .u64 high, .slice bA bs.length bc, .slice kA kl kc], .bool true, .bool true] w (TextOk (wrapL [36, 99, 111, 100, 101] (extStrF text true)) w) := by
 obtain ⟨W0, hW0, HB, HW, HW0, HWW, HQ⟩ := tx_env w (.int .i64 13) (.string text) (.string more) (.int .i64 n) (.int .u64 bits) (.int .u64 high) (.slice bA bs.length bc) (.slice kA kl kc) true
 have hmf := mk_func
 obtain ⟨q0, q1, q2, q3, q4, q5, q6, q7, q8⟩ := HQ.out _ HW.out
 have HS := Lib.hid (fun (W : World) (hc : W.cell? ⟨w.heap.size + 1, 0, none⟩ = some (.bool true)) => Str_calls text true (w.heap.size + 1) ht.1 ht.2 W hc)
 have HL : Hid ((extStrF text true).length ≤ 6 * text.size + 2) := extStrF_length true ht.2
 have ht1 := ht.1
 clear ht
 go_enter Tryz.func22, Tryz.ntmps22
 go_wp2_with fail
 refine (HS.out _ q8).mono ?_
 rintro e w1 ⟨⟨u1, rfl, hu1⟩, hw⟩
 have HU1 := Lib.hid hu1
 have hs1 : u1.size ≤ 1000000 := by rw [hu1.size]; have := HL.out; omega
 have n1 := HW.out.trans (hw.mono (Nat.le_trans HB.out HW.out.size))
 clear hw hu1
 clear q0 q1 q2 q3 q4 q5 q6 q7 q8 HW
 have HW := Lib.hid n1
 clear n1
 obtain ⟨q0, q1, q2, q3, q4, q5, q6, q7, q8⟩ := HQ.out _ HW.out
 go_wp2_with fail
 have := HL.out
 refine (Wrap_calls (StrIs.of [36, 99, 111, 100, 101]) (HU1.out) (by decide) (by first | omega | (simp only [List.length_append, List.length_cons, List.length_nil]; omega)) _).mono ?_
 rintro e wz ⟨u, rfl, hu, hwz⟩
 subst hwz
 have HU := Lib.hid hu
 clear hu
 go_wp2_with fail
 go_ret2
 exact ⟨_, rfl, HU.out, HWW.out _ HW.out⟩
theorem ExtText_14 (text more : ByteArray) (n bits high : Int) (bA : Option Addr) (bs : List Int) (bc : Nat) (kA : Option Addr) (kl kc : Nat) (w : World) (ht : text.size ≤ 300 ∧ utf8F text = true) :
  Calls Tryz.prog 22 #[.agg #[.int .i64 14, .string text, .string more, .int .i64 n, .int .u64 bits, .int .u64 high, .slice bA bs.length bc, .slice kA kl kc], .bool true, .bool true] w (TextOk (wrapL [36, 115, 121, 109, 98, 111, 108] (extStrF text true)) w) := by
 obtain ⟨W0, hW0, HB, HW, HW0, HWW, HQ⟩ := tx_env w (.int .i64 14) (.string text) (.string more) (.int .i64 n) (.int .u64 bits) (.int .u64 high) (.slice bA bs.length bc) (.slice kA kl kc) true
 have hmf := mk_func
 obtain ⟨q0, q1, q2, q3, q4, q5, q6, q7, q8⟩ := HQ.out _ HW.out
 have HS := Lib.hid (fun (W : World) (hc : W.cell? ⟨w.heap.size + 1, 0, none⟩ = some (.bool true)) => Str_calls text true (w.heap.size + 1) ht.1 ht.2 W hc)
 have HL : Hid ((extStrF text true).length ≤ 6 * text.size + 2) := extStrF_length true ht.2
 have ht1 := ht.1
 clear ht
 go_enter Tryz.func22, Tryz.ntmps22
 go_wp2_with fail
 refine (HS.out _ q8).mono ?_
 rintro e w1 ⟨⟨u1, rfl, hu1⟩, hw⟩
 have HU1 := Lib.hid hu1
 have hs1 : u1.size ≤ 1000000 := by rw [hu1.size]; have := HL.out; omega
 have n1 := HW.out.trans (hw.mono (Nat.le_trans HB.out HW.out.size))
 clear hw hu1
 clear q0 q1 q2 q3 q4 q5 q6 q7 q8 HW
 have HW := Lib.hid n1
 clear n1
 obtain ⟨q0, q1, q2, q3, q4, q5, q6, q7, q8⟩ := HQ.out _ HW.out
 go_wp2_with fail
 have := HL.out
 refine (Wrap_calls (StrIs.of [36, 115, 121, 109, 98, 111, 108]) (HU1.out) (by decide) (by first | omega | (simp only [List.length_append, List.length_cons, List.length_nil]; omega)) _).mono ?_
 rintro e wz ⟨u, rfl, hu, hwz⟩
 subst hwz
 have HU := Lib.hid hu
 clear hu
 go_wp2_with fail
 go_ret2
 exact ⟨_, rfl, HU.out, HWW.out _ HW.out⟩
theorem ExtText_9 (text more : ByteArray) (n bits high : Int) (bA : Option Addr) (bs : List Int) (bc : Nat) (kA : Option Addr) (kl kc : Nat) (w : World) (hE : ∀ W, Below w.heap.size w W → Pow10W W) (hn : -9223372036854775808 ≤ n ∧ n ≤ 9223372036854775807) :
  Calls Tryz.prog 22 #[.agg #[.int .i64 9, .string text, .string more, .int .i64 n, .int .u64 bits, .int .u64 high, .slice bA bs.length bc, .slice kA kl kc], .bool true, .bool true] w (TextOk (wrapL [36, 100, 97, 116, 101] ([123, 34, 36, 110, 117, 109, 98, 101, 114, 76, 111, 110, 103, 34, 58, 34] ++ numF n ++ [34, 125])) w) := by
 obtain ⟨W0, hW0, HB, HW, HW0, HWW, HQ⟩ := tx_env w (.int .i64 9) (.string text) (.string more) (.int .i64 n) (.int .u64 bits) (.int .u64 high) (.slice bA bs.length bc) (.slice kA kl kc) true
 have hmf := mk_func
 obtain ⟨q0, q1, q2, q3, q4, q5, q6, q7, q8⟩ := HQ.out _ HW.out
 have HE := Lib.hid hE
 clear hE
 have HN := Lib.hid (fun (W : World) (h : Pow10W W) => FormatInt_calls n hn.1 hn.2 W h)
 have HL : Hid ((numF n).length ≤ 21) := numF_len hn.1 hn.2
 clear hn
 go_enter Tryz.func22, Tryz.ntmps22
 go_wp2_with fail
 refine (HN.out _ (HE.out _ (HWW.out _ HW.out))).mono ?_
 rintro e w1 ⟨⟨u1, rfl, hu1⟩, hw⟩
 have HU1 := Lib.hid hu1
 have hs1 : u1.size ≤ 1000000 := by rw [hu1.size]; have := HL.out; omega
 have n1 := HW.out.trans (hw.mono (Nat.le_trans HB.out HW.out.size))
 clear hw hu1
 clear q0 q1 q2 q3 q4 q5 q6 q7 q8 HW
 have HW := Lib.hid n1
 clear n1
 obtain ⟨q0, q1, q2, q3, q4, q5, q6, q7, q8⟩ := HQ.out _ HW.out
 go_wp2_with fail
 have := HL.out
 refine (Wrap_calls (StrIs.of [36, 100, 97, 116, 101]) (((StrIs.of [123, 34, 36, 110, 117, 109, 98, 101, 114, 76, 111, 110, 103, 34, 58, 34]).append HU1.out).append (StrIs.of [34, 125])) (by decide) (by first | omega | (simp only [List.length_append, List.length_cons, List.length_nil]; omega)) _).mono ?_
 rintro e wz ⟨u, rfl, hu, hwz⟩
 subst hwz
 have HU := Lib.hid hu
 clear hu
 go_wp2_with fail
 go_ret2
 exact ⟨_, rfl, HU.out, HWW.out _ HW.out⟩
theorem ExtText_16 (text more : ByteArray) (n bits high : Int) (bA : Option Addr) (bs : List Int) (bc : Nat) (kA : Option Addr) (kl kc : Nat) (w : World) (hE : ∀ W, Below w.heap.size w W → Pow10W W) (hn : -9223372036854775808 ≤ n ∧ n ≤ 9223372036854775807) :
  Calls Tryz.prog 22 #[.agg #[.int .i64 16, .string text, .string more, .int .i64 n, .int .u64 bits, .int .u64 high, .slice bA bs.length bc, .slice kA kl kc], .bool true, .bool true] w (TextOk (wrapL [36, 110, 117, 109, 98, 101, 114, 73, 110, 116] ([34] ++ numF n ++ [34])) w) := by
 obtain ⟨W0, hW0, HB, HW, HW0, HWW, HQ⟩ := tx_env w (.int .i64 16) (.string text) (.string more) (.int .i64 n) (.int .u64 bits) (.int .u64 high) (.slice bA bs.length bc) (.slice kA kl kc) true
 have hmf := mk_func
 obtain ⟨q0, q1, q2, q3, q4, q5, q6, q7, q8⟩ := HQ.out _ HW.out
 have HE := Lib.hid hE
 clear hE
 have HN := Lib.hid (fun (W : World) (h : Pow10W W) => FormatInt_calls n hn.1 hn.2 W h)
 have HL : Hid ((numF n).length ≤ 21) := numF_len hn.1 hn.2
 clear hn
 go_enter Tryz.func22, Tryz.ntmps22
 go_wp2_with fail
 refine (HN.out _ (HE.out _ (HWW.out _ HW.out))).mono ?_
 rintro e w1 ⟨⟨u1, rfl, hu1⟩, hw⟩
 have HU1 := Lib.hid hu1
 have hs1 : u1.size ≤ 1000000 := by rw [hu1.size]; have := HL.out; omega
 have n1 := HW.out.trans (hw.mono (Nat.le_trans HB.out HW.out.size))
 clear hw hu1
 clear q0 q1 q2 q3 q4 q5 q6 q7 q8 HW
 have HW := Lib.hid n1
 clear n1
 obtain ⟨q0, q1, q2, q3, q4, q5, q6, q7, q8⟩ := HQ.out _ HW.out
 go_wp2_with fail
 have := HL.out
 refine (Wrap_calls (StrIs.of [36, 110, 117, 109, 98, 101, 114, 73, 110, 116]) (((StrIs.of [34]).append HU1.out).append (StrIs.of [34])) (by decide) (by first | omega | (simp only [List.length_append, List.length_cons, List.length_nil]; omega)) _).mono ?_
 rintro e wz ⟨u, rfl, hu, hwz⟩
 subst hwz
 have HU := Lib.hid hu
 clear hu
 go_wp2_with fail
 go_ret2
 exact ⟨_, rfl, HU.out, HWW.out _ HW.out⟩
theorem ExtText_18 (text more : ByteArray) (n bits high : Int) (bA : Option Addr) (bs : List Int) (bc : Nat) (kA : Option Addr) (kl kc : Nat) (w : World) (hE : ∀ W, Below w.heap.size w W → Pow10W W) (hn : -9223372036854775808 ≤ n ∧ n ≤ 9223372036854775807) :
  Calls Tryz.prog 22 #[.agg #[.int .i64 18, .string text, .string more, .int .i64 n, .int .u64 bits, .int .u64 high, .slice bA bs.length bc, .slice kA kl kc], .bool true, .bool true] w (TextOk (wrapL [36, 110, 117, 109, 98, 101, 114, 76, 111, 110, 103] ([34] ++ numF n ++ [34])) w) := by
 obtain ⟨W0, hW0, HB, HW, HW0, HWW, HQ⟩ := tx_env w (.int .i64 18) (.string text) (.string more) (.int .i64 n) (.int .u64 bits) (.int .u64 high) (.slice bA bs.length bc) (.slice kA kl kc) true
 have hmf := mk_func
 obtain ⟨q0, q1, q2, q3, q4, q5, q6, q7, q8⟩ := HQ.out _ HW.out
 have HE := Lib.hid hE
 clear hE
 have HN := Lib.hid (fun (W : World) (h : Pow10W W) => FormatInt_calls n hn.1 hn.2 W h)
 have HL : Hid ((numF n).length ≤ 21) := numF_len hn.1 hn.2
 clear hn
 go_enter Tryz.func22, Tryz.ntmps22
 go_wp2_with fail
 refine (HN.out _ (HE.out _ (HWW.out _ HW.out))).mono ?_
 rintro e w1 ⟨⟨u1, rfl, hu1⟩, hw⟩
 have HU1 := Lib.hid hu1
 have hs1 : u1.size ≤ 1000000 := by rw [hu1.size]; have := HL.out; omega
 have n1 := HW.out.trans (hw.mono (Nat.le_trans HB.out HW.out.size))
 clear hw hu1
 clear q0 q1 q2 q3 q4 q5 q6 q7 q8 HW
 have HW := Lib.hid n1
 clear n1
 obtain ⟨q0, q1, q2, q3, q4, q5, q6, q7, q8⟩ := HQ.out _ HW.out
 go_wp2_with fail
 have := HL.out
 refine (Wrap_calls (StrIs.of [36, 110, 117, 109, 98, 101, 114, 76, 111, 110, 103]) (((StrIs.of [34]).append HU1.out).append (StrIs.of [34])) (by decide) (by first | omega | (simp only [List.length_append, List.length_cons, List.length_nil]; omega)) _).mono ?_
 rintro e wz ⟨u, rfl, hu, hwz⟩
 subst hwz
 have HU := Lib.hid hu
 clear hu
 go_wp2_with fail
 go_ret2
 exact ⟨_, rfl, HU.out, HWW.out _ HW.out⟩
theorem ExtText_7 (text more : ByteArray) (n bits high : Int) (bA : Option Addr) (bs : List Int) (bc : Nat) (kA : Option Addr) (kl kc : Nat) (w : World) (hb : bs.length = 12 ∧ ∀ x ∈ bs, 0 ≤ x ∧ x ≤ 255) (hR : ReadsInt w .u8 bA bs.length bs) :
  Calls Tryz.prog 22 #[.agg #[.int .i64 7, .string text, .string more, .int .i64 n, .int .u64 bits, .int .u64 high, .slice bA bs.length bc, .slice kA kl kc], .bool true, .bool true] w (TextOk (wrapL [36, 111, 105, 100] (quoL (hexL bs))) w) := by
 obtain ⟨W0, hW0, HB, HW, HW0, HWW, HQ⟩ := tx_env w (.int .i64 7) (.string text) (.string more) (.int .i64 n) (.int .u64 bits) (.int .u64 high) (.slice bA bs.length bc) (.slice kA kl kc) true
 have hmf := mk_func
 obtain ⟨q0, q1, q2, q3, q4, q5, q6, q7, q8⟩ := HQ.out _ HW.out
 have HI := Lib.hid (fun (W : World) (h : Below w.heap.size w W) => extID_calls bA bc bs hb.2 (by omega) W (hR.below h))
 have HL : Hid ((hexL bs).length = 24) := by have := hexL_length bs; show _ = _; omega
 clear hb hR
 go_enter Tryz.func22, Tryz.ntmps22
 go_wp2_with fail
 refine (HI.out _ (HWW.out _ HW.out)).mono ?_
 rintro e w1 ⟨u1, rfl, hu1, hw⟩
 have HU1 := Lib.hid hu1
 have hs1 : u1.size ≤ 1000000 := by rw [hu1.size]; have := HL.out; simp only [List.length_append, List.length_cons, List.length_nil]; omega
 have n1 := HW.out.trans (hw.mono (Nat.le_trans HB.out HW.out.size))
 clear hw hu1
 clear q0 q1 q2 q3 q4 q5 q6 q7 q8 HW
 have HW := Lib.hid n1
 clear n1
 obtain ⟨q0, q1, q2, q3, q4, q5, q6, q7, q8⟩ := HQ.out _ HW.out
 go_wp2_with fail
 have := HL.out
 refine (Wrap_calls (StrIs.of [36, 111, 105, 100]) (HU1.out) (by decide) (by first | omega | (simp only [List.length_append, List.length_cons, List.length_nil]; omega)) _).mono ?_
 rintro e wz ⟨u, rfl, hu, hwz⟩
 subst hwz
 have HU := Lib.hid hu
 clear hu
 go_wp2_with fail
 go_ret2
 exact ⟨_, rfl, HU.out, HWW.out _ HW.out⟩
theorem ExtText_19 (text more : ByteArray) (n bits high : Int) (bA : Option Addr) (bs : List Int) (bc : Nat) (kA : Option Addr) (kl kc : Nat) (w : World) (hb : 0 ≤ bits ∧ bits < 18446744073709551616) (hh : 0 ≤ high ∧ high < 18446744073709551616) :
  Calls Tryz.prog 22 #[.agg #[.int .i64 19, .string text, .string more, .int .i64 n, .int .u64 bits, .int .u64 high, .slice bA bs.length bc, .slice kA kl kc], .bool true, .bool true] w (TextOk (wrapL [36, 110, 117, 109, 98, 101, 114, 68, 101, 99, 105, 109, 97, 108] (quoL (decTextF (decKind high) (decNeg high) (decDig high bits) (decExp high)))) w) := by
 obtain ⟨W0, hW0, HB, HW, HW0, HWW, HQ⟩ := tx_env w (.int .i64 19) (.string text) (.string more) (.int .i64 n) (.int .u64 bits) (.int .u64 high) (.slice bA bs.length bc) (.slice kA kl kc) true
 have hmf := mk_func
 obtain ⟨q0, q1, q2, q3, q4, q5, q6, q7, q8⟩ := HQ.out _ HW.out
 have HD := Lib.hid (fun (W : World) => DecOf_calls high bits hh.1 hh.2 hb.1 hb.2 W)
 have hdl := decDig_length high bits hh.1 hh.2 hb.1 hb.2
 have hde : -100000 ≤ decExp high ∧ decExp high ≤ 100000 := by
  unfold decExp
  split
  ·omega
  ·split <;> omega
 have HT := Lib.hid (fun (u : ByteArray) (W : World) (hu : StrIs u (decDig high bits)) => DecText_calls (decKind high) (decNeg high) u (decDig high bits) (decExp high) (decKind_range high) (fun _ => hu) (hdl.2) (fun _ => by omega) hde.1 hde.2 W)
 have HL : Hid ((decTextF (decKind high) (decNeg high) (decDig high bits) (decExp high)).length ≤ 200) := decText_length hdl.1 hde.1 hde.2
 clear hb hh hdl hde
 go_enter Tryz.func22, Tryz.ntmps22
 go_wp2_with fail
 refine (HD.out _).mono ?_
 rintro e w1 ⟨u1, rfl, hu1, hw⟩
 have HU1 := Lib.hid hu1
 have n1 := HW.out.trans (hw.mono (Nat.le_trans HB.out HW.out.size))
 clear hw hu1
 clear q0 q1 q2 q3 q4 q5 q6 q7 q8 HW
 have HW := Lib.hid n1
 clear n1
 obtain ⟨q0, q1, q2, q3, q4, q5, q6, q7, q8⟩ := HQ.out _ HW.out
 go_wp2_with fail
 refine (HT.out _ _ HU1.out).mono ?_
 rintro e w2 ⟨u2, rfl, hu2, hw⟩
 have HU2 := Lib.hid hu2
 have hs2 : u2.size ≤ 1000000 := by rw [hu2.size]; have := HL.out; omega
 have n1 := HW.out.trans (hw.mono (Nat.le_trans HB.out HW.out.size))
 clear hw hu2
 clear q0 q1 q2 q3 q4 q5 q6 q7 q8 HW
 have HW := Lib.hid n1
 clear n1
 obtain ⟨q0, q1, q2, q3, q4, q5, q6, q7, q8⟩ := HQ.out _ HW.out
 go_wp2_with fail
 have := HL.out
 refine (Wrap_calls (StrIs.of [36, 110, 117, 109, 98, 101, 114, 68, 101, 99, 105, 109, 97, 108]) (((StrIs.of [34]).append HU2.out).append (StrIs.of [34])) (by decide) (by first | omega | (simp only [List.length_append, List.length_cons, List.length_nil]; omega)) _).mono ?_
 rintro e wz ⟨u, rfl, hu, hwz⟩
 subst hwz
 have HU := Lib.hid hu
 clear hu
 go_wp2_with fail
 go_ret2
 exact ⟨_, rfl, HU.out, HWW.out _ HW.out⟩
theorem ExtText_1 (text more : ByteArray) (n bits high : Int) (bA : Option Addr) (bs : List Int) (bc : Nat) (kA : Option Addr) (kl kc : Nat) (w : World) {x : List Int} (hD : ∀ W, Below w.heap.size w W → Calls Tryz.prog 49 #[.float .f64 bits.toNat] W (TextIs x W)) (hx : x.length ≤ 400) :
  Calls Tryz.prog 22 #[.agg #[.int .i64 1, .string text, .string more, .int .i64 n, .int .u64 bits, .int .u64 high, .slice bA bs.length bc, .slice kA kl kc], .bool true, .bool true] w (TextOk (wrapL [36, 110, 117, 109, 98, 101, 114, 68, 111, 117, 98, 108, 101] (quoL x)) w) := by
 obtain ⟨W0, hW0, HB, HW, HW0, HWW, HQ⟩ := tx_env w (.int .i64 1) (.string text) (.string more) (.int .i64 n) (.int .u64 bits) (.int .u64 high) (.slice bA bs.length bc) (.slice kA kl kc) true
 have hmf := mk_func
 obtain ⟨q0, q1, q2, q3, q4, q5, q6, q7, q8⟩ := HQ.out _ HW.out
 have HD := Lib.hid hD
 have HL := Lib.hid hx
 clear hD hx
 have hfb := fun (W : World) => frombits_run bits W
 go_enter Tryz.func22, Tryz.ntmps22
 go_wp2_with fail
 refine (HD.out _ (HWW.out _ HW.out)).mono ?_
 rintro e w1 ⟨rfl, hw⟩
 obtain ⟨u1, hu1⟩ : ∃ u, strOfNums x = u := ⟨_, rfl⟩
 have HU1 : Hid (StrIs u1 x) := by rw [← hu1]; exact .of _
 rw [hu1]
 clear hu1
 have hs1 : u1.size ≤ 1000000 := by rw [HU1.out.size]; have := HL.out; omega
 have n1 := HW.out.trans (hw.mono (Nat.le_trans HB.out HW.out.size))
 clear hw
 clear q0 q1 q2 q3 q4 q5 q6 q7 q8 HW
 have HW := Lib.hid n1
 clear n1
 obtain ⟨q0, q1, q2, q3, q4, q5, q6, q7, q8⟩ := HQ.out _ HW.out
 go_wp2_with fail
 have := HL.out
 refine (Wrap_calls (StrIs.of [36, 110, 117, 109, 98, 101, 114, 68, 111, 117, 98, 108, 101]) (((StrIs.of [34]).append HU1.out).append (StrIs.of [34])) (by decide) (by first | omega | (simp only [List.length_append, List.length_cons, List.length_nil]; omega)) _).mono ?_
 rintro e wz ⟨u, rfl, hu, hwz⟩
 subst hwz
 have HU := Lib.hid hu
 clear hu
 go_wp2_with fail
 go_ret2
 exact ⟨_, rfl, HU.out, HWW.out _ HW.out⟩
theorem ExtText_5 (text more : ByteArray) (n bits high : Int) (bA : Option Addr) (bs : List Int) (bc : Nat) (kA : Option Addr) (kl kc : Nat) (w : World) (hn : 0 ≤ n ∧ n ≤ 255) (hb : bs.length ≤ 300 ∧ ∀ x ∈ bs, 0 ≤ x ∧ x ≤ 255) (hR : ReadsInt w .u8 bA bs.length bs) :
  Calls Tryz.prog 22 #[.agg #[.int .i64 5, .string text, .string more, .int .i64 n, .int .u64 bits, .int .u64 high, .slice bA bs.length bc, .slice kA kl kc], .bool true, .bool true] w (TextOk (wrapL [36, 98, 105, 110, 97, 114, 121] ([123, 34, 98, 97, 115, 101, 54, 52, 34, 58, 34] ++ b64L bs ++ [34, 44, 34, 115, 117, 98, 84, 121, 112, 101, 34, 58, 34] ++ [hexd (n / 16), hexd (n % 16)] ++ [34, 125])) w) := by
 obtain ⟨W0, hW0, HB, HW, HW0, HWW, HQ⟩ := tx_env w (.int .i64 5) (.string text) (.string more) (.int .i64 n) (.int .u64 bits) (.int .u64 high) (.slice bA bs.length bc) (.slice kA kl kc) true
 have hmf := mk_func
 obtain ⟨q0, q1, q2, q3, q4, q5, q6, q7, q8⟩ := HQ.out _ HW.out
 have HC : Hid (∀ w', Below (w.heap.size + 2) W0 w' → Below (w.heap.size + 2) W0 w' ∧ w'.cell? ⟨w.heap.size, 0, none⟩ = some (.int .i64 5) ∧ w'.cell? ⟨w.heap.size, 1, none⟩ = some (.string text) ∧ w'.cell? ⟨w.heap.size, 2, none⟩ = some (.string more) ∧ w'.cell? ⟨w.heap.size, 3, none⟩ = some (.int .i64 n) ∧ w'.cell? ⟨w.heap.size, 4, none⟩ = some (.int .u64 bits) ∧ w'.cell? ⟨w.heap.size, 5, none⟩ = some (.int .u64 high) ∧ w'.cell? ⟨w.heap.size, 6, none⟩ = some (.slice bA bs.length bc) ∧ w'.cell? ⟨w.heap.size, 7, none⟩ = some (.slice kA kl kc) ∧ w'.cell? ⟨w.heap.size + 1, 0, none⟩ = some (.bool true)) := fun w' h => ⟨h, HQ.out _ h⟩
 have a0 : IntKind.u8.wrap n = n := by simp only [IntKind.wrap, IntKind.bits, IntKind.signed]; simp; omega
 have HF0 : Hid (∀ W, Below (w.heap.size + 2) W0 W → Calls Tryz.prog 53 #[.slice bA bs.length bc] W (TxtIs (b64L bs) W)) := fun W h => (ExtBase64_calls bA bc bs hb.2 (by omega) W (hR.below (HWW.out _ h))).mono fun e w' ⟨u, he, hu, hb⟩ => ⟨⟨u, he, hu⟩, hb⟩
 have HF1 : Hid (∀ W, Below (w.heap.size + 2) W0 W → Calls Tryz.prog 46 #[.int .u8 n] W (TxtIs [hexd (n / 16), hexd (n % 16)] W)) := fun W h => (extHex_calls n hn.1 hn.2 W).mono fun e w' ⟨u, he, hu, hb⟩ => ⟨⟨u, he, hu⟩, hb⟩
 have HL : Hid ((b64L bs).length ≤ 700) := by have := b64L_length bs; show _ ≤ _; omega
 clear hn hb hR
 go_enter Tryz.func22, Tryz.ntmps22
 have hap := @ByteArray.size_append
 go_wp2_with fail
 first | (go_must (go_region_held3 (fun w' => Below (w.heap.size + 2) W0 w' ∧ w'.cell? ⟨w.heap.size, 0, none⟩ = some (.int .i64 5) ∧ w'.cell? ⟨w.heap.size, 1, none⟩ = some (.string text) ∧ w'.cell? ⟨w.heap.size, 2, none⟩ = some (.string more) ∧ w'.cell? ⟨w.heap.size, 3, none⟩ = some (.int .i64 n) ∧ w'.cell? ⟨w.heap.size, 4, none⟩ = some (.int .u64 bits) ∧ w'.cell? ⟨w.heap.size, 5, none⟩ = some (.int .u64 high) ∧ w'.cell? ⟨w.heap.size, 6, none⟩ = some (.slice bA bs.length bc) ∧ w'.cell? ⟨w.heap.size, 7, none⟩ = some (.slice kA kl kc) ∧ w'.cell? ⟨w.heap.size + 1, 0, none⟩ = some (.bool true)) (first | assumption | exact HC.out _ (Below.refl _ _).drew | exact HC.out _ HP.out | exact HC.out _ HP.out.drew) (first | (go_at_call 53; go_must (first | (refine (HF0.out _ (And.left (by assumption : Below (w.heap.size + 2) W0 _ ∧ _))).mono ?_; rintro e w0 ⟨⟨u0, rfl, hu0⟩, hw⟩; have HU0 := Lib.hid hu0; have hs0 : u0.size ≤ 1000000 := (by rw [hu0.size]; have := HL.out; omega); have fa00 : (9223372036854775807 < 11 + u0.size) = False := eq_false (by omega); have fa01 : (9223372036854775807 < 11 + u0.size + 13) = False := eq_false (by omega); have HPP := Lib.hid ((And.left (by assumption : Below (w.heap.size + 2) W0 _ ∧ _)).trans (hw.mono (by have := (And.left (by assumption : Below (w.heap.size + 2) W0 _ ∧ _)).size; have := HB.out; omega))); (try clear HP); have HP := HPP; clear HPP hw hu0))) | (go_at_call 46; go_must (first | (refine (HF1.out _ (And.left (by assumption : Below (w.heap.size + 2) W0 _ ∧ _))).mono ?_; rintro e w1 ⟨⟨u1, rfl, hu1⟩, hw⟩; have HU1 := Lib.hid hu1; have hs1 : u1.size ≤ 1000000 := (by rw [hu1.size]; simp); have fa10 : (9223372036854775807 < 11 + u0.size + 13 + u1.size) = False := eq_false (by omega); have fa11 : (9223372036854775807 < 11 + u0.size + 13 + u1.size + 2) = False := eq_false (by omega); have HPP := Lib.hid ((And.left (by assumption : Below (w.heap.size + 2) W0 _ ∧ _)).trans (hw.mono (by have := (And.left (by assumption : Below (w.heap.size + 2) W0 _ ∧ _)).size; have := HB.out; omega))); (try clear HP); have HP := HPP; clear HPP hw hu1))) | (go_at_call 48; go_must (refine (Wrap_calls (StrIs.of [36, 98, 105, 110, 97, 114, 121]) ((((((StrIs.of [123, 34, 98, 97, 115, 101, 54, 52, 34, 58, 34]).append HU0.out).append (StrIs.of [34, 44, 34, 115, 117, 98, 84, 121, 112, 101, 34, 58, 34])).append HU1.out).append (StrIs.of [34, 125]))) (by decide) (by have := HL.out; simp only [List.length_append, List.length_cons, List.length_nil]; omega) _).mono ?_; rintro e wz ⟨u, rfl, hu, hwz⟩; subst hwz; have HU := Lib.hid hu; clear hu))))) | skip
 all_goals go_wp2_with fail
 all_goals go_ret2
 all_goals exact ⟨_, rfl, HU.out, HWW.out _ HP.out⟩
theorem ExtText_12 (text more : ByteArray) (n bits high : Int) (bA : Option Addr) (bs : List Int) (bc : Nat) (kA : Option Addr) (kl kc : Nat) (w : World) (ht : text.size ≤ 300 ∧ utf8F text = true) (hb : bs.length = 12 ∧ ∀ x ∈ bs, 0 ≤ x ∧ x ≤ 255) (hR : ReadsInt w .u8 bA bs.length bs) :
  Calls Tryz.prog 22 #[.agg #[.int .i64 12, .string text, .string more, .int .i64 n, .int .u64 bits, .int .u64 high, .slice bA bs.length bc, .slice kA kl kc], .bool true, .bool true] w (TextOk (wrapL [36, 100, 98, 80, 111, 105, 110, 116, 101, 114] ([123, 34, 36, 114, 101, 102, 34, 58] ++ extStrF text true ++ [44, 34, 36, 105, 100, 34, 58, 123, 34, 36, 111, 105, 100, 34, 58] ++ quoL (hexL bs) ++ [125, 125])) w) := by
 obtain ⟨W0, hW0, HB, HW, HW0, HWW, HQ⟩ := tx_env w (.int .i64 12) (.string text) (.string more) (.int .i64 n) (.int .u64 bits) (.int .u64 high) (.slice bA bs.length bc) (.slice kA kl kc) true
 have hmf := mk_func
 obtain ⟨q0, q1, q2, q3, q4, q5, q6, q7, q8⟩ := HQ.out _ HW.out
 have HC : Hid (∀ w', Below (w.heap.size + 2) W0 w' → Below (w.heap.size + 2) W0 w' ∧ w'.cell? ⟨w.heap.size, 0, none⟩ = some (.int .i64 12) ∧ w'.cell? ⟨w.heap.size, 1, none⟩ = some (.string text) ∧ w'.cell? ⟨w.heap.size, 2, none⟩ = some (.string more) ∧ w'.cell? ⟨w.heap.size, 3, none⟩ = some (.int .i64 n) ∧ w'.cell? ⟨w.heap.size, 4, none⟩ = some (.int .u64 bits) ∧ w'.cell? ⟨w.heap.size, 5, none⟩ = some (.int .u64 high) ∧ w'.cell? ⟨w.heap.size, 6, none⟩ = some (.slice bA bs.length bc) ∧ w'.cell? ⟨w.heap.size, 7, none⟩ = some (.slice kA kl kc) ∧ w'.cell? ⟨w.heap.size + 1, 0, none⟩ = some (.bool true)) := fun w' h => ⟨h, HQ.out _ h⟩
 have HF0 : Hid (∀ W, Below (w.heap.size + 2) W0 W → Calls Tryz.prog 47 #[.string text, .pointer (some ⟨w.heap.size + 1, 0, none⟩)] W (TxtIs (extStrF text true) W)) := fun W h => Str_calls text true (w.heap.size + 1) ht.1 ht.2 W (HQ.out W h).2.2.2.2.2.2.2.2
 have HF1 : Hid (∀ W, Below (w.heap.size + 2) W0 W → Calls Tryz.prog 54 #[.slice bA bs.length bc] W (TxtIs (quoL (hexL bs)) W)) := fun W h => (extID_calls bA bc bs hb.2 (by omega) W (hR.below (HWW.out _ h))).mono fun e w' ⟨u, he, hu, hb⟩ => ⟨⟨u, he, hu⟩, hb⟩
 have HL : Hid ((extStrF text true).length ≤ 2000 ∧ (quoL (hexL bs)).length ≤ 100) := ⟨by have := extStrF_length true ht.2; omega, by have := hexL_length bs; simp only [quoL, List.length_append, List.length_cons, List.length_nil]; omega⟩
 clear hb hR ht
 go_enter Tryz.func22, Tryz.ntmps22
 have hap := @ByteArray.size_append
 go_wp2_with fail
 first | (go_must (go_region_held3 (fun w' => Below (w.heap.size + 2) W0 w' ∧ w'.cell? ⟨w.heap.size, 0, none⟩ = some (.int .i64 12) ∧ w'.cell? ⟨w.heap.size, 1, none⟩ = some (.string text) ∧ w'.cell? ⟨w.heap.size, 2, none⟩ = some (.string more) ∧ w'.cell? ⟨w.heap.size, 3, none⟩ = some (.int .i64 n) ∧ w'.cell? ⟨w.heap.size, 4, none⟩ = some (.int .u64 bits) ∧ w'.cell? ⟨w.heap.size, 5, none⟩ = some (.int .u64 high) ∧ w'.cell? ⟨w.heap.size, 6, none⟩ = some (.slice bA bs.length bc) ∧ w'.cell? ⟨w.heap.size, 7, none⟩ = some (.slice kA kl kc) ∧ w'.cell? ⟨w.heap.size + 1, 0, none⟩ = some (.bool true)) (first | assumption | exact HC.out _ (Below.refl _ _).drew | exact HC.out _ HP.out | exact HC.out _ HP.out.drew) (first | (go_at_call 47; go_must (first | (refine (HF0.out _ (And.left (by assumption : Below (w.heap.size + 2) W0 _ ∧ _))).mono ?_; rintro e w0 ⟨⟨u0, rfl, hu0⟩, hw⟩; have HU0 := Lib.hid hu0; have hs0 : u0.size ≤ 1000000 := (by rw [hu0.size]; have := HL.out; omega); have fa00 : (9223372036854775807 < 8 + u0.size) = False := eq_false (by omega); have fa01 : (9223372036854775807 < 8 + u0.size + 15) = False := eq_false (by omega); have HPP := Lib.hid ((And.left (by assumption : Below (w.heap.size + 2) W0 _ ∧ _)).trans (hw.mono (by have := (And.left (by assumption : Below (w.heap.size + 2) W0 _ ∧ _)).size; have := HB.out; omega))); (try clear HP); have HP := HPP; clear HPP hw hu0))) | (go_at_call 54; go_must (first | (refine (HF1.out _ (And.left (by assumption : Below (w.heap.size + 2) W0 _ ∧ _))).mono ?_; rintro e w1 ⟨⟨u1, rfl, hu1⟩, hw⟩; have HU1 := Lib.hid hu1; have hs1 : u1.size ≤ 1000000 := (by rw [hu1.size]; have := HL.out; show (quoL (hexL bs)).length ≤ _; omega); have fa10 : (9223372036854775807 < 8 + u0.size + 15 + u1.size) = False := eq_false (by omega); have fa11 : (9223372036854775807 < 8 + u0.size + 15 + u1.size + 2) = False := eq_false (by omega); have HPP := Lib.hid ((And.left (by assumption : Below (w.heap.size + 2) W0 _ ∧ _)).trans (hw.mono (by have := (And.left (by assumption : Below (w.heap.size + 2) W0 _ ∧ _)).size; have := HB.out; omega))); (try clear HP); have HP := HPP; clear HPP hw hu1))) | (go_at_call 48; go_must (refine (Wrap_calls (StrIs.of [36, 100, 98, 80, 111, 105, 110, 116, 101, 114]) ((((((StrIs.of [123, 34, 36, 114, 101, 102, 34, 58]).append HU0.out).append (StrIs.of [44, 34, 36, 105, 100, 34, 58, 123, 34, 36, 111, 105, 100, 34, 58])).append HU1.out).append (StrIs.of [125, 125]))) (by decide) (by have := HL.out; simp only [List.length_append, List.length_cons, List.length_nil]; omega) _).mono ?_; rintro e wz ⟨u, rfl, hu, hwz⟩; subst hwz; have HU := Lib.hid hu; clear hu))))) | skip
 all_goals go_wp2_with fail
 all_goals go_ret2
 all_goals exact ⟨_, rfl, HU.out, HWW.out _ HP.out⟩
theorem ExtText_11 (text more : ByteArray) (n bits high : Int) (bA : Option Addr) (bs : List Int) (bc : Nat) (kA : Option Addr) (kl kc : Nat) (w : World) (ht : text.size ≤ 300 ∧ utf8F text = true) (hm : more.size ≤ 300 ∧ utf8F more = true) (hr : ∀ j, j < more.size → 97 ≤ bt more j ∧ bt more j ≤ 122 ∧ (0 < j → bt more (j - 1) ≤ bt more j)) :
  Calls Tryz.prog 22 #[.agg #[.int .i64 11, .string text, .string more, .int .i64 n, .int .u64 bits, .int .u64 high, .slice bA bs.length bc, .slice kA kl kc], .bool true, .bool true] w (TextOk (wrapL [36, 114, 101, 103, 117, 108, 97, 114, 69, 120, 112, 114, 101, 115, 115, 105, 111, 110] ([123, 34, 112, 97, 116, 116, 101, 114, 110, 34, 58] ++ extStrF text true ++ [44, 34, 111, 112, 116, 105, 111, 110, 115, 34, 58] ++ extStrF more true ++ [125])) w) := by
 obtain ⟨W0, hW0, HB, HW, HW0, HWW, HQ⟩ := tx_env w (.int .i64 11) (.string text) (.string more) (.int .i64 n) (.int .u64 bits) (.int .u64 high) (.slice bA bs.length bc) (.slice kA kl kc) true
 have hmf := mk_func
 obtain ⟨q0, q1, q2, q3, q4, q5, q6, q7, q8⟩ := HQ.out _ HW.out
 have HC : Hid (∀ w', Below (w.heap.size + 2) W0 w' → Below (w.heap.size + 2) W0 w' ∧ w'.cell? ⟨w.heap.size, 0, none⟩ = some (.int .i64 11) ∧ w'.cell? ⟨w.heap.size, 1, none⟩ = some (.string text) ∧ w'.cell? ⟨w.heap.size, 2, none⟩ = some (.string more) ∧ w'.cell? ⟨w.heap.size, 3, none⟩ = some (.int .i64 n) ∧ w'.cell? ⟨w.heap.size, 4, none⟩ = some (.int .u64 bits) ∧ w'.cell? ⟨w.heap.size, 5, none⟩ = some (.int .u64 high) ∧ w'.cell? ⟨w.heap.size, 6, none⟩ = some (.slice bA bs.length bc) ∧ w'.cell? ⟨w.heap.size, 7, none⟩ = some (.slice kA kl kc) ∧ w'.cell? ⟨w.heap.size + 1, 0, none⟩ = some (.bool true)) := fun w' h => ⟨h, HQ.out _ h⟩
 have HF0 : Hid (∀ W, Below (w.heap.size + 2) W0 W → Calls Tryz.prog 47 #[.string text, .pointer (some ⟨w.heap.size + 1, 0, none⟩)] W (TxtIs (extStrF text true) W)) := fun W h => Str_calls text true (w.heap.size + 1) ht.1 ht.2 W (HQ.out W h).2.2.2.2.2.2.2.2
 have HF1 : Hid (∀ W, Below (w.heap.size + 2) W0 W → Calls Tryz.prog 56 #[.string more] W (TxtIs (bytesOf more) W)) := fun W h => (extSorted_exact more (by omega) (fun k h0 h1 => by rw [rd_btx more (k - 1) (by omega), rd_btx more k h1]; exact (hr k h1).2.2 h0) W).mono fun e w' ⟨u, he, hu, hb⟩ => ⟨⟨u, he, hu⟩, hb⟩
 have HF2 : Hid (∀ W (v : ByteArray), StrIs v (bytesOf more) → Below (w.heap.size + 2) W0 W → Calls Tryz.prog 47 #[.string v, .pointer (some ⟨w.heap.size + 1, 0, none⟩)] W (TxtIs (extStrF more true) W)) := fun W v hv h => by
  have e : v = more := hv.out.trans (strIs_bytes more).out.symm
  rw [e]
  exact Str_calls more true (w.heap.size + 1) hm.1 hm.2 W (HQ.out W h).2.2.2.2.2.2.2.2
 have HL : Hid ((extStrF text true).length ≤ 2000 ∧ (extStrF more true).length ≤ 2000 ∧ (bytesOf more).length ≤ 300) := ⟨by have := extStrF_length true ht.2; omega, by have := extStrF_length true hm.2; omega, by rw [bytesOf_length]; exact hm.1⟩
 clear hm hr ht
 go_enter Tryz.func22, Tryz.ntmps22
 have hap := @ByteArray.size_append
 go_wp2_with fail
 first | (go_must (go_region_held3 (fun w' => Below (w.heap.size + 2) W0 w' ∧ w'.cell? ⟨w.heap.size, 0, none⟩ = some (.int .i64 11) ∧ w'.cell? ⟨w.heap.size, 1, none⟩ = some (.string text) ∧ w'.cell? ⟨w.heap.size, 2, none⟩ = some (.string more) ∧ w'.cell? ⟨w.heap.size, 3, none⟩ = some (.int .i64 n) ∧ w'.cell? ⟨w.heap.size, 4, none⟩ = some (.int .u64 bits) ∧ w'.cell? ⟨w.heap.size, 5, none⟩ = some (.int .u64 high) ∧ w'.cell? ⟨w.heap.size, 6, none⟩ = some (.slice bA bs.length bc) ∧ w'.cell? ⟨w.heap.size, 7, none⟩ = some (.slice kA kl kc) ∧ w'.cell? ⟨w.heap.size + 1, 0, none⟩ = some (.bool true)) (first | assumption | exact HC.out _ (Below.refl _ _).drew | exact HC.out _ HP.out | exact HC.out _ HP.out.drew) (first | (go_at_call 47; go_must (first | (refine (HF0.out _ (And.left (by assumption : Below (w.heap.size + 2) W0 _ ∧ _))).mono ?_; rintro e w0 ⟨⟨u0, rfl, hu0⟩, hw⟩; have HU0 := Lib.hid hu0; have hs0 : u0.size ≤ 1000000 := (by rw [hu0.size]; have := HL.out; omega); have fa00 : (9223372036854775807 < 11 + u0.size) = False := eq_false (by omega); have fa01 : (9223372036854775807 < 11 + u0.size + 11) = False := eq_false (by omega); have HPP := Lib.hid ((And.left (by assumption : Below (w.heap.size + 2) W0 _ ∧ _)).trans (hw.mono (by have := (And.left (by assumption : Below (w.heap.size + 2) W0 _ ∧ _)).size; have := HB.out; omega))); (try clear HP); have HP := HPP; clear HPP hw hu0) | (refine ((HF2.out _ _ HU1.out) (And.left (by assumption : Below (w.heap.size + 2) W0 _ ∧ _))).mono ?_; rintro e w2 ⟨⟨u2, rfl, hu2⟩, hw⟩; have HU2 := Lib.hid hu2; have hs2 : u2.size ≤ 1000000 := (by rw [hu2.size]; have := HL.out; omega); have fa20 : (9223372036854775807 < 11 + u0.size + 11 + u2.size) = False := eq_false (by omega); have fa21 : (9223372036854775807 < 11 + u0.size + 11 + u2.size + 1) = False := eq_false (by omega); have HPP := Lib.hid ((And.left (by assumption : Below (w.heap.size + 2) W0 _ ∧ _)).trans (hw.mono (by have := (And.left (by assumption : Below (w.heap.size + 2) W0 _ ∧ _)).size; have := HB.out; omega))); (try clear HP); have HP := HPP; clear HPP hw hu2))) | (go_at_call 56; go_must (first | (refine (HF1.out _ (And.left (by assumption : Below (w.heap.size + 2) W0 _ ∧ _))).mono ?_; rintro e w1 ⟨⟨u1, rfl, hu1⟩, hw⟩; have HU1 := Lib.hid hu1; have hs1 : u1.size ≤ 1000000 := (by rw [hu1.size]; have := HL.out; omega); have HPP := Lib.hid ((And.left (by assumption : Below (w.heap.size + 2) W0 _ ∧ _)).trans (hw.mono (by have := (And.left (by assumption : Below (w.heap.size + 2) W0 _ ∧ _)).size; have := HB.out; omega))); (try clear HP); have HP := HPP; clear HPP hw hu1))) | (go_at_call 48; go_must (refine (Wrap_calls (StrIs.of [36, 114, 101, 103, 117, 108, 97, 114, 69, 120, 112, 114, 101, 115, 115, 105, 111, 110]) ((((((StrIs.of [123, 34, 112, 97, 116, 116, 101, 114, 110, 34, 58]).append HU0.out).append (StrIs.of [44, 34, 111, 112, 116, 105, 111, 110, 115, 34, 58])).append HU2.out).append (StrIs.of [125]))) (by decide) (by have := HL.out; simp only [List.length_append, List.length_cons, List.length_nil]; omega) _).mono ?_; rintro e wz ⟨u, rfl, hu, hwz⟩; subst hwz; have HU := Lib.hid hu; clear hu))))) | skip
 all_goals go_wp2_with fail
 all_goals go_ret2
 all_goals exact ⟨_, rfl, HU.out, HWW.out _ HP.out⟩
theorem ExtText_17 (text more : ByteArray) (n bits high : Int) (bA : Option Addr) (bs : List Int) (bc : Nat) (kA : Option Addr) (kl kc : Nat) (w : World) (hE : ∀ W, Below w.heap.size w W → Pow10W W) (hb : 0 ≤ bits ∧ bits < 18446744073709551616) :
  Calls Tryz.prog 22 #[.agg #[.int .i64 17, .string text, .string more, .int .i64 n, .int .u64 bits, .int .u64 high, .slice bA bs.length bc, .slice kA kl kc], .bool true, .bool true] w (TextOk (wrapL [36, 116, 105, 109, 101, 115, 116, 97, 109, 112] ([123, 34, 116, 34, 58] ++ digs (bits / 4294967296).toNat ++ [44, 34, 105, 34, 58] ++ digs (bits % 4294967296).toNat ++ [125])) w) := by
 obtain ⟨W0, hW0, HB, HW, HW0, HWW, HQ⟩ := tx_env w (.int .i64 17) (.string text) (.string more) (.int .i64 n) (.int .u64 bits) (.int .u64 high) (.slice bA bs.length bc) (.slice kA kl kc) true
 have hmf := mk_func
 obtain ⟨q0, q1, q2, q3, q4, q5, q6, q7, q8⟩ := HQ.out _ HW.out
 have HC : Hid (∀ w', Below (w.heap.size + 2) W0 w' → Below (w.heap.size + 2) W0 w' ∧ w'.cell? ⟨w.heap.size, 0, none⟩ = some (.int .i64 17) ∧ w'.cell? ⟨w.heap.size, 1, none⟩ = some (.string text) ∧ w'.cell? ⟨w.heap.size, 2, none⟩ = some (.string more) ∧ w'.cell? ⟨w.heap.size, 3, none⟩ = some (.int .i64 n) ∧ w'.cell? ⟨w.heap.size, 4, none⟩ = some (.int .u64 bits) ∧ w'.cell? ⟨w.heap.size, 5, none⟩ = some (.int .u64 high) ∧ w'.cell? ⟨w.heap.size, 6, none⟩ = some (.slice bA bs.length bc) ∧ w'.cell? ⟨w.heap.size, 7, none⟩ = some (.slice kA kl kc) ∧ w'.cell? ⟨w.heap.size + 1, 0, none⟩ = some (.bool true)) := fun w' h => ⟨h, HQ.out _ h⟩
 have a0 : Go.bits .and .u64 bits 4294967295 = bits % 4294967296 := bits_mask .u64 64 (by decide) wraps_u64 32 (by decide) bits hb.1 (by omega)
 have HF0 : Hid (∀ W, Below (w.heap.size + 2) W0 W → Calls Tryz.prog 57 #[.int .u64 (bits / 4294967296), .int .i64 10] W (TxtIs (digs (bits / 4294967296).toNat) W)) := fun W h => by
  have := FormatUint_calls (bits / 4294967296).toNat (by omega) W (hE _ (HWW.out _ h))
  rwa [Int.toNat_of_nonneg (by omega)] at this
 have HF1 : Hid (∀ W, Below (w.heap.size + 2) W0 W → Calls Tryz.prog 57 #[.int .u64 (bits % 4294967296), .int .i64 10] W (TxtIs (digs (bits % 4294967296).toNat) W)) := fun W h => by
  have := FormatUint_calls (bits % 4294967296).toNat (by omega) W (hE _ (HWW.out _ h))
  rwa [Int.toNat_of_nonneg (by omega)] at this
 have HL : Hid ((digs (bits / 4294967296).toNat).length ≤ 20 ∧ (digs (bits % 4294967296).toNat).length ≤ 20) := ⟨digs_len20 (by have e : (10 : Nat) ^ 20 = 100000000000000000000 := (by decide); omega), digs_len20 (by have e : (10 : Nat) ^ 20 = 100000000000000000000 := (by decide); omega)⟩
 clear hE hb
 go_enter Tryz.func22, Tryz.ntmps22
 have hap := @ByteArray.size_append
 go_wp2_with fail
 first | (go_must (go_region_held3 (fun w' => Below (w.heap.size + 2) W0 w' ∧ w'.cell? ⟨w.heap.size, 0, none⟩ = some (.int .i64 17) ∧ w'.cell? ⟨w.heap.size, 1, none⟩ = some (.string text) ∧ w'.cell? ⟨w.heap.size, 2, none⟩ = some (.string more) ∧ w'.cell? ⟨w.heap.size, 3, none⟩ = some (.int .i64 n) ∧ w'.cell? ⟨w.heap.size, 4, none⟩ = some (.int .u64 bits) ∧ w'.cell? ⟨w.heap.size, 5, none⟩ = some (.int .u64 high) ∧ w'.cell? ⟨w.heap.size, 6, none⟩ = some (.slice bA bs.length bc) ∧ w'.cell? ⟨w.heap.size, 7, none⟩ = some (.slice kA kl kc) ∧ w'.cell? ⟨w.heap.size + 1, 0, none⟩ = some (.bool true)) (first | assumption | exact HC.out _ (Below.refl _ _).drew | exact HC.out _ HP.out | exact HC.out _ HP.out.drew) (first | (go_at_call 57; go_must (first | (refine (HF0.out _ (And.left (by assumption : Below (w.heap.size + 2) W0 _ ∧ _))).mono ?_; rintro e w0 ⟨⟨u0, rfl, hu0⟩, hw⟩; have HU0 := Lib.hid hu0; have hs0 : u0.size ≤ 1000000 := (by rw [hu0.size]; have := HL.out; omega); have fa00 : (9223372036854775807 < 5 + u0.size) = False := eq_false (by omega); have fa01 : (9223372036854775807 < 5 + u0.size + 5) = False := eq_false (by omega); have HPP := Lib.hid ((And.left (by assumption : Below (w.heap.size + 2) W0 _ ∧ _)).trans (hw.mono (by have := (And.left (by assumption : Below (w.heap.size + 2) W0 _ ∧ _)).size; have := HB.out; omega))); (try clear HP); have HP := HPP; clear HPP hw hu0) | (refine (HF1.out _ (And.left (by assumption : Below (w.heap.size + 2) W0 _ ∧ _))).mono ?_; rintro e w1 ⟨⟨u1, rfl, hu1⟩, hw⟩; have HU1 := Lib.hid hu1; have hs1 : u1.size ≤ 1000000 := (by rw [hu1.size]; have := HL.out; omega); have fa10 : (9223372036854775807 < 5 + u0.size + 5 + u1.size) = False := eq_false (by omega); have fa11 : (9223372036854775807 < 5 + u0.size + 5 + u1.size + 1) = False := eq_false (by omega); have HPP := Lib.hid ((And.left (by assumption : Below (w.heap.size + 2) W0 _ ∧ _)).trans (hw.mono (by have := (And.left (by assumption : Below (w.heap.size + 2) W0 _ ∧ _)).size; have := HB.out; omega))); (try clear HP); have HP := HPP; clear HPP hw hu1))) | (go_at_call 48; go_must (refine (Wrap_calls (StrIs.of [36, 116, 105, 109, 101, 115, 116, 97, 109, 112]) ((((((StrIs.of [123, 34, 116, 34, 58]).append HU0.out).append (StrIs.of [44, 34, 105, 34, 58])).append HU1.out).append (StrIs.of [125]))) (by decide) (by have := HL.out; simp only [List.length_append, List.length_cons, List.length_nil]; omega) _).mono ?_; rintro e wz ⟨u, rfl, hu, hwz⟩; subst hwz; have HU := Lib.hid hu; clear hu))))) | skip
 all_goals go_wp2_with fail
 all_goals go_ret2
 all_goals exact ⟨_, rfl, HU.out, HWW.out _ HP.out⟩
end Go.Proofs.YtkeakdjbidbegaaGreatDoor
