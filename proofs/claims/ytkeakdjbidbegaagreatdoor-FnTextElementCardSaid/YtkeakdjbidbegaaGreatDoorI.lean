/- A part of the proof that laws.FnTextElement returns true at every input: Doc1, Doc2, Doc3, Doc4, Doc5, Long, Llen. -/
import Derived.Test.YtkeakdjbidbegaaGreatDoorC
import Derived.Test.YtkeakdjbidbegaaGreatDoorA
import Derived.BigQuiet
import Derived.Deep.RegionHeld3
import Derived.Deep.DeepMust
import Derived.Test.YtkeakdjbidbegaaGreatDoorCb
set_option linter.unusedSimpArgs false
set_option linter.unusedVariables false
set_option maxRecDepth 100000
set_option maxHeartbeats 8000000
namespace Go.Proofs.YtkeakdjbidbegaaGreatDoor
open Go.RowKit
open Go.Proofs.YtkeakdjbidbegaaGreatDoorW.PrintWords
def Grew (base : Nat) (w : World) (xs ys : List Int) (e : Ending) (w' : World) : Prop := ∃ v', e = .returned v' ∧ Own w' base v' (xs ++ ys) ∧ Below base w w'
theorem u8_wrap (n : Int) : IntKind.u8.wrap n = n % 256 := by
 simp only [IntKind.wrap, IntKind.bits, IntKind.signed]; simp
theorem leI4 (n : Int) : leI 4 n = [n % 256, n / 256 % 256, n / 65536 % 256, n / 16777216 % 256] := by
 unfold leI leI leI leI leI
 have e1 : n / 256 / 256 = n / 65536 := by omega
 have e2 : n / 256 / 256 / 256 = n / 16777216 := by omega
 rw [e2, e1]
theorem leI_snoc : ∀ (k : Nat) (n : Int), leI (k + 1) n = leI k n ++ [n / 256 ^ k % 256]
 | 0, n => by simp [leI]
 | k + 1, n => by
  show n % 256 :: leI (k + 1) (n / 256) = n % 256 :: leI k (n / 256) ++ _
  rw [leI_snoc k (n / 256), Int.ediv_ediv_of_nonneg (by decide), ← Int.pow_succ']
  rfl
theorem own_cast {W : World} {base : Nat} {v : Value} {xs ys : List Int} (h : Own W base v xs) (e : xs = ys) : Own W base v ys := e ▸ h
theorem DocInt32_calls (n : Int) (h0 : -9223372036854775808 ≤ n) (h1 : n ≤ 9223372036854775807) (w : World) (base : Nat) (v : Value) (xs : List Int) (hx : xs.length ≤ 100000000) (hO : Own w base v xs) (hb : base ≤ w.heap.size) :
  Calls Tryz.prog 26 #[v, .int .i64 n] w (Grew base w xs (leI 4 n)) := by
 have HO := Lib.hid hO
 have HB := Lib.hid hb
 clear hO hb
 rw [leI4]
 have w1 := u8_wrap n
 have w2 := u8_wrap (n / 256)
 have w3 := u8_wrap (n / 65536)
 have w4 := u8_wrap (n / 16777216)
 go_enter Tryz.func26, Tryz.ntmps26
 go_wp2_with (at_builtin; refine append_lit (w0 := w) base rfl (.tmp 5) (.tmp 17) rfl _ xs [n % 256, n / 256 % 256, n / 65536 % 256, n / 16777216 % 256] rfl rfl HO.out (Below.refl _ _) HB.out (by simp only [List.length_cons, List.length_nil]; omega) ?_; intro v1 w1 n0 n1 n2 n3; have H1 := Lib.hid n0; have H2 := Lib.hid n1; clear n0 n1 n2 n3)
 go_ret
 exact ⟨_, rfl, H1.out, H2.out⟩
theorem DocInt64_calls (n : Int) (h0 : 0 ≤ n) (h1 : n < 18446744073709551616) (w : World) (base : Nat) (v : Value) (xs : List Int) (hx : xs.length ≤ 100000000) (hO : Own w base v xs) (hb : base ≤ w.heap.size) :
  Calls Tryz.prog 23 #[v, .int .u64 n] w (Grew base w xs (leI 8 n)) := by
 have HO := Lib.hid hO
 have HB := Lib.hid hb
 have w1 := fun k : Int => u8_wrap k
 clear hO hb
 go_enter Tryz.func23, Tryz.ntmps23
 go_wp2
 go_loopw [0, 5] (fun r i wr => ∃ k : Nat, k ≤ 8 ∧ i = .int .i64 (8 * k : Nat) ∧ Hid (Own wr base r (xs ++ leI k n)) ∧ Hid (Below base w wr)) (fun _ i _ => 64 - (intOf i).toNat)
 case atStart => exact ⟨0, by omega, rfl, own_cast HO.out (by simp [leI]), Below.refl _ _⟩
 case round =>
  obtain ⟨k, hk, rfl, HR, HW⟩ := hrel
  have hlen := leI_length k n
  have HLE := Lib.hid hlen
  clear hlen
  by_cases hk8 : k = 8
  ·subst hk8
   go_wp2
   go_ret
   exact ⟨_, rfl, HR.out, HW.out⟩
  ·have hd : decide (((8 * k : Nat) : Int) < 64) = true := decide_eq_true (by omega)
   have hsn := Lib.hid (leI_snoc k n)
   have hk7 : k = 0 ∨ k = 1 ∨ k = 2 ∨ k = 3 ∨ k = 4 ∨ k = 5 ∨ k = 6 ∨ k = 7 := by omega
   clear hd hk hk8
   rcases hk7 with rfl | rfl | rfl | rfl | rfl | rfl | rfl | rfl
   ·have hq := Lib.hid (hsn.out.trans (show leI 0 n ++ [n / 256 ^ 0 % 256] = leI 0 n ++ [n % 256] by simp))
    go_wp2_with (at_builtin; refine append_lit (w0 := w) base rfl (.tmp 10) (.tmp 15) rfl _ _ [n % 256] rfl rfl HR.out HW.out (Nat.le_trans HB.out HW.out.size) (by rw [List.length_append, HLE.out]; simp only [List.length_cons, List.length_nil]; omega) ?_; intro v1 w1 n0 n1 n2 n3; clear HR HW; have HR := Lib.hid n0; have HW := Lib.hid n1; clear n0 n1 n2 n3)
    go_roundw
    case rel => exact ⟨1, by omega, rfl, own_cast HR.out (by rw [hq.out, List.append_assoc]), HW.out⟩
    case measure => simp [intOf]
   ·have hq := Lib.hid (hsn.out.trans (show leI 1 n ++ [n / 256 ^ 1 % 256] = leI 1 n ++ [n / 256 % 256] by simp))
    go_wp2_with (at_builtin; refine append_lit (w0 := w) base rfl (.tmp 10) (.tmp 15) rfl _ _ [n / 256 % 256] rfl rfl HR.out HW.out (Nat.le_trans HB.out HW.out.size) (by rw [List.length_append, HLE.out]; simp only [List.length_cons, List.length_nil]; omega) ?_; intro v1 w1 n0 n1 n2 n3; clear HR HW; have HR := Lib.hid n0; have HW := Lib.hid n1; clear n0 n1 n2 n3)
    go_roundw
    case rel => exact ⟨2, by omega, rfl, own_cast HR.out (by rw [hq.out, List.append_assoc]), HW.out⟩
    case measure => simp [intOf]
   ·have hq := Lib.hid (hsn.out.trans (show leI 2 n ++ [n / 256 ^ 2 % 256] = leI 2 n ++ [n / 65536 % 256] by simp))
    go_wp2_with (at_builtin; refine append_lit (w0 := w) base rfl (.tmp 10) (.tmp 15) rfl _ _ [n / 65536 % 256] rfl rfl HR.out HW.out (Nat.le_trans HB.out HW.out.size) (by rw [List.length_append, HLE.out]; simp only [List.length_cons, List.length_nil]; omega) ?_; intro v1 w1 n0 n1 n2 n3; clear HR HW; have HR := Lib.hid n0; have HW := Lib.hid n1; clear n0 n1 n2 n3)
    go_roundw
    case rel => exact ⟨3, by omega, rfl, own_cast HR.out (by rw [hq.out, List.append_assoc]), HW.out⟩
    case measure => simp [intOf]
   ·have hq := Lib.hid (hsn.out.trans (show leI 3 n ++ [n / 256 ^ 3 % 256] = leI 3 n ++ [n / 16777216 % 256] by simp))
    go_wp2_with (at_builtin; refine append_lit (w0 := w) base rfl (.tmp 10) (.tmp 15) rfl _ _ [n / 16777216 % 256] rfl rfl HR.out HW.out (Nat.le_trans HB.out HW.out.size) (by rw [List.length_append, HLE.out]; simp only [List.length_cons, List.length_nil]; omega) ?_; intro v1 w1 n0 n1 n2 n3; clear HR HW; have HR := Lib.hid n0; have HW := Lib.hid n1; clear n0 n1 n2 n3)
    go_roundw
    case rel => exact ⟨4, by omega, rfl, own_cast HR.out (by rw [hq.out, List.append_assoc]), HW.out⟩
    case measure => simp [intOf]
   ·have hq := Lib.hid (hsn.out.trans (show leI 4 n ++ [n / 256 ^ 4 % 256] = leI 4 n ++ [n / 4294967296 % 256] by simp))
    go_wp2_with (at_builtin; refine append_lit (w0 := w) base rfl (.tmp 10) (.tmp 15) rfl _ _ [n / 4294967296 % 256] rfl rfl HR.out HW.out (Nat.le_trans HB.out HW.out.size) (by rw [List.length_append, HLE.out]; simp only [List.length_cons, List.length_nil]; omega) ?_; intro v1 w1 n0 n1 n2 n3; clear HR HW; have HR := Lib.hid n0; have HW := Lib.hid n1; clear n0 n1 n2 n3)
    go_roundw
    case rel => exact ⟨5, by omega, rfl, own_cast HR.out (by rw [hq.out, List.append_assoc]), HW.out⟩
    case measure => simp [intOf]
   ·have hq := Lib.hid (hsn.out.trans (show leI 5 n ++ [n / 256 ^ 5 % 256] = leI 5 n ++ [n / 1099511627776 % 256] by simp))
    go_wp2_with (at_builtin; refine append_lit (w0 := w) base rfl (.tmp 10) (.tmp 15) rfl _ _ [n / 1099511627776 % 256] rfl rfl HR.out HW.out (Nat.le_trans HB.out HW.out.size) (by rw [List.length_append, HLE.out]; simp only [List.length_cons, List.length_nil]; omega) ?_; intro v1 w1 n0 n1 n2 n3; clear HR HW; have HR := Lib.hid n0; have HW := Lib.hid n1; clear n0 n1 n2 n3)
    go_roundw
    case rel => exact ⟨6, by omega, rfl, own_cast HR.out (by rw [hq.out, List.append_assoc]), HW.out⟩
    case measure => simp [intOf]
   ·have hq := Lib.hid (hsn.out.trans (show leI 6 n ++ [n / 256 ^ 6 % 256] = leI 6 n ++ [n / 281474976710656 % 256] by simp))
    go_wp2_with (at_builtin; refine append_lit (w0 := w) base rfl (.tmp 10) (.tmp 15) rfl _ _ [n / 281474976710656 % 256] rfl rfl HR.out HW.out (Nat.le_trans HB.out HW.out.size) (by rw [List.length_append, HLE.out]; simp only [List.length_cons, List.length_nil]; omega) ?_; intro v1 w1 n0 n1 n2 n3; clear HR HW; have HR := Lib.hid n0; have HW := Lib.hid n1; clear n0 n1 n2 n3)
    go_roundw
    case rel => exact ⟨7, by omega, rfl, own_cast HR.out (by rw [hq.out, List.append_assoc]), HW.out⟩
    case measure => simp [intOf]
   ·have hq := Lib.hid (hsn.out.trans (show leI 7 n ++ [n / 256 ^ 7 % 256] = leI 7 n ++ [n / 72057594037927936 % 256] by simp))
    go_wp2_with (at_builtin; refine append_lit (w0 := w) base rfl (.tmp 10) (.tmp 15) rfl _ _ [n / 72057594037927936 % 256] rfl rfl HR.out HW.out (Nat.le_trans HB.out HW.out.size) (by rw [List.length_append, HLE.out]; simp only [List.length_cons, List.length_nil]; omega) ?_; intro v1 w1 n0 n1 n2 n3; clear HR HW; have HR := Lib.hid n0; have HW := Lib.hid n1; clear n0 n1 n2 n3)
    go_roundw
    case rel => exact ⟨8, by omega, rfl, own_cast HR.out (by rw [hq.out, List.append_assoc]), HW.out⟩
    case measure => simp [intOf]
theorem docText_calls (s : ByteArray) (hs : s.size ≤ 300) (w : World) (base : Nat) (v : Value) (xs : List Int) (hx : xs.length ≤ 90000000) (hO : Own w base v xs) (hb : base ≤ w.heap.size) :
  Calls Tryz.prog 24 #[v, .string s] w (Grew base w xs (txtB s)) := by
 have HC := Lib.hid (DocInt32_calls (s.size + 1) (by omega) (by omega) w base v xs (by omega) hO hb)
 have HB := Lib.hid hb
 clear hO hb
 have HL := Lib.hid (leI_length 4 (s.size + 1))
 have hbl := Lib.hid (bytesOf_length s)
 go_enter Tryz.func24, Tryz.ntmps24
 go_wp2_with fail
 refine HC.out.mono ?_
 rintro e w1 ⟨v1, rfl, ho, hw⟩
 have HO := Lib.hid ho
 have HW := Lib.hid hw
 clear ho hw
 go_wp2_with (first | (at_builtin; refine append_str (w0 := w) base rfl (.tmp 10) (.tmp 11) rfl _ _ s rfl rfl HO.out HW.out (Nat.le_trans HB.out HW.out.size) (by rw [List.length_append, HL.out]; omega) ?_; intro v2 w2 n0 n1 n2; clear HO HW; have HO := Lib.hid n0; have HW := Lib.hid n1; clear n0 n1 n2) | (at_builtin; refine append_lit (w0 := w) base rfl (.tmp 13) (.tmp 14) rfl _ _ [0] rfl rfl HO.out HW.out (Nat.le_trans HB.out HW.out.size) (by rw [List.length_append, List.length_append, HL.out, hbl.out]; simp only [List.length_cons, List.length_nil]; omega) ?_; intro v3 w3 n0 n1 n2 n3; clear HO HW; have HO := Lib.hid n0; have HW := Lib.hid n1; clear n0 n1 n2 n3))
 go_ret
 exact ⟨_, rfl, own_cast HO.out (by unfold txtB; simp only [List.append_assoc]), HW.out⟩
theorem DocHead_calls (k : Int) (name : ByteArray) (hn : name.size ≤ 300) (w : World) :
  Calls Tryz.prog 13 #[.int .i64 k, .string name] w (Grew w.heap.size w [] (headB k name)) := by
 have w1 := u8_wrap k
 have hbl := Lib.hid (bytesOf_length name)
 have HO := Lib.hid (own_lit w w.heap.size 5 .u8 [k % 256] (Nat.le_refl _) (by simp))
 have HW : Hid (Below w.heap.size w (w.alloc (.cells (nums .u8 [k % 256]).toArray 5))) := (Below.refl _ _).alloc (Nat.le_refl _) _
 go_enter Tryz.func13, Tryz.ntmps13
 go_wp2_with (first | (at_builtin; refine append_str (w0 := w) w.heap.size rfl (.tmp 8) (.tmp 9) rfl _ [k % 256] name rfl rfl HO.out HW.out HW.out.size (by simp only [List.length_cons, List.length_nil]; omega) ?_; intro v2 w2 n0 n1 n2; clear HO HW; have HO := Lib.hid n0; have HW := Lib.hid n1; clear n0 n1 n2) | (at_builtin; refine append_lit (w0 := w) w.heap.size rfl (.tmp 11) (.tmp 12) rfl _ _ [0] rfl rfl HO.out HW.out HW.out.size (by rw [List.length_append, hbl.out]; simp only [List.length_cons, List.length_nil]; omega) ?_; intro v3 w3 n0 n1 n2 n3; clear HO HW; have HO := Lib.hid n0; have HW := Lib.hid n1; clear n0 n1 n2 n3))
 go_ret
 exact ⟨_, rfl, own_cast HO.out (by unfold headB; simp only [List.append_assoc, List.nil_append, List.cons_append]), HW.out⟩
theorem txtB_length (s : ByteArray) : (txtB s).length = s.size + 5 := by
 unfold txtB
 rw [List.length_append, List.length_append, leI_length, bytesOf_length]
 simp; omega
theorem own_base {W : World} {base b2 : Nat} {v : Value} {xs : List Int} (h : Own W base v xs) (hb : b2 ≤ base) : Own W b2 v xs := by
 refine ⟨h.1, ?_⟩
 rcases h.2 with hn | ⟨g, cap, cur, rfl, hg, rest⟩
 ·exact .inl hn
 ·exact .inr ⟨g, cap, cur, rfl, Nat.le_trans hb hg, rest⟩
theorem Grew.up {base b2 : Nat} {w w1 : World} {v : Value} {xs : List Int} {e : Ending} {w' : World} (he : e = .returned v) (ho : Own w' base v xs) (hb : b2 ≤ base) (hw : Below b2 w w') : Grew b2 w [] xs e w' := ⟨v, he, own_base ho hb, hw⟩
theorem leI8_wrap (n : Int) : leI 8 (n % 18446744073709551616) = leI 8 n := by
 unfold leI leI leI leI leI leI leI leI leI
 simp only [List.cons.injEq, and_true]
 omega
theorem doc_env (w : World) (c0 c1 c2 c3 c4 c5 c6 c7 : Value) : ∃ W0, w.alloc (.cells #[c0, c1, c2, c3, c4, c5, c6, c7] 26) = W0 ∧ Hid (W0.heap.size = w.heap.size + 1) ∧ Hid (w.heap.size + 1 ≤ W0.heap.size) ∧ Hid (Own W0 (w.heap.size + 1) (.slice none 0 0) []) ∧ Hid (Below (w.heap.size + 1) W0 W0) ∧ Hid (Below w.heap.size w W0) ∧ Hid (∀ W, Below (w.heap.size + 1) W0 W → Below w.heap.size w W) ∧
  Hid (∀ W, Below (w.heap.size + 1) W0 W → W.cell? ⟨w.heap.size, 0, none⟩ = some c0 ∧ W.cell? ⟨w.heap.size, 1, none⟩ = some c1 ∧ W.cell? ⟨w.heap.size, 2, none⟩ = some c2 ∧ W.cell? ⟨w.heap.size, 3, none⟩ = some c3 ∧ W.cell? ⟨w.heap.size, 4, none⟩ = some c4 ∧ W.cell? ⟨w.heap.size, 5, none⟩ = some c5 ∧ W.cell? ⟨w.heap.size, 6, none⟩ = some c6 ∧ W.cell? ⟨w.heap.size, 7, none⟩ = some c7) := by
 obtain ⟨W0, hW0⟩ : ∃ W, w.alloc (.cells #[c0, c1, c2, c3, c4, c5, c6, c7] 26) = W := ⟨_, rfl⟩
 have HZ : W0.heap.size = w.heap.size + 1 := by rw [← hW0]; simp
 have HW0 : Below w.heap.size w W0 := by rw [← hW0]; exact (Below.refl _ _).alloc (Nat.le_refl _) _
 refine ⟨W0, hW0, HZ, Nat.le_of_eq HZ.symm, own_nil _ _ _ _, Below.refl _ _, HW0, fun W h => HW0.trans (h.mono (by omega)), fun W h => ?_⟩
 refine ⟨?_, ?_, ?_, ?_, ?_, ?_, ?_, ?_⟩ <;> exact (h.cell (p := ⟨w.heap.size, _, none⟩) (by simp)).trans (by rw [← hW0]; simp [go_sem])
theorem docV_1 (text more : ByteArray) (n bits high : Int) (bA : Option Addr) (bs : List Int) (bc : Nat) (kA : Option Addr) (kl kc : Nat) (w : World) (hn : -9223372036854775808 ≤ n ∧ n ≤ 9223372036854775807) (hb : 0 ≤ bits ∧ bits < 18446744073709551616) (hh : 0 ≤ high ∧ high < 18446744073709551616) (ht : text.size ≤ 300) (hm : more.size ≤ 300) (hbs : bs.length ≤ 300) (hR : ReadsInt w .u8 bA bs.length bs) :
  Calls Tryz.prog 14 #[.agg #[.int .i64 1, .string text, .string more, .int .i64 n, .int .u64 bits, .int .u64 high, .slice bA bs.length bc, .slice kA kl kc]] w (Grew w.heap.size w [] (leI 8 bits)) := by
 obtain ⟨W0, hW0, HZ, HB, HO, HW, HW0, HWW, HQ⟩ := doc_env w (.int .i64 1) (.string text) (.string more) (.int .i64 n) (.int .u64 bits) (.int .u64 high) (.slice bA bs.length bc) (.slice kA kl kc)
 have HRD := Lib.hid hR
 obtain ⟨q0, q1, q2, q3, q4, q5, q6, q7⟩ := HQ.out _ HW.out
 clear hR
 go_enter Tryz.func14, Tryz.ntmps14
 go_wp2_with fail
 refine (DocInt64_calls (bits) (by omega) (by omega) _ (w.heap.size + 1) _ _ (by simp only [List.length_append, List.length_cons, List.length_nil, leI_length, bytesOf_length, txtB_length]; omega) HO.out (Nat.le_trans HB.out HW.out.size)).mono ?_
 rintro e w1 ⟨v1, rfl, ho, hw⟩
 have n0 := ho
 have n1 := HW.out.trans hw
 have n2 : True := trivial
 clear ho hw
 clear q0 q1 q2 q3 q4 q5 q6 q7 HO HW
 have HO := Lib.hid n0
 have HW := Lib.hid n1
 clear n0 n1 n2
 obtain ⟨q0, q1, q2, q3, q4, q5, q6, q7⟩ := HQ.out _ HW.out
 go_wp2_with fail
 go_ret
 exact Grew.up (w1 := w) rfl (own_cast HO.out (by simp only [List.append_assoc, List.nil_append, List.append_nil, List.cons_append])) (by omega) (HWW.out _ HW.out)
theorem docV_17 (text more : ByteArray) (n bits high : Int) (bA : Option Addr) (bs : List Int) (bc : Nat) (kA : Option Addr) (kl kc : Nat) (w : World) (hn : -9223372036854775808 ≤ n ∧ n ≤ 9223372036854775807) (hb : 0 ≤ bits ∧ bits < 18446744073709551616) (hh : 0 ≤ high ∧ high < 18446744073709551616) (ht : text.size ≤ 300) (hm : more.size ≤ 300) (hbs : bs.length ≤ 300) (hR : ReadsInt w .u8 bA bs.length bs) :
  Calls Tryz.prog 14 #[.agg #[.int .i64 17, .string text, .string more, .int .i64 n, .int .u64 bits, .int .u64 high, .slice bA bs.length bc, .slice kA kl kc]] w (Grew w.heap.size w [] (leI 8 bits)) := by
 obtain ⟨W0, hW0, HZ, HB, HO, HW, HW0, HWW, HQ⟩ := doc_env w (.int .i64 17) (.string text) (.string more) (.int .i64 n) (.int .u64 bits) (.int .u64 high) (.slice bA bs.length bc) (.slice kA kl kc)
 have HRD := Lib.hid hR
 obtain ⟨q0, q1, q2, q3, q4, q5, q6, q7⟩ := HQ.out _ HW.out
 clear hR
 go_enter Tryz.func14, Tryz.ntmps14
 go_wp2_with fail
 refine (DocInt64_calls (bits) (by omega) (by omega) _ (w.heap.size + 1) _ _ (by simp only [List.length_append, List.length_cons, List.length_nil, leI_length, bytesOf_length, txtB_length]; omega) HO.out (Nat.le_trans HB.out HW.out.size)).mono ?_
 rintro e w1 ⟨v1, rfl, ho, hw⟩
 have n0 := ho
 have n1 := HW.out.trans hw
 have n2 : True := trivial
 clear ho hw
 clear q0 q1 q2 q3 q4 q5 q6 q7 HO HW
 have HO := Lib.hid n0
 have HW := Lib.hid n1
 clear n0 n1 n2
 obtain ⟨q0, q1, q2, q3, q4, q5, q6, q7⟩ := HQ.out _ HW.out
 go_wp2_with fail
 go_ret
 exact Grew.up (w1 := w) rfl (own_cast HO.out (by simp only [List.append_assoc, List.nil_append, List.append_nil, List.cons_append])) (by omega) (HWW.out _ HW.out)
theorem docV_2 (text more : ByteArray) (n bits high : Int) (bA : Option Addr) (bs : List Int) (bc : Nat) (kA : Option Addr) (kl kc : Nat) (w : World) (hn : -9223372036854775808 ≤ n ∧ n ≤ 9223372036854775807) (hb : 0 ≤ bits ∧ bits < 18446744073709551616) (hh : 0 ≤ high ∧ high < 18446744073709551616) (ht : text.size ≤ 300) (hm : more.size ≤ 300) (hbs : bs.length ≤ 300) (hR : ReadsInt w .u8 bA bs.length bs) :
  Calls Tryz.prog 14 #[.agg #[.int .i64 2, .string text, .string more, .int .i64 n, .int .u64 bits, .int .u64 high, .slice bA bs.length bc, .slice kA kl kc]] w (Grew w.heap.size w [] (txtB text)) := by
 obtain ⟨W0, hW0, HZ, HB, HO, HW, HW0, HWW, HQ⟩ := doc_env w (.int .i64 2) (.string text) (.string more) (.int .i64 n) (.int .u64 bits) (.int .u64 high) (.slice bA bs.length bc) (.slice kA kl kc)
 have HRD := Lib.hid hR
 obtain ⟨q0, q1, q2, q3, q4, q5, q6, q7⟩ := HQ.out _ HW.out
 clear hR
 go_enter Tryz.func14, Tryz.ntmps14
 go_wp2_with fail
 refine (docText_calls text ht _ (w.heap.size + 1) _ _ (by simp only [List.length_append, List.length_cons, List.length_nil, leI_length, bytesOf_length, txtB_length]; omega) HO.out (Nat.le_trans HB.out HW.out.size)).mono ?_
 rintro e w1 ⟨v1, rfl, ho, hw⟩
 have n0 := ho
 have n1 := HW.out.trans hw
 have n2 : True := trivial
 clear ho hw
 clear q0 q1 q2 q3 q4 q5 q6 q7 HO HW
 have HO := Lib.hid n0
 have HW := Lib.hid n1
 clear n0 n1 n2
 obtain ⟨q0, q1, q2, q3, q4, q5, q6, q7⟩ := HQ.out _ HW.out
 go_wp2_with fail
 go_ret
 exact Grew.up (w1 := w) rfl (own_cast HO.out (by simp only [List.append_assoc, List.nil_append, List.append_nil, List.cons_append])) (by omega) (HWW.out _ HW.out)
theorem docV_13 (text more : ByteArray) (n bits high : Int) (bA : Option Addr) (bs : List Int) (bc : Nat) (kA : Option Addr) (kl kc : Nat) (w : World) (hn : -9223372036854775808 ≤ n ∧ n ≤ 9223372036854775807) (hb : 0 ≤ bits ∧ bits < 18446744073709551616) (hh : 0 ≤ high ∧ high < 18446744073709551616) (ht : text.size ≤ 300) (hm : more.size ≤ 300) (hbs : bs.length ≤ 300) (hR : ReadsInt w .u8 bA bs.length bs) :
  Calls Tryz.prog 14 #[.agg #[.int .i64 13, .string text, .string more, .int .i64 n, .int .u64 bits, .int .u64 high, .slice bA bs.length bc, .slice kA kl kc]] w (Grew w.heap.size w [] (txtB text)) := by
 obtain ⟨W0, hW0, HZ, HB, HO, HW, HW0, HWW, HQ⟩ := doc_env w (.int .i64 13) (.string text) (.string more) (.int .i64 n) (.int .u64 bits) (.int .u64 high) (.slice bA bs.length bc) (.slice kA kl kc)
 have HRD := Lib.hid hR
 obtain ⟨q0, q1, q2, q3, q4, q5, q6, q7⟩ := HQ.out _ HW.out
 clear hR
 go_enter Tryz.func14, Tryz.ntmps14
 go_wp2_with fail
 refine (docText_calls text ht _ (w.heap.size + 1) _ _ (by simp only [List.length_append, List.length_cons, List.length_nil, leI_length, bytesOf_length, txtB_length]; omega) HO.out (Nat.le_trans HB.out HW.out.size)).mono ?_
 rintro e w1 ⟨v1, rfl, ho, hw⟩
 have n0 := ho
 have n1 := HW.out.trans hw
 have n2 : True := trivial
 clear ho hw
 clear q0 q1 q2 q3 q4 q5 q6 q7 HO HW
 have HO := Lib.hid n0
 have HW := Lib.hid n1
 clear n0 n1 n2
 obtain ⟨q0, q1, q2, q3, q4, q5, q6, q7⟩ := HQ.out _ HW.out
 go_wp2_with fail
 go_ret
 exact Grew.up (w1 := w) rfl (own_cast HO.out (by simp only [List.append_assoc, List.nil_append, List.append_nil, List.cons_append])) (by omega) (HWW.out _ HW.out)
theorem docV_14 (text more : ByteArray) (n bits high : Int) (bA : Option Addr) (bs : List Int) (bc : Nat) (kA : Option Addr) (kl kc : Nat) (w : World) (hn : -9223372036854775808 ≤ n ∧ n ≤ 9223372036854775807) (hb : 0 ≤ bits ∧ bits < 18446744073709551616) (hh : 0 ≤ high ∧ high < 18446744073709551616) (ht : text.size ≤ 300) (hm : more.size ≤ 300) (hbs : bs.length ≤ 300) (hR : ReadsInt w .u8 bA bs.length bs) :
  Calls Tryz.prog 14 #[.agg #[.int .i64 14, .string text, .string more, .int .i64 n, .int .u64 bits, .int .u64 high, .slice bA bs.length bc, .slice kA kl kc]] w (Grew w.heap.size w [] (txtB text)) := by
 obtain ⟨W0, hW0, HZ, HB, HO, HW, HW0, HWW, HQ⟩ := doc_env w (.int .i64 14) (.string text) (.string more) (.int .i64 n) (.int .u64 bits) (.int .u64 high) (.slice bA bs.length bc) (.slice kA kl kc)
 have HRD := Lib.hid hR
 obtain ⟨q0, q1, q2, q3, q4, q5, q6, q7⟩ := HQ.out _ HW.out
 clear hR
 go_enter Tryz.func14, Tryz.ntmps14
 go_wp2_with fail
 refine (docText_calls text ht _ (w.heap.size + 1) _ _ (by simp only [List.length_append, List.length_cons, List.length_nil, leI_length, bytesOf_length, txtB_length]; omega) HO.out (Nat.le_trans HB.out HW.out.size)).mono ?_
 rintro e w1 ⟨v1, rfl, ho, hw⟩
 have n0 := ho
 have n1 := HW.out.trans hw
 have n2 : True := trivial
 clear ho hw
 clear q0 q1 q2 q3 q4 q5 q6 q7 HO HW
 have HO := Lib.hid n0
 have HW := Lib.hid n1
 clear n0 n1 n2
 obtain ⟨q0, q1, q2, q3, q4, q5, q6, q7⟩ := HQ.out _ HW.out
 go_wp2_with fail
 go_ret
 exact Grew.up (w1 := w) rfl (own_cast HO.out (by simp only [List.append_assoc, List.nil_append, List.append_nil, List.cons_append])) (by omega) (HWW.out _ HW.out)
theorem docV_5b (text more : ByteArray) (n bits high : Int) (bA : Option Addr) (bs : List Int) (bc : Nat) (kA : Option Addr) (kl kc : Nat) (w : World) (hn : -9223372036854775808 ≤ n ∧ n ≤ 9223372036854775807) (hb : 0 ≤ bits ∧ bits < 18446744073709551616) (hh : 0 ≤ high ∧ high < 18446744073709551616) (ht : text.size ≤ 300) (hm : more.size ≤ 300) (hbs : bs.length ≤ 300) (hR : ReadsInt w .u8 bA bs.length bs) (h2 : n = 2) :
  Calls Tryz.prog 14 #[.agg #[.int .i64 5, .string text, .string more, .int .i64 n, .int .u64 bits, .int .u64 high, .slice bA bs.length bc, .slice kA kl kc]] w (Grew w.heap.size w [] (leI 4 (bs.length + 4) ++ 2 :: leI 4 bs.length ++ bs)) := by
 have h2b : (n == 2) = true := beq_iff_eq.2 h2
 clear h2
 obtain ⟨W0, hW0, HZ, HB, HO, HW, HW0, HWW, HQ⟩ := doc_env w (.int .i64 5) (.string text) (.string more) (.int .i64 n) (.int .u64 bits) (.int .u64 high) (.slice bA bs.length bc) (.slice kA kl kc)
 have HRD := Lib.hid hR
 obtain ⟨q0, q1, q2, q3, q4, q5, q6, q7⟩ := HQ.out _ HW.out
 clear hR
 go_enter Tryz.func14, Tryz.ntmps14
 go_wp2_with fail
 refine (DocInt32_calls ((bs.length : Int) + 4) (by omega) (by omega) _ (w.heap.size + 1) _ _ (by simp only [List.length_append, List.length_cons, List.length_nil, leI_length, bytesOf_length, txtB_length]; omega) HO.out (Nat.le_trans HB.out HW.out.size)).mono ?_
 rintro e w1 ⟨v1, rfl, ho, hw⟩
 have n0 := ho
 have n1 := HW.out.trans hw
 have n2 : True := trivial
 clear ho hw
 clear q0 q1 q2 q3 q4 q5 q6 q7 HO HW
 have HO := Lib.hid n0
 have HW := Lib.hid n1
 clear n0 n1 n2
 obtain ⟨q0, q1, q2, q3, q4, q5, q6, q7⟩ := HQ.out _ HW.out
 go_wp2_with (first | (at_builtin; refine append_lit (w0 := W0) (w.heap.size + 1) rfl (.tmp 42) (.tmp 43) rfl _ _ [2] rfl rfl HO.out HW.out (Nat.le_trans HB.out HW.out.size) (by simp only [List.length_append, List.length_cons, List.length_nil, leI_length, bytesOf_length, txtB_length]; omega) ?_; intro v2 w2 n0 n1 n2 n3; clear n3; clear q0 q1 q2 q3 q4 q5 q6 q7 HO HW; have HO := Lib.hid n0; have HW := Lib.hid n1; clear n0 n1 n2; obtain ⟨q0, q1, q2, q3, q4, q5, q6, q7⟩ := HQ.out _ HW.out))
 refine (DocInt32_calls ((bs.length : Int)) (by omega) (by omega) _ (w.heap.size + 1) _ _ (by simp only [List.length_append, List.length_cons, List.length_nil, leI_length, bytesOf_length, txtB_length]; omega) HO.out (Nat.le_trans HB.out HW.out.size)).mono ?_
 rintro e w1 ⟨v1, rfl, ho, hw⟩
 have n0 := ho
 have n1 := HW.out.trans hw
 have n2 : True := trivial
 clear ho hw
 clear q0 q1 q2 q3 q4 q5 q6 q7 HO HW
 have HO := Lib.hid n0
 have HW := Lib.hid n1
 clear n0 n1 n2
 obtain ⟨q0, q1, q2, q3, q4, q5, q6, q7⟩ := HQ.out _ HW.out
 go_wp2_with (first | (at_builtin; refine append_row (w0 := W0) (w.heap.size + 1) rfl (.tmp 57) (.tmp 59) rfl _ _ bs bA bs.length bc rfl rfl HO.out (HRD.out.below (HWW.out _ HW.out)) HW.out (Nat.le_trans HB.out HW.out.size) (by simp only [List.length_append, List.length_cons, List.length_nil, leI_length, bytesOf_length, txtB_length]; omega) ?_; intro v2 w2 n0 n1 n2 n3; clear n3; clear q0 q1 q2 q3 q4 q5 q6 q7 HO HW; have HO := Lib.hid n0; have HW := Lib.hid n1; clear n0 n1 n2; obtain ⟨q0, q1, q2, q3, q4, q5, q6, q7⟩ := HQ.out _ HW.out))
 go_ret
 exact Grew.up (w1 := w) rfl (own_cast HO.out (by simp only [List.append_assoc, List.nil_append, List.append_nil, List.cons_append])) (by omega) (HWW.out _ HW.out)
theorem docV_5a (text more : ByteArray) (n bits high : Int) (bA : Option Addr) (bs : List Int) (bc : Nat) (kA : Option Addr) (kl kc : Nat) (w : World) (hn : -9223372036854775808 ≤ n ∧ n ≤ 9223372036854775807) (hb : 0 ≤ bits ∧ bits < 18446744073709551616) (hh : 0 ≤ high ∧ high < 18446744073709551616) (ht : text.size ≤ 300) (hm : more.size ≤ 300) (hbs : bs.length ≤ 300) (hR : ReadsInt w .u8 bA bs.length bs) (h2 : n ≠ 2) :
  Calls Tryz.prog 14 #[.agg #[.int .i64 5, .string text, .string more, .int .i64 n, .int .u64 bits, .int .u64 high, .slice bA bs.length bc, .slice kA kl kc]] w (Grew w.heap.size w [] (leI 4 bs.length ++ [n % 256] ++ bs)) := by
 have h2b : (n == 2) = false := beq_eq_false_iff_ne.2 h2
 obtain ⟨W0, hW0, HZ, HB, HO, HW, HW0, HWW, HQ⟩ := doc_env w (.int .i64 5) (.string text) (.string more) (.int .i64 n) (.int .u64 bits) (.int .u64 high) (.slice bA bs.length bc) (.slice kA kl kc)
 have HRD := Lib.hid hR
 obtain ⟨q0, q1, q2, q3, q4, q5, q6, q7⟩ := HQ.out _ HW.out
 clear hR
 go_enter Tryz.func14, Tryz.ntmps14
 go_wp2_with fail
 refine (DocInt32_calls ((bs.length : Int)) (by omega) (by omega) _ (w.heap.size + 1) _ _ (by simp only [List.length_append, List.length_cons, List.length_nil, leI_length, bytesOf_length, txtB_length]; omega) HO.out (Nat.le_trans HB.out HW.out.size)).mono ?_
 rintro e w1 ⟨v1, rfl, ho, hw⟩
 have n0 := ho
 have n1 := HW.out.trans hw
 have n2 : True := trivial
 clear ho hw
 clear q0 q1 q2 q3 q4 q5 q6 q7 HO HW
 have HO := Lib.hid n0
 have HW := Lib.hid n1
 clear n0 n1 n2
 obtain ⟨q0, q1, q2, q3, q4, q5, q6, q7⟩ := HQ.out _ HW.out
 have u1 := u8_wrap n
 go_wp2_with (first | (at_builtin; refine append_lit (w0 := W0) (w.heap.size + 1) rfl (.tmp 51) (.tmp 55) rfl _ _ [n % 256] rfl rfl HO.out HW.out (Nat.le_trans HB.out HW.out.size) (by simp only [List.length_append, List.length_cons, List.length_nil, leI_length, bytesOf_length, txtB_length]; omega) ?_; intro v2 w2 n0 n1 n2 n3; clear n3; clear q0 q1 q2 q3 q4 q5 q6 q7 HO HW; have HO := Lib.hid n0; have HW := Lib.hid n1; clear n0 n1 n2; obtain ⟨q0, q1, q2, q3, q4, q5, q6, q7⟩ := HQ.out _ HW.out) | (at_builtin; refine append_row (w0 := W0) (w.heap.size + 1) rfl (.tmp 57) (.tmp 59) rfl _ _ bs bA bs.length bc rfl rfl HO.out (HRD.out.below (HWW.out _ HW.out)) HW.out (Nat.le_trans HB.out HW.out.size) (by simp only [List.length_append, List.length_cons, List.length_nil, leI_length, bytesOf_length, txtB_length]; omega) ?_; intro v2 w2 n0 n1 n2 n3; clear n3; clear q0 q1 q2 q3 q4 q5 q6 q7 HO HW; have HO := Lib.hid n0; have HW := Lib.hid n1; clear n0 n1 n2; obtain ⟨q0, q1, q2, q3, q4, q5, q6, q7⟩ := HQ.out _ HW.out))
 go_ret
 exact Grew.up (w1 := w) rfl (own_cast HO.out (by simp only [List.append_assoc, List.nil_append, List.append_nil, List.cons_append])) (by omega) (HWW.out _ HW.out)
theorem docV_7 (text more : ByteArray) (n bits high : Int) (bA : Option Addr) (bs : List Int) (bc : Nat) (kA : Option Addr) (kl kc : Nat) (w : World) (hn : -9223372036854775808 ≤ n ∧ n ≤ 9223372036854775807) (hb : 0 ≤ bits ∧ bits < 18446744073709551616) (hh : 0 ≤ high ∧ high < 18446744073709551616) (ht : text.size ≤ 300) (hm : more.size ≤ 300) (hbs : bs.length ≤ 300) (hR : ReadsInt w .u8 bA bs.length bs) :
  Calls Tryz.prog 14 #[.agg #[.int .i64 7, .string text, .string more, .int .i64 n, .int .u64 bits, .int .u64 high, .slice bA bs.length bc, .slice kA kl kc]] w (Grew w.heap.size w [] (bs)) := by
 obtain ⟨W0, hW0, HZ, HB, HO, HW, HW0, HWW, HQ⟩ := doc_env w (.int .i64 7) (.string text) (.string more) (.int .i64 n) (.int .u64 bits) (.int .u64 high) (.slice bA bs.length bc) (.slice kA kl kc)
 have HRD := Lib.hid hR
 obtain ⟨q0, q1, q2, q3, q4, q5, q6, q7⟩ := HQ.out _ HW.out
 clear hR
 go_enter Tryz.func14, Tryz.ntmps14
 go_wp2_with (first | (at_builtin; refine append_row (w0 := W0) (w.heap.size + 1) rfl (.tmp 63) (.tmp 65) rfl _ _ bs bA bs.length bc rfl rfl HO.out (HRD.out.below (HWW.out _ HW.out)) HW.out (Nat.le_trans HB.out HW.out.size) (by simp only [List.length_append, List.length_cons, List.length_nil, leI_length, bytesOf_length, txtB_length]; omega) ?_; intro v2 w2 n0 n1 n2 n3; clear n3; clear q0 q1 q2 q3 q4 q5 q6 q7 HO HW; have HO := Lib.hid n0; have HW := Lib.hid n1; clear n0 n1 n2; obtain ⟨q0, q1, q2, q3, q4, q5, q6, q7⟩ := HQ.out _ HW.out))
 go_ret
 exact Grew.up (w1 := w) rfl (own_cast HO.out (by simp only [List.append_assoc, List.nil_append, List.append_nil, List.cons_append])) (by omega) (HWW.out _ HW.out)
theorem docV_8 (text more : ByteArray) (n bits high : Int) (bA : Option Addr) (bs : List Int) (bc : Nat) (kA : Option Addr) (kl kc : Nat) (w : World) (hn : -9223372036854775808 ≤ n ∧ n ≤ 9223372036854775807) (hb : 0 ≤ bits ∧ bits < 18446744073709551616) (hh : 0 ≤ high ∧ high < 18446744073709551616) (ht : text.size ≤ 300) (hm : more.size ≤ 300) (hbs : bs.length ≤ 300) (hR : ReadsInt w .u8 bA bs.length bs) :
  Calls Tryz.prog 14 #[.agg #[.int .i64 8, .string text, .string more, .int .i64 n, .int .u64 bits, .int .u64 high, .slice bA bs.length bc, .slice kA kl kc]] w (Grew w.heap.size w [] ([n % 256])) := by
 obtain ⟨W0, hW0, HZ, HB, HO, HW, HW0, HWW, HQ⟩ := doc_env w (.int .i64 8) (.string text) (.string more) (.int .i64 n) (.int .u64 bits) (.int .u64 high) (.slice bA bs.length bc) (.slice kA kl kc)
 have HRD := Lib.hid hR
 obtain ⟨q0, q1, q2, q3, q4, q5, q6, q7⟩ := HQ.out _ HW.out
 clear hR
 go_enter Tryz.func14, Tryz.ntmps14
 have u1 := u8_wrap n
 go_wp2_with (first | (at_builtin; refine append_lit (w0 := W0) (w.heap.size + 1) rfl (.tmp 69) (.tmp 73) rfl _ _ [n % 256] rfl rfl HO.out HW.out (Nat.le_trans HB.out HW.out.size) (by simp only [List.length_append, List.length_cons, List.length_nil, leI_length, bytesOf_length, txtB_length]; omega) ?_; intro v2 w2 n0 n1 n2 n3; clear n3; clear q0 q1 q2 q3 q4 q5 q6 q7 HO HW; have HO := Lib.hid n0; have HW := Lib.hid n1; clear n0 n1 n2; obtain ⟨q0, q1, q2, q3, q4, q5, q6, q7⟩ := HQ.out _ HW.out))
 go_ret
 exact Grew.up (w1 := w) rfl (own_cast HO.out (by simp only [List.append_assoc, List.nil_append, List.append_nil, List.cons_append])) (by omega) (HWW.out _ HW.out)
theorem docV_9 (text more : ByteArray) (n bits high : Int) (bA : Option Addr) (bs : List Int) (bc : Nat) (kA : Option Addr) (kl kc : Nat) (w : World) (hn : -9223372036854775808 ≤ n ∧ n ≤ 9223372036854775807) (hb : 0 ≤ bits ∧ bits < 18446744073709551616) (hh : 0 ≤ high ∧ high < 18446744073709551616) (ht : text.size ≤ 300) (hm : more.size ≤ 300) (hbs : bs.length ≤ 300) (hR : ReadsInt w .u8 bA bs.length bs) :
  Calls Tryz.prog 14 #[.agg #[.int .i64 9, .string text, .string more, .int .i64 n, .int .u64 bits, .int .u64 high, .slice bA bs.length bc, .slice kA kl kc]] w (Grew w.heap.size w [] (leI 8 n)) := by
 obtain ⟨W0, hW0, HZ, HB, HO, HW, HW0, HWW, HQ⟩ := doc_env w (.int .i64 9) (.string text) (.string more) (.int .i64 n) (.int .u64 bits) (.int .u64 high) (.slice bA bs.length bc) (.slice kA kl kc)
 have HRD := Lib.hid hR
 obtain ⟨q0, q1, q2, q3, q4, q5, q6, q7⟩ := HQ.out _ HW.out
 clear hR
 go_enter Tryz.func14, Tryz.ntmps14
 have u1 := (show IntKind.u64.wrap n = n % 18446744073709551616 by simp only [IntKind.wrap, IntKind.bits, IntKind.signed]; simp)
 go_wp2_with fail
 refine (DocInt64_calls (n % 18446744073709551616) (by omega) (by omega) _ (w.heap.size + 1) _ _ (by simp only [List.length_append, List.length_cons, List.length_nil, leI_length, bytesOf_length, txtB_length]; omega) HO.out (Nat.le_trans HB.out HW.out.size)).mono ?_
 rintro e w1 ⟨v1, rfl, ho, hw⟩
 have n0 := ho
 have n1 := HW.out.trans hw
 have n2 : True := trivial
 clear ho hw
 clear q0 q1 q2 q3 q4 q5 q6 q7 HO HW
 have HO := Lib.hid n0
 have HW := Lib.hid n1
 clear n0 n1 n2
 obtain ⟨q0, q1, q2, q3, q4, q5, q6, q7⟩ := HQ.out _ HW.out
 go_wp2_with fail
 go_ret
 exact Grew.up (w1 := w) rfl (own_cast HO.out (by rw [leI8_wrap]; rfl)) (by omega) (HWW.out _ HW.out)
theorem docV_18 (text more : ByteArray) (n bits high : Int) (bA : Option Addr) (bs : List Int) (bc : Nat) (kA : Option Addr) (kl kc : Nat) (w : World) (hn : -9223372036854775808 ≤ n ∧ n ≤ 9223372036854775807) (hb : 0 ≤ bits ∧ bits < 18446744073709551616) (hh : 0 ≤ high ∧ high < 18446744073709551616) (ht : text.size ≤ 300) (hm : more.size ≤ 300) (hbs : bs.length ≤ 300) (hR : ReadsInt w .u8 bA bs.length bs) :
  Calls Tryz.prog 14 #[.agg #[.int .i64 18, .string text, .string more, .int .i64 n, .int .u64 bits, .int .u64 high, .slice bA bs.length bc, .slice kA kl kc]] w (Grew w.heap.size w [] (leI 8 n)) := by
 obtain ⟨W0, hW0, HZ, HB, HO, HW, HW0, HWW, HQ⟩ := doc_env w (.int .i64 18) (.string text) (.string more) (.int .i64 n) (.int .u64 bits) (.int .u64 high) (.slice bA bs.length bc) (.slice kA kl kc)
 have HRD := Lib.hid hR
 obtain ⟨q0, q1, q2, q3, q4, q5, q6, q7⟩ := HQ.out _ HW.out
 clear hR
 go_enter Tryz.func14, Tryz.ntmps14
 have u1 := (show IntKind.u64.wrap n = n % 18446744073709551616 by simp only [IntKind.wrap, IntKind.bits, IntKind.signed]; simp)
 go_wp2_with fail
 refine (DocInt64_calls (n % 18446744073709551616) (by omega) (by omega) _ (w.heap.size + 1) _ _ (by simp only [List.length_append, List.length_cons, List.length_nil, leI_length, bytesOf_length, txtB_length]; omega) HO.out (Nat.le_trans HB.out HW.out.size)).mono ?_
 rintro e w1 ⟨v1, rfl, ho, hw⟩
 have n0 := ho
 have n1 := HW.out.trans hw
 have n2 : True := trivial
 clear ho hw
 clear q0 q1 q2 q3 q4 q5 q6 q7 HO HW
 have HO := Lib.hid n0
 have HW := Lib.hid n1
 clear n0 n1 n2
 obtain ⟨q0, q1, q2, q3, q4, q5, q6, q7⟩ := HQ.out _ HW.out
 go_wp2_with fail
 go_ret
 exact Grew.up (w1 := w) rfl (own_cast HO.out (by rw [leI8_wrap]; rfl)) (by omega) (HWW.out _ HW.out)
theorem docV_16 (text more : ByteArray) (n bits high : Int) (bA : Option Addr) (bs : List Int) (bc : Nat) (kA : Option Addr) (kl kc : Nat) (w : World) (hn : -9223372036854775808 ≤ n ∧ n ≤ 9223372036854775807) (hb : 0 ≤ bits ∧ bits < 18446744073709551616) (hh : 0 ≤ high ∧ high < 18446744073709551616) (ht : text.size ≤ 300) (hm : more.size ≤ 300) (hbs : bs.length ≤ 300) (hR : ReadsInt w .u8 bA bs.length bs) :
  Calls Tryz.prog 14 #[.agg #[.int .i64 16, .string text, .string more, .int .i64 n, .int .u64 bits, .int .u64 high, .slice bA bs.length bc, .slice kA kl kc]] w (Grew w.heap.size w [] (leI 4 n)) := by
 obtain ⟨W0, hW0, HZ, HB, HO, HW, HW0, HWW, HQ⟩ := doc_env w (.int .i64 16) (.string text) (.string more) (.int .i64 n) (.int .u64 bits) (.int .u64 high) (.slice bA bs.length bc) (.slice kA kl kc)
 have HRD := Lib.hid hR
 obtain ⟨q0, q1, q2, q3, q4, q5, q6, q7⟩ := HQ.out _ HW.out
 clear hR
 go_enter Tryz.func14, Tryz.ntmps14
 go_wp2_with fail
 refine (DocInt32_calls (n) (by omega) (by omega) _ (w.heap.size + 1) _ _ (by simp only [List.length_append, List.length_cons, List.length_nil, leI_length, bytesOf_length, txtB_length]; omega) HO.out (Nat.le_trans HB.out HW.out.size)).mono ?_
 rintro e w1 ⟨v1, rfl, ho, hw⟩
 have n0 := ho
 have n1 := HW.out.trans hw
 have n2 : True := trivial
 clear ho hw
 clear q0 q1 q2 q3 q4 q5 q6 q7 HO HW
 have HO := Lib.hid n0
 have HW := Lib.hid n1
 clear n0 n1 n2
 obtain ⟨q0, q1, q2, q3, q4, q5, q6, q7⟩ := HQ.out _ HW.out
 go_wp2_with fail
 go_ret
 exact Grew.up (w1 := w) rfl (own_cast HO.out (by simp only [List.append_assoc, List.nil_append, List.append_nil, List.cons_append])) (by omega) (HWW.out _ HW.out)
theorem docV_11 (text more : ByteArray) (n bits high : Int) (bA : Option Addr) (bs : List Int) (bc : Nat) (kA : Option Addr) (kl kc : Nat) (w : World) (hn : -9223372036854775808 ≤ n ∧ n ≤ 9223372036854775807) (hb : 0 ≤ bits ∧ bits < 18446744073709551616) (hh : 0 ≤ high ∧ high < 18446744073709551616) (ht : text.size ≤ 300) (hm : more.size ≤ 300) (hbs : bs.length ≤ 300) (hR : ReadsInt w .u8 bA bs.length bs) :
  Calls Tryz.prog 14 #[.agg #[.int .i64 11, .string text, .string more, .int .i64 n, .int .u64 bits, .int .u64 high, .slice bA bs.length bc, .slice kA kl kc]] w (Grew w.heap.size w [] (bytesOf text ++ 0 :: (bytesOf more ++ [0]))) := by
 obtain ⟨W0, hW0, HZ, HB, HO, HW, HW0, HWW, HQ⟩ := doc_env w (.int .i64 11) (.string text) (.string more) (.int .i64 n) (.int .u64 bits) (.int .u64 high) (.slice bA bs.length bc) (.slice kA kl kc)
 have HRD := Lib.hid hR
 obtain ⟨q0, q1, q2, q3, q4, q5, q6, q7⟩ := HQ.out _ HW.out
 clear hR
 go_enter Tryz.func14, Tryz.ntmps14
 go_wp2_with (first | (at_builtin; refine append_str (w0 := W0) (w.heap.size + 1) rfl (.tmp 91) (.tmp 93) rfl _ _ text rfl rfl HO.out HW.out (Nat.le_trans HB.out HW.out.size) (by simp only [List.length_append, List.length_cons, List.length_nil, leI_length, bytesOf_length, txtB_length]; omega) ?_; intro v2 w2 n0 n1 n2; clear q0 q1 q2 q3 q4 q5 q6 q7 HO HW; have HO := Lib.hid n0; have HW := Lib.hid n1; clear n0 n1 n2; obtain ⟨q0, q1, q2, q3, q4, q5, q6, q7⟩ := HQ.out _ HW.out) | (at_builtin; refine append_lit (w0 := W0) (w.heap.size + 1) rfl (.tmp 95) (.tmp 96) rfl _ _ [0] rfl rfl HO.out HW.out (Nat.le_trans HB.out HW.out.size) (by simp only [List.length_append, List.length_cons, List.length_nil, leI_length, bytesOf_length, txtB_length]; omega) ?_; intro v2 w2 n0 n1 n2 n3; clear n3; clear q0 q1 q2 q3 q4 q5 q6 q7 HO HW; have HO := Lib.hid n0; have HW := Lib.hid n1; clear n0 n1 n2; obtain ⟨q0, q1, q2, q3, q4, q5, q6, q7⟩ := HQ.out _ HW.out) | (at_builtin; refine append_str (w0 := W0) (w.heap.size + 1) rfl (.tmp 98) (.tmp 100) rfl _ _ more rfl rfl HO.out HW.out (Nat.le_trans HB.out HW.out.size) (by simp only [List.length_append, List.length_cons, List.length_nil, leI_length, bytesOf_length, txtB_length]; omega) ?_; intro v2 w2 n0 n1 n2; clear q0 q1 q2 q3 q4 q5 q6 q7 HO HW; have HO := Lib.hid n0; have HW := Lib.hid n1; clear n0 n1 n2; obtain ⟨q0, q1, q2, q3, q4, q5, q6, q7⟩ := HQ.out _ HW.out) | (at_builtin; refine append_lit (w0 := W0) (w.heap.size + 1) rfl (.tmp 102) (.tmp 103) rfl _ _ [0] rfl rfl HO.out HW.out (Nat.le_trans HB.out HW.out.size) (by simp only [List.length_append, List.length_cons, List.length_nil, leI_length, bytesOf_length, txtB_length]; omega) ?_; intro v2 w2 n0 n1 n2 n3; clear n3; clear q0 q1 q2 q3 q4 q5 q6 q7 HO HW; have HO := Lib.hid n0; have HW := Lib.hid n1; clear n0 n1 n2; obtain ⟨q0, q1, q2, q3, q4, q5, q6, q7⟩ := HQ.out _ HW.out))
 go_ret
 exact Grew.up (w1 := w) rfl (own_cast HO.out (by simp only [List.append_assoc, List.nil_append, List.append_nil, List.cons_append])) (by omega) (HWW.out _ HW.out)
theorem docV_12 (text more : ByteArray) (n bits high : Int) (bA : Option Addr) (bs : List Int) (bc : Nat) (kA : Option Addr) (kl kc : Nat) (w : World) (hn : -9223372036854775808 ≤ n ∧ n ≤ 9223372036854775807) (hb : 0 ≤ bits ∧ bits < 18446744073709551616) (hh : 0 ≤ high ∧ high < 18446744073709551616) (ht : text.size ≤ 300) (hm : more.size ≤ 300) (hbs : bs.length ≤ 300) (hR : ReadsInt w .u8 bA bs.length bs) :
  Calls Tryz.prog 14 #[.agg #[.int .i64 12, .string text, .string more, .int .i64 n, .int .u64 bits, .int .u64 high, .slice bA bs.length bc, .slice kA kl kc]] w (Grew w.heap.size w [] (txtB text ++ bs)) := by
 obtain ⟨W0, hW0, HZ, HB, HO, HW, HW0, HWW, HQ⟩ := doc_env w (.int .i64 12) (.string text) (.string more) (.int .i64 n) (.int .u64 bits) (.int .u64 high) (.slice bA bs.length bc) (.slice kA kl kc)
 have HRD := Lib.hid hR
 obtain ⟨q0, q1, q2, q3, q4, q5, q6, q7⟩ := HQ.out _ HW.out
 clear hR
 go_enter Tryz.func14, Tryz.ntmps14
 go_wp2_with fail
 refine (docText_calls text ht _ (w.heap.size + 1) _ _ (by simp only [List.length_append, List.length_cons, List.length_nil, leI_length, bytesOf_length, txtB_length]; omega) HO.out (Nat.le_trans HB.out HW.out.size)).mono ?_
 rintro e w1 ⟨v1, rfl, ho, hw⟩
 have n0 := ho
 have n1 := HW.out.trans hw
 have n2 : True := trivial
 clear ho hw
 clear q0 q1 q2 q3 q4 q5 q6 q7 HO HW
 have HO := Lib.hid n0
 have HW := Lib.hid n1
 clear n0 n1 n2
 obtain ⟨q0, q1, q2, q3, q4, q5, q6, q7⟩ := HQ.out _ HW.out
 go_wp2_with (first | (at_builtin; refine append_row (w0 := W0) (w.heap.size + 1) rfl (.tmp 111) (.tmp 113) rfl _ _ bs bA bs.length bc rfl rfl HO.out (HRD.out.below (HWW.out _ HW.out)) HW.out (Nat.le_trans HB.out HW.out.size) (by simp only [List.length_append, List.length_cons, List.length_nil, leI_length, bytesOf_length, txtB_length]; omega) ?_; intro v2 w2 n0 n1 n2 n3; clear n3; clear q0 q1 q2 q3 q4 q5 q6 q7 HO HW; have HO := Lib.hid n0; have HW := Lib.hid n1; clear n0 n1 n2; obtain ⟨q0, q1, q2, q3, q4, q5, q6, q7⟩ := HQ.out _ HW.out))
 go_ret
 exact Grew.up (w1 := w) rfl (own_cast HO.out (by simp only [List.append_assoc, List.nil_append, List.append_nil, List.cons_append])) (by omega) (HWW.out _ HW.out)
theorem docV_19 (text more : ByteArray) (n bits high : Int) (bA : Option Addr) (bs : List Int) (bc : Nat) (kA : Option Addr) (kl kc : Nat) (w : World) (hn : -9223372036854775808 ≤ n ∧ n ≤ 9223372036854775807) (hb : 0 ≤ bits ∧ bits < 18446744073709551616) (hh : 0 ≤ high ∧ high < 18446744073709551616) (ht : text.size ≤ 300) (hm : more.size ≤ 300) (hbs : bs.length ≤ 300) (hR : ReadsInt w .u8 bA bs.length bs) :
  Calls Tryz.prog 14 #[.agg #[.int .i64 19, .string text, .string more, .int .i64 n, .int .u64 bits, .int .u64 high, .slice bA bs.length bc, .slice kA kl kc]] w (Grew w.heap.size w [] (leI 8 bits ++ leI 8 high)) := by
 obtain ⟨W0, hW0, HZ, HB, HO, HW, HW0, HWW, HQ⟩ := doc_env w (.int .i64 19) (.string text) (.string more) (.int .i64 n) (.int .u64 bits) (.int .u64 high) (.slice bA bs.length bc) (.slice kA kl kc)
 have HRD := Lib.hid hR
 obtain ⟨q0, q1, q2, q3, q4, q5, q6, q7⟩ := HQ.out _ HW.out
 clear hR
 go_enter Tryz.func14, Tryz.ntmps14
 go_wp2_with fail
 refine (DocInt64_calls (bits) (by omega) (by omega) _ (w.heap.size + 1) _ _ (by simp only [List.length_append, List.length_cons, List.length_nil, leI_length, bytesOf_length, txtB_length]; omega) HO.out (Nat.le_trans HB.out HW.out.size)).mono ?_
 rintro e w1 ⟨v1, rfl, ho, hw⟩
 have n0 := ho
 have n1 := HW.out.trans hw
 have n2 : True := trivial
 clear ho hw
 clear q0 q1 q2 q3 q4 q5 q6 q7 HO HW
 have HO := Lib.hid n0
 have HW := Lib.hid n1
 clear n0 n1 n2
 obtain ⟨q0, q1, q2, q3, q4, q5, q6, q7⟩ := HQ.out _ HW.out
 go_wp2_with fail
 refine (DocInt64_calls (high) (by omega) (by omega) _ (w.heap.size + 1) _ _ (by simp only [List.length_append, List.length_cons, List.length_nil, leI_length, bytesOf_length, txtB_length]; omega) HO.out (Nat.le_trans HB.out HW.out.size)).mono ?_
 rintro e w1 ⟨v1, rfl, ho, hw⟩
 have n0 := ho
 have n1 := HW.out.trans hw
 have n2 : True := trivial
 clear ho hw
 clear q0 q1 q2 q3 q4 q5 q6 q7 HO HW
 have HO := Lib.hid n0
 have HW := Lib.hid n1
 clear n0 n1 n2
 obtain ⟨q0, q1, q2, q3, q4, q5, q6, q7⟩ := HQ.out _ HW.out
 go_wp2_with fail
 go_ret
 exact Grew.up (w1 := w) rfl (own_cast HO.out (by simp only [List.append_assoc, List.nil_append, List.append_nil, List.cons_append])) (by omega) (HWW.out _ HW.out)
theorem docV_6 (text more : ByteArray) (n bits high : Int) (bA : Option Addr) (bs : List Int) (bc : Nat) (kA : Option Addr) (kl kc : Nat) (w : World) (hn : -9223372036854775808 ≤ n ∧ n ≤ 9223372036854775807) (hb : 0 ≤ bits ∧ bits < 18446744073709551616) (hh : 0 ≤ high ∧ high < 18446744073709551616) (ht : text.size ≤ 300) (hm : more.size ≤ 300) (hbs : bs.length ≤ 300) (hR : ReadsInt w .u8 bA bs.length bs) :
  Calls Tryz.prog 14 #[.agg #[.int .i64 6, .string text, .string more, .int .i64 n, .int .u64 bits, .int .u64 high, .slice bA bs.length bc, .slice kA kl kc]] w (Grew w.heap.size w [] ([])) := by
 obtain ⟨W0, hW0, HZ, HB, HO, HW, HW0, HWW, HQ⟩ := doc_env w (.int .i64 6) (.string text) (.string more) (.int .i64 n) (.int .u64 bits) (.int .u64 high) (.slice bA bs.length bc) (.slice kA kl kc)
 have HRD := Lib.hid hR
 obtain ⟨q0, q1, q2, q3, q4, q5, q6, q7⟩ := HQ.out _ HW.out
 clear hR
 go_enter Tryz.func14, Tryz.ntmps14
 go_wp2_with fail
 go_ret
 exact Grew.up (w1 := w) rfl (own_cast HO.out (by simp only [List.append_assoc, List.nil_append, List.append_nil, List.cons_append])) (by omega) (HWW.out _ HW.out)
theorem docV_10 (text more : ByteArray) (n bits high : Int) (bA : Option Addr) (bs : List Int) (bc : Nat) (kA : Option Addr) (kl kc : Nat) (w : World) (hn : -9223372036854775808 ≤ n ∧ n ≤ 9223372036854775807) (hb : 0 ≤ bits ∧ bits < 18446744073709551616) (hh : 0 ≤ high ∧ high < 18446744073709551616) (ht : text.size ≤ 300) (hm : more.size ≤ 300) (hbs : bs.length ≤ 300) (hR : ReadsInt w .u8 bA bs.length bs) :
  Calls Tryz.prog 14 #[.agg #[.int .i64 10, .string text, .string more, .int .i64 n, .int .u64 bits, .int .u64 high, .slice bA bs.length bc, .slice kA kl kc]] w (Grew w.heap.size w [] ([])) := by
 obtain ⟨W0, hW0, HZ, HB, HO, HW, HW0, HWW, HQ⟩ := doc_env w (.int .i64 10) (.string text) (.string more) (.int .i64 n) (.int .u64 bits) (.int .u64 high) (.slice bA bs.length bc) (.slice kA kl kc)
 have HRD := Lib.hid hR
 obtain ⟨q0, q1, q2, q3, q4, q5, q6, q7⟩ := HQ.out _ HW.out
 clear hR
 go_enter Tryz.func14, Tryz.ntmps14
 go_wp2_with fail
 go_ret
 exact Grew.up (w1 := w) rfl (own_cast HO.out (by simp only [List.append_assoc, List.nil_append, List.append_nil, List.cons_append])) (by omega) (HWW.out _ HW.out)
theorem docV_255 (text more : ByteArray) (n bits high : Int) (bA : Option Addr) (bs : List Int) (bc : Nat) (kA : Option Addr) (kl kc : Nat) (w : World) (hn : -9223372036854775808 ≤ n ∧ n ≤ 9223372036854775807) (hb : 0 ≤ bits ∧ bits < 18446744073709551616) (hh : 0 ≤ high ∧ high < 18446744073709551616) (ht : text.size ≤ 300) (hm : more.size ≤ 300) (hbs : bs.length ≤ 300) (hR : ReadsInt w .u8 bA bs.length bs) :
  Calls Tryz.prog 14 #[.agg #[.int .i64 255, .string text, .string more, .int .i64 n, .int .u64 bits, .int .u64 high, .slice bA bs.length bc, .slice kA kl kc]] w (Grew w.heap.size w [] ([])) := by
 obtain ⟨W0, hW0, HZ, HB, HO, HW, HW0, HWW, HQ⟩ := doc_env w (.int .i64 255) (.string text) (.string more) (.int .i64 n) (.int .u64 bits) (.int .u64 high) (.slice bA bs.length bc) (.slice kA kl kc)
 have HRD := Lib.hid hR
 obtain ⟨q0, q1, q2, q3, q4, q5, q6, q7⟩ := HQ.out _ HW.out
 clear hR
 go_enter Tryz.func14, Tryz.ntmps14
 go_wp2_with fail
 go_ret
 exact Grew.up (w1 := w) rfl (own_cast HO.out (by simp only [List.append_assoc, List.nil_append, List.append_nil, List.cons_append])) (by omega) (HWW.out _ HW.out)
theorem docV_127 (text more : ByteArray) (n bits high : Int) (bA : Option Addr) (bs : List Int) (bc : Nat) (kA : Option Addr) (kl kc : Nat) (w : World) (hn : -9223372036854775808 ≤ n ∧ n ≤ 9223372036854775807) (hb : 0 ≤ bits ∧ bits < 18446744073709551616) (hh : 0 ≤ high ∧ high < 18446744073709551616) (ht : text.size ≤ 300) (hm : more.size ≤ 300) (hbs : bs.length ≤ 300) (hR : ReadsInt w .u8 bA bs.length bs) :
  Calls Tryz.prog 14 #[.agg #[.int .i64 127, .string text, .string more, .int .i64 n, .int .u64 bits, .int .u64 high, .slice bA bs.length bc, .slice kA kl kc]] w (Grew w.heap.size w [] ([])) := by
 obtain ⟨W0, hW0, HZ, HB, HO, HW, HW0, HWW, HQ⟩ := doc_env w (.int .i64 127) (.string text) (.string more) (.int .i64 n) (.int .u64 bits) (.int .u64 high) (.slice bA bs.length bc) (.slice kA kl kc)
 have HRD := Lib.hid hR
 obtain ⟨q0, q1, q2, q3, q4, q5, q6, q7⟩ := HQ.out _ HW.out
 clear hR
 go_enter Tryz.func14, Tryz.ntmps14
 go_wp2_with fail
 go_ret
 exact Grew.up (w1 := w) rfl (own_cast HO.out (by simp only [List.append_assoc, List.nil_append, List.append_nil, List.cons_append])) (by omega) (HWW.out _ HW.out)
theorem own_old {W W' : World} {base : Nat} {v : Value} {xs : List Int} (h : Own W base v xs) (k : Below W.heap.size W W') : Own W' base v xs := by
 have kk : Keeps W.heap.size [] W W' := Keeps.ofBelow k
 refine kk.owns h (fun g hg => ?_)
 rcases h.2 with ⟨rfl, _⟩ | ⟨g', cap, cur, rfl, hb, hgg, _⟩
 ·cases hg
 ·obtain rfl : g' = g := Option.some.inj hg
  refine ⟨?_, by simp⟩
  by_cases hh : g' < W.heap.size
  ·exact hh
  ·rw [Array.getElem?_eq_none (by omega)] at hgg; cases hgg
theorem step_append_row {ops : Array Oper} {o : Oper} {a : Act} {K : Act → World → Prop} {Q : Exit → Act → World → Prop} {E : Prop} {w0 W : World} (base : Nat) (hgd : o.guard = none) (s x : Operand)
  (ho : o.op = .call { callee := .builtin .append, args := #[s, x], argTypes := #[23, 23] })
  (v : Value) (xs ys : List Int) (A : Option Addr) (m c : Nat) (hs : a.eval s = v) (hx : a.eval x = .slice A m c)
  (HO : Own W base v xs) (HR : ReadsInt W .u8 A m ys) (HB : Below base w0 W) (hbase : base ≤ W.heap.size) (hl : xs.length + m ≤ 140737488355328)
  (h : ∀ v1 w1, Own w1 base v1 (xs ++ ys) → Below base w0 w1 → K (a.put o.dst v1) w1) :
  if Region.wanted o (yielded ops a.tmps) = true then Oper.wp Tryz.prog o a W K Q else E := by
 have hinfo := info_u8
 have ht := Tryz.underlying23
 have hb0 : 0 < 1 := by decide
 have hl : (xs.length + m) * 1 ≤ 140737488355328 := by omega
 obtain ⟨i0, hi, hzz⟩ := Option.map_eq_some_iff.1 hinfo
 simp only [Prod.mk.injEq] at hzz
 obtain ⟨hz0, hz1, hz2⟩ := hzz
 have hm : ys.length = m := HR.1
 have hlen : xs.length + m ≤ 140737488355328 := Nat.le_trans (Nat.le_mul_of_pos_right _ hb0) hl
 have hrun : ∃ v1 w1, (Builtin.append_ #[23, 23] o.type #[v, .slice A m c]).run Tryz.prog W = .ok v1 w1 ∧ w1.ownsRow base 5 1 v1 (xs ++ ys).length (nums .u8 (xs ++ ys)) ∧ W.grownBy w1 v.ownBlock ∧ (v1.ownBlock = v.ownBlock ∨ v1.ownBlock = some W.heap.size) := by
  rcases A with _ | ad
  ·have h0 : m = 0 := by
    rcases Nat.eq_zero_or_pos m with h0 | h0
    ·exact h0
    ·obtain ⟨ad, h, _⟩ := HR.2.2 h0
     cases h
   subst h0
   obtain rfl : ys = [] := List.eq_nil_of_length_eq_zero hm
   refine ⟨v, W, ?_, by simpa using HO, World.grownBy.refl W _, .inl rfl⟩
   rcases HO.2 with ⟨rfl, hn⟩ | ⟨g, cap, cur, rfl, _, _, hnc, _⟩
   ·simp [Builtin.append_, run_underlying ht, sizeOf, typeInfo, hi, Builtin.lenOf, Builtin.firstCells]
   ·simp [Builtin.append_, run_underlying ht, sizeOf, typeInfo, hi, Builtin.lenOf, Builtin.firstCells, hnc, storeCells]
  ·have hcells : ∀ j u, (nums .u8 ys)[j]? = some u → W.cell? (ad.add j) = some u := by
    intro j u hu
    have hj : j < ys.length := by
     rcases Nat.lt_or_ge j ys.length with h | h
     ·exact h
     ·simp [nums, List.getElem?_eq_none h] at hu
    obtain ⟨ad', h', hc⟩ := HR.2.2 (by omega)
    injection h' with h'
    subst h'
    have := hc j (by omega)
    simp [nums, List.getElem?_eq_getElem hj] at hu
    subst hu
    rw [this]
    simp [List.getD_eq_getElem?_getD, List.getElem?_eq_getElem hj]
   obtain ⟨v1, w1, hr, h2, h3, _, h5⟩ := run_append_own_at (P := Tryz.prog) W base 23 o.type 5 i0 (.int .u8 0) 1 1 ht hi hz0 hz1 hz2 rfl (by omega) v xs.length (nums .u8 xs) HO ad m c (nums .u8 ys) (by simp [nums, hm]) hcells
    (by intro u hu; simp only [nums, List.mem_map] at hu; obtain ⟨q, _, rfl⟩ := hu; rfl) (by simp only [maxLen]; omega) hl hbase
   exact ⟨v1, w1, hr, by simpa [nums, hm] using h2, h3, h5⟩
 obtain ⟨v1, w1, hr, hown, hg, hat⟩ := hrun
 have hw : Region.wanted o (yielded ops a.tmps) = true := by simp [Region.wanted, hgd]
 rw [if_pos hw]
 unfold Oper.wp execOp
 simp only [ho, resolve, invoke, builtin, Sem.run_bind, Sem.run_pure, Result.andThen_ok, List.map_toArray, List.map_cons, List.map_nil, hs, hx, hr]
 exact h v1 w1 hown (HB.grown hg hbase (Go.Proofs.YtkeakdjbidbegaaGreatDoorW.PrintWords.own_base HO))
def elemVal (name : ByteArray) (t : VT) : Value := .agg #[.string name, .int .i64 t.kind, .string t.text, .string t.more, .int .i64 t.n, .int .u64 t.bits, .int .u64 t.high, .slice t.bA t.bs.length t.bc, .slice t.kA t.kids.length t.kc]
theorem DocElem_calls (name : ByteArray) (t : VT) (body : List Int) (hn : name.size ≤ 300) (hl : body.length ≤ 90000000) (w : World)
  (HV : ∀ W, Below w.heap.size w W → Calls Tryz.prog 14 #[t.val] W (Grew W.heap.size W [] body)) :
  Calls Tryz.prog 6 #[elemVal name t] w (Grew w.heap.size w [] (headB t.kind name ++ body)) := by
 obtain ⟨kind, text, more, n, bits, high, bA, bs, bc, kA, kids, kc⟩ := t
 simp only [elemVal, VT.val, VT.kind, VT.text, VT.more, VT.n, VT.bits, VT.high, VT.bA, VT.bs, VT.bc, VT.kA, VT.kids, VT.kc] at HV ⊢
 have HVV := Lib.hid HV
 clear HV
 obtain ⟨W0, hW0⟩ : ∃ W, w.alloc (.cells #[.string name, .int .i64 kind, .string text, .string more, .int .i64 n, .int .u64 bits, .int .u64 high, .slice bA bs.length bc, .slice kA kids.length kc] 30) = W := ⟨_, rfl⟩
 have HZ := Lib.hid (show W0.heap.size = w.heap.size + 1 by rw [← hW0]; simp)
 have HW0 : Hid (Below w.heap.size w W0) := by rw [← hW0]; exact (Below.refl _ _).alloc (Nat.le_refl _) _
 have HWW : Hid (∀ W, Below (w.heap.size + 1) W0 W → Below w.heap.size w W) := fun W h => HW0.out.trans (h.mono (by omega))
 have HQ : Hid (∀ W, Below (w.heap.size + 1) W0 W → Below (w.heap.size + 1) W0 W ∧ W.cell? ⟨w.heap.size, 0, none⟩ = some (.string name) ∧ W.cell? ⟨w.heap.size, 1, none⟩ = some (.int .i64 kind) ∧ W.cell? ⟨w.heap.size, 2, none⟩ = some (.string text) ∧ W.cell? ⟨w.heap.size, 3, none⟩ = some (.string more) ∧ W.cell? ⟨w.heap.size, 4, none⟩ = some (.int .i64 n) ∧ W.cell? ⟨w.heap.size, 5, none⟩ = some (.int .u64 bits) ∧ W.cell? ⟨w.heap.size, 6, none⟩ = some (.int .u64 high) ∧ W.cell? ⟨w.heap.size, 7, none⟩ = some (.slice bA bs.length bc) ∧ W.cell? ⟨w.heap.size, 8, none⟩ = some (.slice kA kids.length kc)) := by
  intro W h
  refine ⟨h, ?_, ?_, ?_, ?_, ?_, ?_, ?_, ?_, ?_⟩ <;> exact (h.cell (p := ⟨w.heap.size, _, none⟩) (by simp)).trans (by rw [← hW0]; simp [go_sem])
 go_enter Tryz.func6, Tryz.ntmps6
 go_wp2_with fail
 first | (go_must (go_region_held3 (fun w' => Below (w.heap.size + 1) W0 w' ∧ w'.cell? ⟨w.heap.size, 0, none⟩ = some (.string name) ∧ w'.cell? ⟨w.heap.size, 1, none⟩ = some (.int .i64 kind) ∧ w'.cell? ⟨w.heap.size, 2, none⟩ = some (.string text) ∧ w'.cell? ⟨w.heap.size, 3, none⟩ = some (.string more) ∧ w'.cell? ⟨w.heap.size, 4, none⟩ = some (.int .i64 n) ∧ w'.cell? ⟨w.heap.size, 5, none⟩ = some (.int .u64 bits) ∧ w'.cell? ⟨w.heap.size, 6, none⟩ = some (.int .u64 high) ∧ w'.cell? ⟨w.heap.size, 7, none⟩ = some (.slice bA bs.length bc) ∧ w'.cell? ⟨w.heap.size, 8, none⟩ = some (.slice kA kids.length kc)) (first | assumption | exact HQ.out _ (Below.refl _ _).drew | exact HQ.out _ HP.out | exact HQ.out _ HP.out.drew) (first | (go_at_call 13; go_must (refine (DocHead_calls kind name hn _).mono ?_; rintro e w1 ⟨v1, rfl, ho, hw⟩; have HO1 := Lib.hid (own_base ho (show w.heap.size + 1 ≤ _ by have := (And.left (by assumption : Below (w.heap.size + 1) W0 _ ∧ _)).size; have := HZ.out; omega)); have HP := Lib.hid ((And.left (by assumption : Below (w.heap.size + 1) W0 _ ∧ _)).trans (hw.mono (by have := (And.left (by assumption : Below (w.heap.size + 1) W0 _ ∧ _)).size; have := HZ.out; omega))); clear ho hw)) | (go_at_call 14; go_must (refine (HVV.out _ (HWW.out _ (And.left (by assumption : Below (w.heap.size + 1) W0 _ ∧ _)))).mono ?_; rintro e w2 ⟨v2, rfl, ho, hw⟩; have HO2 := Lib.hid (own_old (W' := w2) (by exact HO1.out) hw); obtain ⟨A2, c2, hv2, hr2⟩ := own_reads ho; subst hv2; have HR2 := Lib.hid hr2; have HPP := Lib.hid ((And.left (by assumption : Below (w.heap.size + 1) W0 _ ∧ _)).trans (hw.mono (by have := (And.left (by assumption : Below (w.heap.size + 1) W0 _ ∧ _)).size; have := HZ.out; omega))); clear HP; have HP := HPP; clear HPP ho hw hr2)) | (refine step_append_row (w0 := W0) (w.heap.size + 1) (by rfl) (.tmp 8) (.tmp 11) (by rfl) _ _ _ A2 _ c2 (by rfl) (by rfl) HO2.out HR2.out HP.out (by have := HP.out.size; have := HZ.out; omega) (by simp only [List.length_append, List.length_nil, headB, List.length_cons, bytesOf_length]; omega) ?_; intro v3 w3 n0 n1; have HO3 := Lib.hid n0; clear HP; have HP := Lib.hid n1; clear n0 n1)))) | skip
 go_wp2_with fail
 go_ret
 exact Grew.up (w1 := w) rfl (own_cast HO3.out (by simp only [List.nil_append])) (by omega) (HWW.out _ HP.out)
def bodyTo (d : Nat) (kids : List (ByteArray × VT)) (k : Nat) : List Int := ((kids.take k).map fun x => headB x.2.kind x.1 ++ VT.doc d x.2).flatten
theorem bodyTo_succ (d : Nat) (kids : List (ByteArray × VT)) (k : Nat) (h : k < kids.length) : bodyTo d kids (k + 1) = bodyTo d kids k ++ (headB kids[k].2.kind kids[k].1 ++ VT.doc d kids[k].2) := by
 unfold bodyTo
 rw [List.take_add_one, List.getElem?_eq_getElem h, Option.toList_some, List.map_append, List.flatten_append]
 simp only [List.map_cons, List.map_nil, List.flatten_cons, List.flatten_nil, List.append_nil]
theorem bodyTo_all (d : Nat) (kids : List (ByteArray × VT)) : bodyTo d kids kids.length = (kids.map fun x => headB x.2.kind x.1 ++ VT.doc d x.2).flatten := by unfold bodyTo; rw [List.take_length]
theorem bodyTo_le (d : Nat) (kids : List (ByteArray × VT)) : ∀ j k, j + k = kids.length → (bodyTo d kids j).length ≤ (bodyTo d kids kids.length).length := by
 intro j k
 induction k generalizing j with
 | zero => intro h; rw [show j = kids.length by omega]; omega
 | succ k ih =>
  intro h
  have := ih (j + 1) (by omega)
  rw [bodyTo_succ d kids j (by omega), List.length_append] at this
  omega
theorem DocBytes_calls (d : Nat) (kA : Option Addr) (kids : List (ByteArray × VT)) (kc : Nat) (w : World) (hk3 : kids.length ≤ 300) (hn3 : ∀ i (h : i < kids.length), kids[i].1.size ≤ 300) (hl : (bodyTo d kids kids.length).length ≤ 80000000)
  (hcell : 0 < kids.length → ∃ ad, kA = some ad ∧ ∀ i (h : i < kids.length), w.cell? (ad.add (9 * i)) = some (.string kids[i].1) ∧ kids[i].1.size ≤ maxLen ∧
    (∀ j (hj : j < 8), w.cell? (ad.add (9 * i + 1 + j)) = some (kids[i].2.cells[j]'(by simpa [VT.cells] using hj))) ∧ VT.In w d kids[i].2)
  (HV : ∀ i (h : i < kids.length) (W : World), Below w.heap.size w W → Calls Tryz.prog 14 #[kids[i].2.val] W (Grew W.heap.size W [] (VT.doc d kids[i].2))) :
  Calls Tryz.prog 25 #[.slice kA kids.length kc] w (Grew w.heap.size w [] (docOf (bodyTo d kids kids.length))) := by
 have HVV := Lib.hid HV
 have HCE := Lib.hid hcell
 have HN3 := Lib.hid hn3
 have HL := Lib.hid hl
 clear HV hcell hn3 hl
 go_enter Tryz.func25, Tryz.ntmps25
 go_wp2
 go_loopw [3, 4] (fun r i wr => ∃ k : Nat, k ≤ kids.length ∧ i = .int .i64 k ∧ Hid (Own wr w.heap.size r (bodyTo d kids k)) ∧ Hid (Below w.heap.size w wr)) (fun _ i _ => kids.length - (intOf i).toNat)
 case atStart => exact ⟨0, Nat.zero_le _, rfl, own_nil _ _ _ _, Below.refl _ _⟩
 case round =>
  obtain ⟨k, hk, rfl, HO, HW⟩ := hrel
  by_cases hlt : k < kids.length
  ·have hd' : decide ((k : Int) < kids.length) = true := decide_eq_true (by omega)
   obtain ⟨ad, rfl, hkid⟩ := HCE.out (by omega)
   obtain ⟨p, name, t, hp, hkt, hn, ht, hpb, c0, c1, c2, c3, c4, c5, c6, c7, c8⟩ := VT.kid HW.out hlt hkid
   clear hkid
   have HKT := Lib.hid hkt
   clear hkt ht
   have hn300 : name.size ≤ 300 := by have := HN3.out k hlt; rw [HKT.out] at this; exact this
   have hs := bodyTo_succ d kids k hlt
   rw [HKT.out] at hs
   have hle := bodyTo_le d kids (k + 1) (kids.length - (k + 1)) (by omega)
   have HS := Lib.hid hs
   have HLE := Lib.hid hle
   clear hs hle
   have hb8 : (VT.doc d t).length ≤ 80000000 ∧ (bodyTo d kids k).length + (headB t.kind name ++ VT.doc d t).length ≤ 80000000 := by
    have h1 := HLE.out
    have h2 := HL.out
    rw [HS.out] at h1
    simp only [List.length_append] at h1 ⊢
    omega
   have HB8 := Lib.hid hb8
   clear hb8
   have HC := Lib.hid (DocElem_calls name t (VT.doc d t) hn300 (by have := HB8.out; omega) wr (fun W h => by have := HVV.out k hlt W (HW.out.trans (h.mono HW.out.size)); rw [HKT.out] at this; exact this))
   simp only [elemVal] at HC
   obtain ⟨E, hE⟩ : ∃ E, headB t.kind name ++ VT.doc d t = E := ⟨_, rfl⟩
   rw [hE] at HC HB8 HS
   clear hE
   go_wp2_with fail
   refine HC.out.mono ?_
   rintro e w2 ⟨v2, rfl, ho, hw⟩
   have HO2 := Lib.hid (own_old HO.out hw)
   have HW2 := Lib.hid (HW.out.trans (hw.mono HW.out.size))
   obtain ⟨A2, c2', hv2, hr2⟩ := own_reads (own_cast ho (List.nil_append E))
   subst hv2
   have HR2 := Lib.hid hr2
   clear ho hw hr2
   go_wp2_with (at_builtin; refine append_row (w0 := w) w.heap.size rfl (.tmp 12) (.tmp 17) rfl _ _ _ A2 _ c2' rfl rfl HO2.out HR2.out HW2.out HW2.out.size (by have := HB8.out; omega) ?_; intro v3 w3 n0 n1 n2 n3; have HO3 := Lib.hid n0; have HW3 := Lib.hid n1; clear n0 n1 n2 n3)
   go_roundw
   case rel => exact ⟨k + 1, by omega, by first | rfl | (congr 1; omega), own_cast HO3.out (by rw [HS.out]), HW3.out⟩
   case measure => simp [intOf] <;> omega
  ·obtain rfl : k = kids.length := by omega
   obtain ⟨B, hBq⟩ : ∃ B, bodyTo d kids kids.length = B := ⟨_, rfl⟩
   rw [hBq] at HO HL
   have HBQ := Lib.hid hBq
   clear hBq
   obtain ⟨A1, c1, hv1, hr1⟩ := own_reads HO.out
   subst hv1
   have HR1 := Lib.hid hr1
   clear hr1
   have HC := Lib.hid (DocInt32_calls ((B.length : Int) + 5) (by omega) (by have := HL.out; omega) wr wr.heap.size (.slice none 0 0) [] (by simp) (own_nil _ _ _ _) (Nat.le_refl _))
   have hBl := HL.out
   go_wp2_with fail
   refine HC.out.mono ?_
   rintro e w2 ⟨v2, rfl, ho, hw⟩
   have HO2 := Lib.hid ho
   have HW2 := Lib.hid hw
   have HR2 := Lib.hid (HR1.out.below hw)
   clear ho hw
   go_wp2_with (first | (at_builtin; refine append_row (w0 := wr) wr.heap.size rfl (.tmp 23) (.tmp 24) rfl _ _ _ A1 _ c1 rfl rfl HO2.out HR2.out HW2.out HW2.out.size (by simp only [List.length_append, List.length_nil, leI_length]; omega) ?_; intro v3 w3 n0 n1 n2 n3; clear HO2 HW2; have HO2 := Lib.hid n0; have HW2 := Lib.hid n1; clear n0 n1 n2 n3) | (at_builtin; refine append_lit (w0 := wr) wr.heap.size rfl (.tmp 26) (.tmp 27) rfl _ _ [0] rfl rfl HO2.out HW2.out HW2.out.size (by simp only [List.length_append, List.length_nil, List.length_cons, leI_length]; omega) ?_; intro v4 w4 n0 n1 n2 n3; clear HO2 HW2; have HO2 := Lib.hid n0; have HW2 := Lib.hid n1; clear n0 n1 n2 n3))
   go_ret
   exact Grew.up (w1 := w) rfl (own_cast HO2.out (by rw [HBQ.out]; unfold docOf; simp only [List.nil_append, List.append_assoc])) HW.out.size (HW.out.trans (HW2.out.mono HW.out.size))
theorem docV_kids (K : Int) (hK : K = 3 ∨ K = 4) (text more : ByteArray) (n bits high : Int) (bA : Option Addr) (bl bc : Nat) (kA : Option Addr) (kl kc : Nat) (w : World) (body : List Int)
  (HB : ∀ W, Below w.heap.size w W → Calls Tryz.prog 25 #[.slice kA kl kc] W (Grew W.heap.size W [] body)) :
  Calls Tryz.prog 14 #[.agg #[.int .i64 K, .string text, .string more, .int .i64 n, .int .u64 bits, .int .u64 high, .slice bA bl bc, .slice kA kl kc]] w (Grew w.heap.size w [] body) := by
 have HBB := Lib.hid HB
 clear HB
 rcases hK with rfl | rfl
 all_goals
  go_enter Tryz.func14, Tryz.ntmps14
  go_wp2_with fail
  refine (HBB.out _ ((Below.refl _ _).alloc (Nat.le_refl _) _)).mono ?_
  rintro e w2 ⟨v2, rfl, ho, hw⟩
  have HO := Lib.hid (own_base (b2 := w.heap.size) ho (by simp))
  have HW := Lib.hid (((Below.refl w.heap.size w).alloc (Nat.le_refl _) _).trans (hw.mono (by simp)))
  clear ho hw
  go_wp2_with fail
  go_ret
  exact ⟨_, rfl, HO.out, HW.out⟩
theorem known_cases {k : Int} (h : knownF k = true) : k = 1 ∨ k = 2 ∨ k = 3 ∨ k = 4 ∨ k = 5 ∨ k = 6 ∨ k = 7 ∨ k = 8 ∨ k = 9 ∨ k = 10 ∨ k = 11 ∨ k = 12 ∨ k = 13 ∨ k = 14 ∨ k = 15 ∨ k = 16 ∨ k = 17 ∨ k = 18 ∨ k = 19 ∨ k = 255 ∨ k = 127 := by
 simp only [knownF, Bool.or_eq_true, decide_eq_true_eq, beq_iff_eq] at h
 omega
theorem le_sum_cnt (d : Nat) : ∀ (kids : List (ByteArray × VT)) (i : Nat) (h : i < kids.length), VT.cnt d kids[i].2 ≤ (kids.map fun x => VT.cnt d x.2).sum
 | x :: l, 0, _ => by simp
 | x :: l, i + 1, h => by
  have := le_sum_cnt d l i (by simpa using h)
  simp only [List.map_cons, List.sum_cons, List.getElem_cons_succ]
  omega
theorem DocValue_calls {D : Int → List Int} : ∀ (d : Nat) (t : VT) (w : World), t.In w d → t.Ok D d → t.cnt d ≤ 400 →
  Calls Tryz.prog 14 #[t.val] w (Grew w.heap.size w [] (t.doc d)) := by
 intro d
 induction d with
 | zero => intro t w _ h; exact h.elim
 | succ d ih =>
  intro t w hin hok hcnt
  have hlen := doc_length (d + 1) t hok
  obtain ⟨kind, text, more, n, bits, high, bA, bs, bc, kA, kids, kc⟩ := t
  obtain ⟨h1, h2, h3, h4, h5, h6, h7, h8, h9, h10, h11, h12⟩ := hin
  obtain ⟨hl, hk, hkid⟩ := hok
  have ht := hl.text.1
  have hm := hl.more.1
  have hbs := hl.bs
  have hns := hl.noscope
  have hkn := known_cases hl.known
  simp only [VT.val, VT.kind, VT.text, VT.more, VT.n, VT.bits, VT.high, VT.bA, VT.bs, VT.bc, VT.kA, VT.kids, VT.kc] at *
  have key : (kind = 3 ∨ kind = 4) → Calls Tryz.prog 14 #[.agg #[.int .i64 kind, .string text, .string more, .int .i64 n, .int .u64 bits, .int .u64 high, .slice bA bs.length bc, .slice kA kids.length kc]] w (Grew w.heap.size w [] (VT.doc (d + 1) (.mk kind text more n bits high bA bs bc kA kids kc))) := by
   intro hk34
   have e : VT.doc (d + 1) (.mk kind text more n bits high bA bs bc kA kids kc) = docOf (bodyTo d kids kids.length) := by
    rw [bodyTo_all]
    exact if_pos hk34
   have hcn : 1 + (kids.map fun x => VT.cnt d x.2).sum ≤ 400 := hcnt
   have hbl : (bodyTo d kids kids.length).length ≤ 80000000 := by
    have h0 : (VT.doc (d + 1) (.mk kind text more n bits high bA bs bc kA kids kc)).length + 302 ≤ 2000 * 400 := Nat.le_trans hlen (Nat.mul_le_mul_left _ hcnt)
    rw [e] at h0
    unfold docOf at h0
    rw [List.length_append, List.length_append] at h0
    omega
   rw [e]
   refine docV_kids kind hk34 text more n bits high bA bs.length bc kA kids.length kc w _ fun W hW => ?_
   refine DocBytes_calls d kA kids kc W hk (fun i hi => (hkid i hi hk34).1.2.1) hbl (fun h0 => ?_) (fun i hi W2 hW2 => ?_)
   ·obtain ⟨ad, ha, hc⟩ := h12 h0
    refine ⟨ad, ha, fun i hi => ?_⟩
    obtain ⟨c1, c2, c3, c4⟩ := hc i hi
    exact ⟨pw_cell_below hW c1, c2, fun j hj => pw_cell_below hW (c3 j hj), c4.below hW⟩
   ·obtain ⟨ad, ha, hc⟩ := h12 (by omega)
    have := le_sum_cnt d kids i hi
    exact ih _ W2 ((hc i hi).2.2.2.below (hW.trans (hW2.mono hW.size))) (hkid i hi hk34).2 (by omega)
  have leaf : ∀ ex : List Int, ¬ (kind = 3 ∨ kind = 4) → leafB (.mk kind text more n bits high bA bs bc kA kids kc) = ex → VT.doc (d + 1) (.mk kind text more n bits high bA bs bc kA kids kc) = ex := by
   intro ex h he
   rw [← he]
   exact if_neg h
  rcases hkn with rfl | rfl | rfl | rfl | rfl | rfl | rfl | rfl | rfl | rfl | rfl | rfl | rfl | rfl | rfl | rfl | rfl | rfl | rfl | rfl | rfl
  ·rw [leaf (leI 8 bits) (by decide) (by simp [leafB, VT.kind, VT.n, VT.bs, VT.text, VT.more, VT.bits, VT.high])]
   exact docV_1 text more n bits high bA bs bc kA kids.length kc w h2 h3 h4 ht hm hbs h7
  ·rw [leaf (txtB text) (by decide) (by simp [leafB, VT.kind, VT.n, VT.bs, VT.text, VT.more, VT.bits, VT.high])]
   exact docV_2 text more n bits high bA bs bc kA kids.length kc w h2 h3 h4 ht hm hbs h7
  ·exact key (by omega)
  ·exact key (by omega)
  ·by_cases hz : n = 2
   ·rw [leaf (leI 4 (bs.length + 4) ++ 2 :: leI 4 bs.length ++ bs) (by decide) (by simp [leafB, VT.kind, VT.n, VT.bs, hz])]
    exact docV_5b text more n bits high bA bs bc kA kids.length kc w h2 h3 h4 ht hm hbs h7 hz
   ·rw [leaf (leI 4 bs.length ++ [n % 256] ++ bs) (by decide) (by simp [leafB, VT.kind, VT.n, VT.bs, hz])]
    exact docV_5a text more n bits high bA bs bc kA kids.length kc w h2 h3 h4 ht hm hbs h7 hz
  ·rw [leaf ([]) (by decide) (by simp [leafB, VT.kind, VT.n, VT.bs, VT.text, VT.more, VT.bits, VT.high])]
   exact docV_6 text more n bits high bA bs bc kA kids.length kc w h2 h3 h4 ht hm hbs h7
  ·rw [leaf (bs) (by decide) (by simp [leafB, VT.kind, VT.n, VT.bs, VT.text, VT.more, VT.bits, VT.high])]
   exact docV_7 text more n bits high bA bs bc kA kids.length kc w h2 h3 h4 ht hm hbs h7
  ·rw [leaf ([n % 256]) (by decide) (by simp [leafB, VT.kind, VT.n, VT.bs, VT.text, VT.more, VT.bits, VT.high])]
   exact docV_8 text more n bits high bA bs bc kA kids.length kc w h2 h3 h4 ht hm hbs h7
  ·rw [leaf (leI 8 n) (by decide) (by simp [leafB, VT.kind, VT.n, VT.bs, VT.text, VT.more, VT.bits, VT.high])]
   exact docV_9 text more n bits high bA bs bc kA kids.length kc w h2 h3 h4 ht hm hbs h7
  ·rw [leaf ([]) (by decide) (by simp [leafB, VT.kind, VT.n, VT.bs, VT.text, VT.more, VT.bits, VT.high])]
   exact docV_10 text more n bits high bA bs bc kA kids.length kc w h2 h3 h4 ht hm hbs h7
  ·rw [leaf (bytesOf text ++ 0 :: (bytesOf more ++ [0])) (by decide) (by simp [leafB, VT.kind, VT.n, VT.bs, VT.text, VT.more, VT.bits, VT.high])]
   exact docV_11 text more n bits high bA bs bc kA kids.length kc w h2 h3 h4 ht hm hbs h7
  ·rw [leaf (txtB text ++ bs) (by decide) (by simp [leafB, VT.kind, VT.n, VT.bs, VT.text, VT.more, VT.bits, VT.high])]
   exact docV_12 text more n bits high bA bs bc kA kids.length kc w h2 h3 h4 ht hm hbs h7
  ·rw [leaf (txtB text) (by decide) (by simp [leafB, VT.kind, VT.n, VT.bs, VT.text, VT.more, VT.bits, VT.high])]
   exact docV_13 text more n bits high bA bs bc kA kids.length kc w h2 h3 h4 ht hm hbs h7
  ·rw [leaf (txtB text) (by decide) (by simp [leafB, VT.kind, VT.n, VT.bs, VT.text, VT.more, VT.bits, VT.high])]
   exact docV_14 text more n bits high bA bs bc kA kids.length kc w h2 h3 h4 ht hm hbs h7
  ·exact absurd rfl hns
  ·rw [leaf (leI 4 n) (by decide) (by simp [leafB, VT.kind, VT.n, VT.bs, VT.text, VT.more, VT.bits, VT.high])]
   exact docV_16 text more n bits high bA bs bc kA kids.length kc w h2 h3 h4 ht hm hbs h7
  ·rw [leaf (leI 8 bits) (by decide) (by simp [leafB, VT.kind, VT.n, VT.bs, VT.text, VT.more, VT.bits, VT.high])]
   exact docV_17 text more n bits high bA bs bc kA kids.length kc w h2 h3 h4 ht hm hbs h7
  ·rw [leaf (leI 8 n) (by decide) (by simp [leafB, VT.kind, VT.n, VT.bs, VT.text, VT.more, VT.bits, VT.high])]
   exact docV_18 text more n bits high bA bs bc kA kids.length kc w h2 h3 h4 ht hm hbs h7
  ·rw [leaf (leI 8 bits ++ leI 8 high) (by decide) (by simp [leafB, VT.kind, VT.n, VT.bs, VT.text, VT.more, VT.bits, VT.high])]
   exact docV_19 text more n bits high bA bs bc kA kids.length kc w h2 h3 h4 ht hm hbs h7
  ·rw [leaf ([]) (by decide) (by simp [leafB, VT.kind, VT.n, VT.bs, VT.text, VT.more, VT.bits, VT.high])]
   exact docV_255 text more n bits high bA bs bc kA kids.length kc w h2 h3 h4 ht hm hbs h7
  ·rw [leaf ([]) (by decide) (by simp [leafB, VT.kind, VT.n, VT.bs, VT.text, VT.more, VT.bits, VT.high])]
   exact docV_127 text more n bits high bA bs bc kA kids.length kc w h2 h3 h4 ht hm hbs h7
theorem DocElem_all {D : Int → List Int} (d : Nat) (name : ByteArray) (t : VT) (w : World) (hn : name.size ≤ 300) (hin : t.In w d) (hok : t.Ok D d) (hcnt : t.cnt d ≤ 400) :
  Calls Tryz.prog 6 #[elemVal name t] w (Grew w.heap.size w [] (elemB d (name, t))) :=
 DocElem_calls name t (t.doc d) hn (by have := doc_length d t hok; omega) w fun W hW => DocValue_calls d t W (hin.below hW) hok hcnt
instance (l : List Int) : Decidable (Low l) := by unfold Low; infer_instance
theorem digs_low (n : Nat) : Low (digs n) := fun x hx => by have := digs_mem n x hx; omega
theorem numF_low (n : Int) : Low (numF n) := by
 unfold numF
 split
 ·exact Low.cons (by decide) (by decide) (digs_low _)
 ·exact digs_low _
theorem b64c_low {n : Int} (h0 : 0 ≤ n) (h1 : n < 64) : 0 ≤ b64c n ∧ b64c n < 128 := by
 unfold b64c
 split
 ·omega
 ·split
  ·omega
  ·split
   ·omega
   ·split <;> omega
theorem b64L_low : ∀ l : List Int, (∀ x ∈ l, 0 ≤ x ∧ x ≤ 255) → Low (b64L l)
 | [], _ => Low.nil
 | [a], h => by
  have ha := h a (by simp)
  have e := b64c_low (n := a / 4) (by omega) (by omega)
  have e2 := b64c_low (n := a % 4 * 16) (by omega) (by omega)
  unfold b64L
  exact Low.cons e.1 e.2 (Low.cons e2.1 e2.2 (by decide))
 | [a, b], h => by
  have ha := h a (by simp)
  have hb := h b (by simp)
  have e := b64c_low (n := a / 4) (by omega) (by omega)
  have e2 := b64c_low (n := a % 4 * 16 + b / 16) (by omega) (by omega)
  have e3 := b64c_low (n := b % 16 * 4) (by omega) (by omega)
  unfold b64L
  exact Low.cons e.1 e.2 (Low.cons e2.1 e2.2 (Low.cons e3.1 e3.2 (by decide)))
 | a :: b :: c :: r, h => by
  have ha := h a (by simp)
  have hb := h b (by simp)
  have hc := h c (by simp)
  have e := b64c_low (n := a / 4) (by omega) (by omega)
  have e2 := b64c_low (n := a % 4 * 16 + b / 16) (by omega) (by omega)
  have e3 := b64c_low (n := b % 16 * 4 + c / 64) (by omega) (by omega)
  have e4 := b64c_low (n := c % 64) (by omega) (by omega)
  unfold b64L
  exact Low.cons e.1 e.2 (Low.cons e2.1 e2.2 (Low.cons e3.1 e3.2 (Low.cons e4.1 e4.2 (b64L_low r fun x hx => h x (by simp [hx])))))
theorem hexL_low : ∀ l : List Int, (∀ x ∈ l, 0 ≤ x ∧ x ≤ 255) → Low (hexL l)
 | [], _ => Low.nil
 | b :: r, h => by
  have hb := h b (by simp)
  have e1 := hexd_low (n := b / 16) (by omega) (by omega)
  have e2 := hexd_low (n := b % 16) (by omega) (by omega)
  exact Low.cons e1.1 e1.2 (Low.cons e2.1 e2.2 (hexL_low r fun x hx => h x (by simp [hx])))
theorem digsL_low {l : List Int} (h : ∀ x ∈ l, 48 ≤ x ∧ x ≤ 57) : Low l := fun x hx => by have := h x hx; omega
theorem decText_low (k : Int) (neg : Bool) {ds : List Int} (e : Int) (h : ∀ x ∈ ds, 48 ≤ x ∧ x ≤ 57) : Low (decTextF k neg ds e) := by
 have hd := digsL_low h
 have hs : Low (decSign neg) := by cases neg <;> decide
 unfold decTextF
 split
 ·decide
 ·split
  ·exact hs.append (by decide)
  ·refine hs.append ?_
   unfold decBody
   split
   ·refine (((hd.take 1).append ?_).append ?_).append (numF_low _)
    ·split
     ·exact Low.cons (by decide) (by decide) (hd.drop 1)
     ·exact Low.nil
    ·split <;> decide
   ·split
    ·exact hd
    ·unfold decFixed
     exact (((Low.replicate _).append hd).take _).append (Low.cons (by decide) (by decide) (((Low.replicate _).append hd).drop _))
structure Own8 (l : List Int) : Prop where
 u8 : U8 l
 first : ∃ x r, l = x :: r ∧ 0 ≤ x ∧ x < 128
theorem Own8.of {x : Int} {r : List Int} (h0 : 0 ≤ x) (h1 : x < 128) (h : U8 r) : Own8 (x :: r) := ⟨(U8.ascii [x] (by intro y hy; rw [List.mem_singleton] at hy; omega)).append h, x, r, rfl, h0, h1⟩
theorem Own8.low {x : Int} {r : List Int} (h : Low (x :: r)) : Own8 (x :: r) := ⟨h.u8, x, r, rfl, (h x (List.mem_cons_self ..)).1, (h x (List.mem_cons_self ..)).2⟩
theorem Own8.start {l : List Int} (h : Own8 l) : l = [] ∨ rn l 0 / 64 ≠ 2 := by
 obtain ⟨x, r, rfl, h0, h1⟩ := h.first
 exact low_first h0 h1
theorem Own8.pos {l : List Int} (h : Own8 l) : 1 ≤ l.length := by
 obtain ⟨x, r, rfl, _⟩ := h.first
 simp
theorem Own8.append {a b : List Int} (h : Own8 a) (k : U8 b) : Own8 (a ++ b) := by
 obtain ⟨x, r, rfl, h0, h1⟩ := h.first
 exact ⟨h.u8.append k, x, r ++ b, rfl, h0, h1⟩
theorem wrap_own {name s : List Int} (hn : Low name) (hs : U8 s) : Own8 (wrapL name s) := by
 unfold wrapL
 exact Own8.of (by decide) (by decide) (((((show Low [34] by decide).append hn).append (show Low [34, 58] by decide)).u8.append hs).append (show Low [125] by decide).u8)
theorem quo_low {s : List Int} (h : Low s) : Low (quoL s) := Low.cons (by decide) (by decide) (h.append (by decide))
theorem ext_own {s : ByteArray} (h : utf8F s = true) : Own8 (extStrF s true) := ⟨ext_U8 true h, 34, _, rfl, by decide, by decide⟩
theorem leaf_own {D : Int → List Int} {t : VT} (h : LeafOk D t) (hD : ∀ x, Low (D x)) (hb : ∀ x ∈ t.bs, 0 ≤ x ∧ x ≤ 255) (h3 : t.kind ≠ 3) (h4 : t.kind ≠ 4) : Own8 (leafL D t) := by
 have hx1 := ext_own h.text.2
 have hx2 := ext_own h.more.2
 unfold leafL
 by_cases k1 : t.kind = 1
 ·rw [if_pos k1]
  exact wrap_own (by decide) (quo_low (hD _)).u8
 rw [if_neg k1]
 by_cases k2 : t.kind = 2
 ·rw [if_pos k2]
  exact hx1
 rw [if_neg k2]
 by_cases k5 : t.kind = 5
 ·rw [if_pos k5]
  have hn := h.bin k5
  have e1 := hexd_low (n := t.n / 16) (by omega) (by omega)
  have e2 := hexd_low (n := t.n % 16) (by omega) (by omega)
  exact wrap_own (by decide) (((((show Low _ by decide).append (b64L_low _ hb)).append (show Low _ by decide)).append (Low.cons e1.1 e1.2 (Low.cons e2.1 e2.2 Low.nil))).append (show Low _ by decide)).u8
 rw [if_neg k5]
 by_cases k6 : t.kind = 6
 ·rw [if_pos k6]
  exact wrap_own (by decide) (show Low _ by decide).u8
 rw [if_neg k6]
 by_cases k7 : t.kind = 7
 ·rw [if_pos k7]
  exact wrap_own (by decide) (quo_low (hexL_low _ hb)).u8
 rw [if_neg k7]
 by_cases k8 : t.kind = 8
 ·rw [if_pos k8]
  by_cases hn : t.n = 1
  ·rw [if_pos hn]; exact Own8.low (by decide)
  ·rw [if_neg hn]; exact Own8.low (by decide)
 rw [if_neg k8]
 by_cases k9 : t.kind = 9
 ·rw [if_pos k9]
  exact wrap_own (by decide) (((show Low _ by decide).append (numF_low _)).append (show Low _ by decide)).u8
 rw [if_neg k9]
 by_cases k10 : t.kind = 10
 ·rw [if_pos k10]
  exact Own8.low (by decide)
 rw [if_neg k10]
 by_cases k11 : t.kind = 11
 ·rw [if_pos k11]
  exact wrap_own (by decide) (((((show Low _ by decide).u8.append hx1.u8).append (show Low _ by decide).u8).append hx2.u8).append (show Low _ by decide).u8)
 rw [if_neg k11]
 by_cases k12 : t.kind = 12
 ·rw [if_pos k12]
  exact wrap_own (by decide) (((((show Low _ by decide).u8.append hx1.u8).append (show Low _ by decide).u8).append (quo_low (hexL_low _ hb)).u8).append (show Low _ by decide).u8)
 rw [if_neg k12]
 by_cases k13 : t.kind = 13
 ·rw [if_pos k13]
  exact wrap_own (by decide) hx1.u8
 rw [if_neg k13]
 by_cases k14 : t.kind = 14
 ·rw [if_pos k14]
  exact wrap_own (by decide) hx1.u8
 rw [if_neg k14]
 by_cases k16 : t.kind = 16
 ·rw [if_pos k16]
  exact wrap_own (by decide) (quo_low (numF_low _)).u8
 rw [if_neg k16]
 by_cases k17 : t.kind = 17
 ·rw [if_pos k17]
  exact wrap_own (by decide) (((((show Low _ by decide).append (digs_low _)).append (show Low _ by decide)).append (digs_low _)).append (show Low _ by decide)).u8
 rw [if_neg k17]
 by_cases k18 : t.kind = 18
 ·rw [if_pos k18]
  exact wrap_own (by decide) (quo_low (numF_low _)).u8
 rw [if_neg k18]
 by_cases k19 : t.kind = 19
 ·rw [if_pos k19]
  exact wrap_own (by decide) (quo_low (decText_low _ _ _ (decDig_mem _ _))).u8
 rw [if_neg k19]
 by_cases k255 : t.kind = 255
 ·rw [if_pos k255]
  exact wrap_own (by decide) (show Low _ by decide).u8
 rw [if_neg k255]
 by_cases k127 : t.kind = 127
 ·rw [if_pos k127]
  exact wrap_own (by decide) (show Low _ by decide).u8
 rw [if_neg k127]
 exfalso
 have := h.known
 have := h.noscope
 simp only [knownF, Bool.or_eq_true, decide_eq_true_eq, beq_iff_eq] at *
 omega
theorem mem_own {name : ByteArray} {s : List Int} (hn : utf8F name = true) (hs : U8 s) : Own8 (memL name s) :=
 Own8.of (by decide) (by decide) (((utf8_U8 hn).append (show Low _ by decide).u8).append hs)
theorem join_U8 : ∀ l : List (List Int), (∀ x ∈ l, U8 x) → U8 (joinL l) := by
 intro l h
 cases l with
 | nil => exact .nil
 | cons x r =>
  unfold joinL
  refine (h x (by simp)).append ?_
  have hr : ∀ y ∈ r, U8 y := fun y hy => h y (by simp [hy])
  clear h
  induction r with
  | nil => exact .nil
  | cons y r ih =>
   simp only [List.map_cons, List.flatten_cons]
   exact ((show Low [44] by decide).u8.append (hr y (by simp))).append (ih fun z hz => hr z (by simp [hz]))
def VT.Bys : Nat → VT → Prop
 | 0, _ => True
 | d + 1, t => (∀ x ∈ t.bs, 0 ≤ x ∧ x ≤ 255) ∧ ∀ i (h : i < t.kids.length), VT.Bys d t.kids[i].2
theorem long_own {D : Int → List Int} (hD : ∀ x, Low (D x)) : ∀ (d : Nat) (t : VT), t.Ok D d → t.Bys d → Own8 (t.long D d) := by
 intro d
 induction d with
 | zero => intro t h; exact h.elim
 | succ d ih =>
  intro t h hb
  obtain ⟨hl, hk, hkid⟩ := h
  unfold VT.long
  have hin : ∀ x ∈ t.kids, ∃ i, ∃ (h : i < t.kids.length), t.kids[i] = x := fun x hx => List.getElem_of_mem hx
  by_cases h3 : t.kind = 3
  ·rw [if_pos h3]
   refine Own8.of (by decide) (by decide) ((join_U8 _ fun y hy => ?_).append (show Low _ by decide).u8)
   obtain ⟨x, hx, rfl⟩ := List.mem_map.1 hy
   obtain ⟨i, hi, rfl⟩ := hin x hx
   obtain ⟨hn, ho⟩ := hkid i hi (.inl h3)
   exact (mem_own hn.2.2.1 (ih _ ho (hb.2 i hi)).u8).u8
  ·rw [if_neg h3]
   by_cases h4 : t.kind = 4
   ·rw [if_pos h4]
    refine Own8.of (by decide) (by decide) ((join_U8 _ fun y hy => ?_).append (show Low _ by decide).u8)
    obtain ⟨x, hx, rfl⟩ := List.mem_map.1 hy
    obtain ⟨i, hi, rfl⟩ := hin x hx
    exact (ih _ (hkid i hi (.inr h4)).2 (hb.2 i hi)).u8
   ·rw [if_neg h4]
    exact leaf_own hl hD hb.1 h3 h4
theorem escC_length (esc : Bool) (c : Int) (raw : List Int) : (escC esc c raw).length ≤ 6 ∨ escC esc c raw = raw := by
 unfold escC
 by_cases h1 : c = 34 ∨ c = 92
 ·rw [if_pos h1]; exact .inl (by simp)
 rw [if_neg h1]
 by_cases h2 : c = 8
 ·rw [if_pos h2]; exact .inl (by simp)
 rw [if_neg h2]
 by_cases h3 : c = 9
 ·rw [if_pos h3]; exact .inl (by simp)
 rw [if_neg h3]
 by_cases h4 : c = 10
 ·rw [if_pos h4]; exact .inl (by simp)
 rw [if_neg h4]
 by_cases h5 : c = 12
 ·rw [if_pos h5]; exact .inl (by simp)
 rw [if_neg h5]
 by_cases h6 : c = 13
 ·rw [if_pos h6]; exact .inl (by simp)
 rw [if_neg h6]
 by_cases h7 : c < 32 ∨ esc = true ∧ (c = 60 ∨ c = 62 ∨ c = 38)
 ·rw [if_pos h7]; exact .inl (by simp)
 rw [if_neg h7]
 by_cases h8 : c = 8232 ∨ c = 8233
 ·rw [if_pos h8]; exact .inl (by simp)
 rw [if_neg h8]
 exact .inr rfl
theorem extStrL_length (s : ByteArray) (esc : Bool) : ∀ f g k : Nat, k ≤ s.size → s.size < k + g → utf8L (bt s) s.size g k = true → (extStrL s esc f k).length ≤ 6 * (s.size - k) := by
 intro f
 induction f with
 | zero => intro g k _ _ _; exact Nat.zero_le _
 | succ f ih =>
  intro g k hks hg hu
  unfold extStrL
  by_cases hk : k < s.size
  ·rw [if_pos hk]
   obtain ⟨g, rfl⟩ : ∃ m, g = m + 1 := ⟨g - 1, by omega⟩
   unfold utf8L at hu
   rw [if_pos hk] at hu
   by_cases h0 : (runeF (fun j => bt s (k + j)) (s.size - k)).1 = 0
   ·rw [if_pos h0] at hu; cases hu
   ·rw [if_neg h0] at hu
    obtain ⟨n, a1, a2, a3, a4, a5⟩ := rune_at hk h0
    have hle := (runeF_le (fun j => bt s (k + j)) (s.size - k)).2
    rw [a4, Int.toNat_natCast] at hu ⊢
    have hn : k + n ≤ s.size := by omega
    have hr := ih g (k + n) hn (by omega) hu
    rw [List.length_append]
    have hb : (bytesOf (s.extract k (k + n))).length ≤ 6 * n := by
     rw [bytes_extract, List.length_take]
     omega
    rcases escC_length esc (runeF (fun j => bt s (k + j)) (s.size - k)).2 (bytesOf (s.extract k (k + n))) with h | h
    ·omega
    ·rw [h]; omega
  ·rw [if_neg hk]; exact Nat.zero_le _
theorem extStrF_length {s : ByteArray} (esc : Bool) (h : utf8F s = true) : (extStrF s esc).length ≤ 6 * s.size + 2 := by
 have h1 := extStrL_length s esc (s.size + 1) (s.size + 1) 0 (Nat.zero_le _) (by omega) h
 unfold extStrF
 rw [List.length_append, List.length_cons, List.length_singleton]
 omega
theorem digs_len20 {n : Nat} (h : n < 10 ^ 20) : (digs n).length ≤ 20 := digs_length (by decide) h
theorem numF_len {n : Int} (h0 : -9223372036854775808 ≤ n) (h1 : n ≤ 9223372036854775807) : (numF n).length ≤ 21 := by
 have e : (10 : Nat) ^ 20 = 100000000000000000000 := by decide
 unfold numF
 split
 ·have := digs_len20 (n := (-n).toNat) (by omega)
  rw [List.length_cons]; omega
 ·have := digs_len20 (n := n.toNat) (by omega)
  omega
theorem decBody_length {ds : List Int} {e : Int} (h : ds.length ≤ 40) (h0 : -100000 ≤ e) (h1 : e ≤ 100000) : (decBody ds e).length ≤ 100 := by
 unfold decBody
 split
 ·have h2 := numF_length (n := e + ds.length - 1) (by omega) (by omega)
  rw [List.length_append, List.length_append, List.length_append, List.length_take]
  have a : (if 1 < ds.length then (46 : Int) :: ds.drop 1 else []).length ≤ 41 := by split <;> simp <;> omega
  have b : (if 0 ≤ e + ds.length - 1 then [(69 : Int), 43] else [69]).length ≤ 2 := by split <;> simp
  omega
 ·rename_i hc
  split
  ·omega
  ·unfold decFixed
   rw [List.length_append, List.length_cons, List.length_take, List.length_drop]
   simp only [List.length_append, List.length_replicate]
   omega
theorem decText_length {k : Int} {neg : Bool} {ds : List Int} {e : Int} (h : ds.length ≤ 40) (h0 : -100000 ≤ e) (h1 : e ≤ 100000) : (decTextF k neg ds e).length ≤ 200 := by
 have h2 := decBody_length h h0 h1
 have h3 : (decSign neg).length ≤ 1 := by unfold decSign; split <;> simp
 unfold decTextF
 split
 ·simp
 split
 ·rw [List.length_append]; simp; omega
 ·rw [List.length_append]; omega
theorem ite_len {p : Prop} [Decidable p] {a b : List Int} {n : Nat} (h1 : a.length ≤ n) (h2 : b.length ≤ n) : (if p then a else b).length ≤ n := by
 split
 ·exact h1
 ·exact h2
theorem leafL_length {D : Int → List Int} {t : VT} (h : LeafOk D t) (hD : ∀ x, (D x).length ≤ 400) (hn : -9223372036854775808 ≤ t.n ∧ t.n ≤ 9223372036854775807) (hb : 0 ≤ t.bits ∧ t.bits < 18446744073709551616) (hh : 0 ≤ t.high ∧ t.high < 18446744073709551616) : (leafL D t).length ≤ 6000 := by
 have e : (10 : Nat) ^ 20 = 100000000000000000000 := by decide
 have a1 := extStrF_length true h.text.2
 have a2 := extStrF_length true h.more.2
 have a3 := h.text.1
 have a4 := h.more.1
 have a5 := h.bs
 have a6 := b64L_length t.bs
 have a7 := hexL_length t.bs
 have a8 := numF_len hn.1 hn.2
 have a9 := digs_len20 (n := (t.bits / 4294967296).toNat) (by omega)
 have b1 := digs_len20 (n := (t.bits % 4294967296).toNat) (by omega)
 have b2 := (decDig_length t.high t.bits hh.1 hh.2 hb.1 hb.2).1
 have b3 := hD t.bits
 have b5 : -100000 ≤ decExp t.high ∧ decExp t.high ≤ 100000 := by
  unfold decExp
  split
  ·omega
  ·split <;> omega
 have b4 := decText_length (k := decKind t.high) (neg := decNeg t.high) b2 b5.1 b5.2
 clear e hn hb hh h hD b5 b2
 unfold leafL wrapL quoL
 repeat' apply ite_len
 all_goals try simp only [List.length_append, List.length_cons, List.length_nil]
 all_goals omega
end Go.Proofs.YtkeakdjbidbegaaGreatDoor
