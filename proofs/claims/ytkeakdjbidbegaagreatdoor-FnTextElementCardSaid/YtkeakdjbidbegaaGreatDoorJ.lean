/- A part of the proof that laws.FnTextElement returns true at every input: Read1, Vlen, Rval, Rdr, Rdn, Rdm, Rdo, Rdp. -/
import Derived.Test.YtkeakdjbidbegaaGreatDoorI
import Derived.Lib.EndianBits
import Derived.BigQuiet
import Derived.Test.YtkeakdjbidbegaaGreatDoorCb
import Derived.Test.YtkeakdjbidbegaaGreatDoorG
import Derived.Test.YtkeakdjbidbegaaGreatDoorC
import Derived.Test.YtkeakdjbidbegaaGreatDoorA
import Derived.Deep.RegionHeld3
import Derived.Deep.DeepMust
import Derived.Deep.RegionLaw
import Derived.Laws.CopyOwn
set_option linter.unusedSimpArgs false
set_option linter.unusedVariables false
set_option maxRecDepth 100000
set_option maxHeartbeats 8000000
namespace Go.Proofs.YtkeakdjbidbegaaGreatDoor
open Go.RowKit
open Go.Proofs.YtkeakdjbidbegaaGreatDoorW.PrintWords
def Byt (w : World) (b o : Nat) (l : List Int) : Prop := ∀ j, j < l.length → w.cell? ⟨b, o + j, none⟩ = some (.int .u8 (rn l j))
theorem Byt.below {w w' : World} {b o : Nat} {l : List Int} {B : Nat} (h : Byt w b o l) (k : Below B w w') (hb : b < B) : Byt w' b o l := fun j hj => (k.cell (p := ⟨b, o + j, none⟩) hb).trans (h j hj)
theorem Byt.left {w : World} {b o : Nat} {l m : List Int} (h : Byt w b o (l ++ m)) : Byt w b o l := fun j hj => by
 have := h j (by rw [List.length_append]; omega)
 rwa [rn_app_lt hj] at this
theorem Byt.right {w : World} {b o : Nat} {l m : List Int} (h : Byt w b o (l ++ m)) : Byt w b (o + l.length) m := fun j hj => by
 have := h (l.length + j) (by rw [List.length_append]; omega)
 rw [rn_app_ge (by omega), Nat.add_sub_cancel_left, ← Nat.add_assoc] at this
 exact this
theorem or_i32 (a z : Int) (h0 : 0 ≤ a) (h1 : a < 16777216) (z0 : 0 ≤ z) (z1 : z < 4294967296) (z2 : z % 16777216 = 0) : bits .or .i32 a (IntKind.i32.wrap z) = IntKind.i32.wrap (a + z) := by
 obtain ⟨x, rfl⟩ := Int.eq_ofNat_of_zero_le h0
 obtain ⟨y, rfl⟩ := Int.eq_ofNat_of_zero_le z0
 have e1 : (BitVec.ofInt 32 (x : Int)).toNat = x := by rw [BitVec.ofInt_natCast, BitVec.toNat_ofNat]; exact Nat.mod_eq_of_lt (by omega)
 have e2 : BitVec.ofInt 32 (IntKind.i32.wrap (y : Int)) = BitVec.ofInt 32 (y : Int) := by
  apply BitVec.eq_of_toNat_eq
  rw [BitVec.toNat_ofInt, BitVec.toNat_ofInt]
  congr 1
  simp only [IntKind.wrap, IntKind.bits, IntKind.signed]
  simp
  split <;> omega
 have e3 : (BitVec.ofInt 32 (y : Int)).toNat = y := by rw [BitVec.ofInt_natCast, BitVec.toNat_ofNat]; exact Nat.mod_eq_of_lt (by omega)
 have e4 : x ||| y = x + y := by
  obtain ⟨q, rfl⟩ : ∃ q, y = 2 ^ 24 * q := ⟨y / 16777216, by omega⟩
  rw [Nat.or_comm, ← Nat.two_pow_add_eq_or_of_lt (by omega), Nat.add_comm]
 show IntKind.i32.wrap ((BitVec.ofInt 32 (x : Int) ||| BitVec.ofInt 32 (IntKind.i32.wrap (y : Int))).toNat : Int) = _
 rw [e2, BitVec.toNat_or, e1, e3, e4]
 congr 1
theorem bits_join_i32 (i : Nat) (y x : Int) (hy₀ : 0 ≤ y) (hy : y < 2 ^ i) (hx₀ : 0 ≤ x) (hx : x % 2 ^ i = 0) (hy1 : y < 2 ^ 24 := by omega) (hx1 : x < 2 ^ 24 := by omega) : bits .or .i32 y x = y + x :=
 bits_join_low .i32 24 (by decide) (fun n h0 h1 => by simp only [IntKind.wrap, IntKind.bits, IntKind.signed]; simp; omega) i y x hy₀ hy hy1 hx₀ hx hx1
theorem ReadI32_calls (b o m c : Nat) (n : Int) (rest : List Int) (w : World) (hB : Byt w b o (leI 4 n ++ rest)) (hn : -2147483648 ≤ n ∧ n < 2147483648) (hm : m = 4 + rest.length) (hc : m ≤ c) (hmx : c ≤ maxLen) :
  Calls Tryz.prog 138 #[.slice (some ⟨b, o, none⟩) m c] w fun e w' => ∃ o', e = .returned (.tuple #[.int .i32 n, .slice (some ⟨b, o', none⟩) rest.length (c - 4), .bool true]) ∧ (o' = o + 4 ∨ c = 4) ∧ Below w.heap.size w w' := by
 have hq := hB.left
 rw [leI4] at hq
 have q0 := hq 0 (by simp)
 have q1 := hq 1 (by simp)
 have q2 := hq 2 (by simp)
 have q3 := hq 3 (by simp)
 simp only [rn, List.getD_cons_zero, List.getD_cons_succ, Nat.add_zero] at q0 q1 q2 q3
 have d0 : decide ((m : Int) < 4) = false := decide_eq_false (by omega)
 clear hq hB
 unfold maxLen at hmx
 go_enter Tryz.func138, Tryz.ntmps138
 have x0 : 0 ≤ n % 256 ∧ n % 256 < 256 := by omega
 have f1 : bits .or .i32 (n % 256) (n / 256 % 256 * 256) = n % 65536 := by
  rw [bits_join_i32 8 _ _ (by omega) (by omega) (by omega) (by omega)]
  omega
 have f2 : bits .or .i32 (n % 65536) (n / 65536 % 256 * 65536) = n % 16777216 := by
  rw [bits_join_i32 16 _ _ (by omega) (by omega) (by omega) (by omega)]
  omega
 have f3 : bits .or .i32 (n % 16777216) (wrap32 (n / 16777216 % 256 * 16777216)) = n := by
  have h := or_i32 (n % 16777216) (n / 16777216 % 256 * 16777216) (by omega) (by omega) (by omega) (by omega) (by omega)
  simp only [IntKind.wrap_i32] at h
  unfold wrap32
  rw [h]
  omega
 go_wp2_with fail
 go_quiet (fail)
 go_wp2_with fail
 by_cases hc4 : c = 4
 ·subst hc4
  go_quiet (fail)
  go_wp2_with fail
  go_ret3
  first | exact ⟨⟨o, rfl⟩, pw_below_drewN (Below.refl _ _) _⟩ | exact ⟨o, rfl, .inr rfl, pw_below_drewN (Below.refl _ _) _⟩
 ·go_quiet (fail)
  go_wp2_with fail
  go_ret3
  refine ⟨o + 4, rfl, .inl rfl, ?_⟩
  first | exact pw_below_drewN (Below.refl _ _) _ | exact pw_below_drewN (pw_below_drewN (Below.refl _ _) _) _ | trace_state
theorem ReadLength_calls (b o m c : Nat) (n : Int) (rest : List Int) (w : World) (hB : Byt w b o (leI 4 n ++ rest)) (hn : 0 ≤ n ∧ n < 2147483648) (hm : m = 4 + rest.length) (hc : m ≤ c) (hmx : c ≤ maxLen) :
  Calls Tryz.prog 91 #[.slice (some ⟨b, o, none⟩) m c] w fun e w' => ∃ o', e = .returned (.tuple #[.int .i32 n, .slice (some ⟨b, o', none⟩) rest.length (c - 4), .bool true]) ∧ (o' = o + 4 ∨ c = 4) ∧ Below w.heap.size w w' := by
 have HC := Lib.hid (ReadI32_calls b o m c n rest w hB (by omega) hm hc hmx)
 have d0 : decide (n < 0) = false := decide_eq_false (by omega)
 clear hB hm hc hmx
 go_enter Tryz.func91, Tryz.ntmps91
 go_wp2_with fail
 refine HC.out.mono ?_
 rintro e w1 ⟨o', rfl, ho, hw⟩
 have HO := Lib.hid ho
 have HW := Lib.hid hw
 clear ho hw
 go_wp2_with fail
 go_ret3
 exact ⟨o', rfl, HO.out, HW.out⟩
def LenAns (L : Int) (w : World) (e : Ending) (w' : World) : Prop := e = .returned (.tuple #[.int .i32 L, .bool true]) ∧ Below w.heap.size w w'
theorem vlen_8 (v : Value) (w : World) : Calls Tryz.prog 108 #[v, .int .u8 8] w (LenAns 1 w) := by
 go_enter Tryz.func108, Tryz.ntmps108
 go_wp2
 go_ret2
 exact ⟨rfl, Below.refl _ _⟩
theorem vlen_9 (v : Value) (w : World) : Calls Tryz.prog 108 #[v, .int .u8 9] w (LenAns 8 w) := by
 go_enter Tryz.func108, Tryz.ntmps108
 go_wp2
 go_ret2
 exact ⟨rfl, Below.refl _ _⟩
theorem vlen_1 (v : Value) (w : World) : Calls Tryz.prog 108 #[v, .int .u8 1] w (LenAns 8 w) := by
 go_enter Tryz.func108, Tryz.ntmps108
 go_wp2
 go_ret2
 exact ⟨rfl, Below.refl _ _⟩
theorem vlen_18 (v : Value) (w : World) : Calls Tryz.prog 108 #[v, .int .u8 18] w (LenAns 8 w) := by
 go_enter Tryz.func108, Tryz.ntmps108
 go_wp2
 go_ret2
 exact ⟨rfl, Below.refl _ _⟩
theorem vlen_17 (v : Value) (w : World) : Calls Tryz.prog 108 #[v, .int .u8 17] w (LenAns 8 w) := by
 go_enter Tryz.func108, Tryz.ntmps108
 go_wp2
 go_ret2
 exact ⟨rfl, Below.refl _ _⟩
theorem vlen_19 (v : Value) (w : World) : Calls Tryz.prog 108 #[v, .int .u8 19] w (LenAns 16 w) := by
 go_enter Tryz.func108, Tryz.ntmps108
 go_wp2
 go_ret2
 exact ⟨rfl, Below.refl _ _⟩
theorem vlen_16 (v : Value) (w : World) : Calls Tryz.prog 108 #[v, .int .u8 16] w (LenAns 4 w) := by
 go_enter Tryz.func108, Tryz.ntmps108
 go_wp2
 go_ret2
 exact ⟨rfl, Below.refl _ _⟩
theorem vlen_127 (v : Value) (w : World) : Calls Tryz.prog 108 #[v, .int .u8 127] w (LenAns 0 w) := by
 go_enter Tryz.func108, Tryz.ntmps108
 go_wp2
 go_ret2
 exact ⟨rfl, Below.refl _ _⟩
theorem vlen_255 (v : Value) (w : World) : Calls Tryz.prog 108 #[v, .int .u8 255] w (LenAns 0 w) := by
 go_enter Tryz.func108, Tryz.ntmps108
 go_wp2
 go_ret2
 exact ⟨rfl, Below.refl _ _⟩
theorem vlen_10 (v : Value) (w : World) : Calls Tryz.prog 108 #[v, .int .u8 10] w (LenAns 0 w) := by
 go_enter Tryz.func108, Tryz.ntmps108
 go_wp2
 go_ret2
 exact ⟨rfl, Below.refl _ _⟩
theorem vlen_6 (v : Value) (w : World) : Calls Tryz.prog 108 #[v, .int .u8 6] w (LenAns 0 w) := by
 go_enter Tryz.func108, Tryz.ntmps108
 go_wp2
 go_ret2
 exact ⟨rfl, Below.refl _ _⟩
theorem vlen_7 (v : Value) (w : World) : Calls Tryz.prog 108 #[v, .int .u8 7] w (LenAns 12 w) := by
 go_enter Tryz.func108, Tryz.ntmps108
 go_wp2
 go_ret2
 exact ⟨rfl, Below.refl _ _⟩
theorem vlen_4 (b o m c : Nat) (n : Int) (rest : List Int) (w : World) (hB : Byt w b o (leI 4 n ++ rest)) (hn : 0 ≤ n ∧ n < 1000000000) (hm : m = 4 + rest.length) (hc : m ≤ c) (hmx : c ≤ maxLen) :
  Calls Tryz.prog 108 #[.slice (some ⟨b, o, none⟩) m c, .int .u8 4] w (LenAns (n + 0) w) := by
 have HC := Lib.hid (ReadLength_calls b o m c n rest w hB (by omega) hm hc hmx)
 have d0 : decide (n + 0 < 0) = false := decide_eq_false (by omega)
 have d1 : decide (n < 0) = false := decide_eq_false (by omega)
 clear hB hm hc hmx
 go_enter Tryz.func108, Tryz.ntmps108
 go_wp2_with fail
 refine HC.out.mono ?_
 rintro e w1 ⟨o', rfl, ho, hw⟩
 have HW := Lib.hid hw
 clear ho hw
 go_wp2_with fail
 go_ret2
 exact ⟨by simp, HW.out⟩
theorem vlen_3 (b o m c : Nat) (n : Int) (rest : List Int) (w : World) (hB : Byt w b o (leI 4 n ++ rest)) (hn : 0 ≤ n ∧ n < 1000000000) (hm : m = 4 + rest.length) (hc : m ≤ c) (hmx : c ≤ maxLen) :
  Calls Tryz.prog 108 #[.slice (some ⟨b, o, none⟩) m c, .int .u8 3] w (LenAns (n + 0) w) := by
 have HC := Lib.hid (ReadLength_calls b o m c n rest w hB (by omega) hm hc hmx)
 have d0 : decide (n + 0 < 0) = false := decide_eq_false (by omega)
 have d1 : decide (n < 0) = false := decide_eq_false (by omega)
 clear hB hm hc hmx
 go_enter Tryz.func108, Tryz.ntmps108
 go_wp2_with fail
 refine HC.out.mono ?_
 rintro e w1 ⟨o', rfl, ho, hw⟩
 have HW := Lib.hid hw
 clear ho hw
 go_wp2_with fail
 go_ret2
 exact ⟨by simp, HW.out⟩
theorem vlen_5 (b o m c : Nat) (n : Int) (rest : List Int) (w : World) (hB : Byt w b o (leI 4 n ++ rest)) (hn : 0 ≤ n ∧ n < 1000000000) (hm : m = 4 + rest.length) (hc : m ≤ c) (hmx : c ≤ maxLen) :
  Calls Tryz.prog 108 #[.slice (some ⟨b, o, none⟩) m c, .int .u8 5] w (LenAns (n + 5) w) := by
 have HC := Lib.hid (ReadLength_calls b o m c n rest w hB (by omega) hm hc hmx)
 have d0 : decide (n + 5 < 0) = false := decide_eq_false (by omega)
 clear hB hm hc hmx
 go_enter Tryz.func108, Tryz.ntmps108
 go_wp2_with fail
 refine HC.out.mono ?_
 rintro e w1 ⟨o', rfl, ho, hw⟩
 have HW := Lib.hid hw
 clear ho hw
 go_wp2_with fail
 go_ret2
 exact ⟨by simp, HW.out⟩
theorem vlen_12 (b o m c : Nat) (n : Int) (rest : List Int) (w : World) (hB : Byt w b o (leI 4 n ++ rest)) (hn : 0 ≤ n ∧ n < 1000000000) (hm : m = 4 + rest.length) (hc : m ≤ c) (hmx : c ≤ maxLen) :
  Calls Tryz.prog 108 #[.slice (some ⟨b, o, none⟩) m c, .int .u8 12] w (LenAns (n + 16) w) := by
 have HC := Lib.hid (ReadLength_calls b o m c n rest w hB (by omega) hm hc hmx)
 have d0 : decide (n + 16 < 0) = false := decide_eq_false (by omega)
 clear hB hm hc hmx
 go_enter Tryz.func108, Tryz.ntmps108
 go_wp2_with fail
 refine HC.out.mono ?_
 rintro e w1 ⟨o', rfl, ho, hw⟩
 have HW := Lib.hid hw
 clear ho hw
 go_wp2_with fail
 go_ret2
 exact ⟨by simp, HW.out⟩
theorem vlen_13 (b o m c : Nat) (n : Int) (rest : List Int) (w : World) (hB : Byt w b o (leI 4 n ++ rest)) (hn : 0 ≤ n ∧ n < 1000000000) (hm : m = 4 + rest.length) (hc : m ≤ c) (hmx : c ≤ maxLen) :
  Calls Tryz.prog 108 #[.slice (some ⟨b, o, none⟩) m c, .int .u8 13] w (LenAns (n + 4) w) := by
 have HC := Lib.hid (ReadLength_calls b o m c n rest w hB (by omega) hm hc hmx)
 have d0 : decide (n + 4 < 0) = false := decide_eq_false (by omega)
 clear hB hm hc hmx
 go_enter Tryz.func108, Tryz.ntmps108
 go_wp2_with fail
 refine HC.out.mono ?_
 rintro e w1 ⟨o', rfl, ho, hw⟩
 have HW := Lib.hid hw
 clear ho hw
 go_wp2_with fail
 go_ret2
 exact ⟨by simp, HW.out⟩
theorem vlen_2 (b o m c : Nat) (n : Int) (rest : List Int) (w : World) (hB : Byt w b o (leI 4 n ++ rest)) (hn : 0 ≤ n ∧ n < 1000000000) (hm : m = 4 + rest.length) (hc : m ≤ c) (hmx : c ≤ maxLen) :
  Calls Tryz.prog 108 #[.slice (some ⟨b, o, none⟩) m c, .int .u8 2] w (LenAns (n + 4) w) := by
 have HC := Lib.hid (ReadLength_calls b o m c n rest w hB (by omega) hm hc hmx)
 have d0 : decide (n + 4 < 0) = false := decide_eq_false (by omega)
 clear hB hm hc hmx
 go_enter Tryz.func108, Tryz.ntmps108
 go_wp2_with fail
 refine HC.out.mono ?_
 rintro e w1 ⟨o', rfl, ho, hw⟩
 have HW := Lib.hid hw
 clear ho hw
 go_wp2_with fail
 go_ret2
 exact ⟨by simp, HW.out⟩
theorem vlen_14 (b o m c : Nat) (n : Int) (rest : List Int) (w : World) (hB : Byt w b o (leI 4 n ++ rest)) (hn : 0 ≤ n ∧ n < 1000000000) (hm : m = 4 + rest.length) (hc : m ≤ c) (hmx : c ≤ maxLen) :
  Calls Tryz.prog 108 #[.slice (some ⟨b, o, none⟩) m c, .int .u8 14] w (LenAns (n + 4) w) := by
 have HC := Lib.hid (ReadLength_calls b o m c n rest w hB (by omega) hm hc hmx)
 have d0 : decide (n + 4 < 0) = false := decide_eq_false (by omega)
 clear hB hm hc hmx
 go_enter Tryz.func108, Tryz.ntmps108
 go_wp2_with fail
 refine HC.out.mono ?_
 rintro e w1 ⟨o', rfl, ho, hw⟩
 have HW := Lib.hid hw
 clear ho hw
 go_wp2_with fail
 go_ret2
 exact ⟨by simp, HW.out⟩
def RestAt (b o c : Nat) (A : Option Addr) : Prop := ∃ o', A = some ⟨b, o', none⟩ ∧ (o' = o ∨ c = 0)
theorem readValue_calls (b o m c L : Nat) (K : Int) (w : World) (hV : Calls Tryz.prog 108 #[.slice (some ⟨b, o, none⟩) m c, .int .u8 K] w (LenAns L w)) (hL : L ≤ m) (hc : m ≤ c) (hmx : c ≤ maxLen) (hm : m ≤ 1000000000) :
  Calls Tryz.prog 63 #[.slice (some ⟨b, o, none⟩) m c, .int .u8 K] w fun e w' => ∃ A, e = .returned (.tuple #[.slice (some ⟨b, o, none⟩) L c, .slice A (m - L) (c - L), .bool true]) ∧ RestAt b (o + L) (c - L) A ∧ Below w.heap.size w w' := by
 have HC := Lib.hid hV
 have d0 : decide ((m : Int) < L) = false := decide_eq_false (by omega)
 unfold maxLen at hmx
 clear hV
 go_enter Tryz.func63, Tryz.ntmps63
 go_wp2_with fail
 refine HC.out.mono ?_
 rintro e w1 ⟨rfl, hw⟩
 have HW := Lib.hid hw
 clear hw
 by_cases hz : L = 0
 ·subst hz
  go_wp2_with fail
  go_quiet (fail)
  go_wp2_with fail
  go_ret3
  exact ⟨_, rfl, ⟨o, rfl, .inl (by omega)⟩, pw_below_drewN HW.out nq⟩
 ·by_cases hz2 : L = c
  ·obtain rfl : m = L := by omega
   subst hz2
   go_wp2_with fail
   go_quiet (fail)
   go_wp2_with fail
   go_ret3
   exact ⟨_, by simp, ⟨o, rfl, .inr (by omega)⟩, pw_below_drewN HW.out nq⟩
  ·go_wp2_with fail
   go_quiet (fail)
   go_wp2_with fail
   go_ret3
   exact ⟨_, rfl, ⟨o + L, rfl, .inl rfl⟩, pw_below_drewN HW.out nq⟩
theorem ReadValue_calls (b o m c L : Nat) (K : Int) (w : World) (hV : Calls Tryz.prog 108 #[.slice (some ⟨b, o, none⟩) m c, .int .u8 K] (w.alloc (.cells #[.int .u8 0, .slice none 0 0] 67)) (LenAns L (w.alloc (.cells #[.int .u8 0, .slice none 0 0] 67)))) (hL : L ≤ m) (hc : m ≤ c) (hmx : c ≤ maxLen) (hm : m ≤ 1000000000) :
  Calls Tryz.prog 34 #[.slice (some ⟨b, o, none⟩) m c, .int .u8 K] w fun e w' => ∃ A, e = .returned (.tuple #[.agg #[.int .u8 K, .slice (some ⟨b, o, none⟩) L c], .slice A (m - L) (c - L), .bool true]) ∧ RestAt b (o + L) (c - L) A ∧ Below w.heap.size w w' := by
 have HC := Lib.hid (readValue_calls b o m c L K _ hV hL hc hmx hm)
 have HB : Hid (Below w.heap.size w (w.alloc (.cells #[.int .u8 0, .slice none 0 0] 67))) := (Below.refl _ _).alloc (Nat.le_refl _) _
 clear hV
 go_enter Tryz.func34, Tryz.ntmps34
 go_wp2_with fail
 refine HC.out.mono ?_
 rintro e w1 ⟨A, rfl, hA, hw⟩
 have HA := Lib.hid hA
 have hsz := hw.size
 have c0 := (hw.cell (p := ⟨w.heap.size, 0, none⟩) (by simp)).trans (show _ = some (Value.int .u8 0) by simp [go_sem])
 have c1 := (hw.cell (p := ⟨w.heap.size, 1, none⟩) (by simp)).trans (show _ = some (Value.slice none 0 0) by simp [go_sem])
 have f0 := (hw.frozen (p := ⟨w.heap.size, 0, none⟩) (by simp)).trans (show _ = false by simp [go_sem])
 have f1 := (hw.frozen (p := ⟨w.heap.size, 1, none⟩) (by simp)).trans (show _ = false by simp [go_sem])
 have HW := Lib.hid (HB.out.trans (hw.mono HB.out.size))
 simp at hsz
 clear hA hw
 go_wp2_with fail
 exact bodyPost_ret (v := .tuple #[.agg #[.int .u8 K, .slice (some ⟨b, o, none⟩) L c], .slice A (m - L) (c - L), .bool true]) (by simp [results, Tryz.results34, go_sem, c0, c1, f0, f1, hsz]) rfl ⟨A, rfl, HA.out, (HW.out.setCell (p := ⟨w.heap.size, 0, none⟩) (Nat.le_refl _) _).setCell (p := ⟨w.heap.size, 1, none⟩) (Nat.le_refl _) _⟩
def RdAns (V : Value) (b o m c : Nat) (w : World) (e : Ending) (w' : World) : Prop := ∃ A, e = .returned (.tuple #[V, .slice A m c, .bool true]) ∧ RestAt b o c A ∧ Below w.heap.size w w'
theorem conv_byt (W : World) (b o C : Nat) (xs : List Int) (h : Byt W b o xs) : (convert 23 9 (.slice (some ⟨b, o, none⟩) xs.length C)).run Tryz.prog W = .ok (.string (strOfNums xs)) W :=
 run_convert_bytes_arg W 23 5 Tryz.underlying23 Tryz.underlying5 b o xs.length C xs rfl (fun i hi => h i hi) 9 Tryz.underlying9
theorem str_back (s : ByteArray) : strOfNums (bytesOf s) = s := (strIs_bytes s).out.symm
theorem ReadI32_rd (b o m c : Nat) (n : Int) (rest : List Int) (w : World) (hB : Byt w b o (leI 4 n ++ rest)) (hn : -2147483648 ≤ n ∧ n < 2147483648) (hm : m = 4 + rest.length) (hc : m ≤ c) (hmx : c ≤ maxLen) :
  Calls Tryz.prog 138 #[.slice (some ⟨b, o, none⟩) m c] w (RdAns (.int .i32 n) b (o + 4) rest.length (c - 4) w) := by
 refine (ReadI32_calls b o m c n rest w hB hn hm hc hmx).mono ?_
 rintro e w' ⟨o', h1, h2, h3⟩
 refine ⟨_, h1, ⟨o', rfl, ?_⟩, h3⟩
 rcases h2 with h2 | h2
 ·exact .inl h2
 ·exact .inr (by omega)
theorem readstring_calls (b o m c : Nat) (s : ByteArray) (rest : List Int) (w : World) (hB : Byt w b o (txtB s ++ rest)) (hs : s.size ≤ 300) (hm : m = s.size + 5 + rest.length) (hc : m ≤ c) (hmx : c ≤ maxLen) (hml : m ≤ 1000000000) :
  Calls Tryz.prog 109 #[.slice (some ⟨b, o, none⟩) m c] w (RdAns (.string s) b (o + 5 + s.size) rest.length (c - 5 - s.size) w) := by
 have e0 : txtB s ++ rest = leI 4 (s.size + 1) ++ (bytesOf s ++ (0 :: rest)) := by unfold txtB; simp
 rw [e0] at hB
 have hr := hB.right
 rw [leI_length] at hr
 have hl := bytesOf_length s
 have HR := Lib.hid hr.left
 have HC := Lib.hid (ReadLength_calls b o m c (s.size + 1) (bytesOf s ++ (0 :: rest)) w hB (by omega) (by simp [hl]; omega) hc hmx)
 have HL : Hid (∀ W, Below w.heap.size w W → ∀ C, (convert 23 9 (.slice (some ⟨b, o + 4, none⟩) s.size C)).run Tryz.prog W = .ok (.string s) W) := fun W hW C => by
  have := conv_byt W b (o + 4) C (bytesOf s) (HR.out.below hW (World.block_lt_of_cell? w _ (hB 0 (by simp [leI]))))
  rwa [hl, str_back] at this
 have d0 : decide ((m : Int) - 4 < (s.size : Int) + 1) = false := decide_eq_false (by omega)
 have d2 : ((s.size : Int) + 1 == 0) = false := beq_eq_false_iff_ne.2 (by omega)
 have hml2 : (bytesOf s ++ (0 :: rest)).length = m - 4 := by simp [hl]; omega
 rw [hml2] at HC
 have HM := Lib.hid hm
 have hm5 : s.size + 5 ≤ m := by omega
 clear hB hr hl e0 hml2 hm
 unfold maxLen at hmx
 go_enter Tryz.func109, Tryz.ntmps109
 go_wp2_with fail
 refine HC.out.mono ?_
 rintro e w1 ⟨o', rfl, ho, hw⟩
 obtain rfl : o' = o + 4 := by omega
 have HW := Lib.hid hw
 have cv := fun n => HL.out (w1.drewN n) (pw_below_drewN hw n) (c - 4)
 clear ho hw
 have hwx : IntKind.i32.wrap (s.size : Int) = s.size := by simp only [IntKind.wrap, IntKind.bits, IntKind.signed]; simp; omega
 go_wp2_with fail
 have HC2 : Hid (rest.length = m - 4 - (s.size + 1) ∧ c - 5 - s.size = c - 4 - (s.size + 1)) := by have := HM.out; exact ⟨by omega, by omega⟩
 by_cases hz : c - 4 = s.size + 1
 ·rw [hz] at cv ⊢
  go_quiet (fail)
  go_wp2_with fail
  go_ret3
  exact ⟨some ⟨b, o + 4, none⟩, by rw [HC2.out.1, HC2.out.2, hz, Nat.sub_self]; rfl, ⟨_, rfl, .inr (by omega)⟩, pw_below_drewN HW.out nq⟩
 ·go_quiet (fail)
  go_wp2_with fail
  go_ret3
  exact ⟨some ⟨b, o + 4 + (s.size + 1), none⟩, by rw [HC2.out.1, HC2.out.2]; rfl, ⟨_, rfl, .inl (by omega)⟩, pw_below_drewN HW.out nq⟩
theorem readLengthBytes_calls (b o m c L : Nat) (l : List Int) (w : World) (hB : Byt w b o (leI 4 L ++ l)) (hL : 5 ≤ L ∧ L ≤ m) (hm : m = 4 + l.length) (hc : m ≤ c) (hmx : c ≤ maxLen) (hml : m ≤ 1000000000) :
  Calls Tryz.prog 137 #[.slice (some ⟨b, o, none⟩) m c] w (RdAns (.slice (some ⟨b, o, none⟩) L c) b (o + L) (m - L) (c - L) w) := by
 have HC := Lib.hid (ReadLength_calls b o m c L l w hB (by omega) hm hc hmx)
 have d0 : decide ((L : Int) < 4) = false := decide_eq_false (by omega)
 have d1 : decide ((m : Int) < L) = false := decide_eq_false (by omega)
 clear hB hm
 unfold maxLen at hmx
 obtain ⟨hL0, hL1⟩ := hL
 go_enter Tryz.func137, Tryz.ntmps137
 go_wp2_with fail
 refine HC.out.mono ?_
 rintro e w1 ⟨o', rfl, ho, hw⟩
 have HW := Lib.hid hw
 clear ho hw
 go_wp2_with fail
 by_cases hz : c = L
 ·obtain rfl : m = L := by omega
  subst hz
  go_quiet (fail)
  go_wp2_with fail
  go_ret3
  exact ⟨some ⟨b, o, none⟩, by simp, ⟨_, rfl, .inr (by omega)⟩, pw_below_drewN HW.out nq⟩
 ·go_quiet (fail)
  go_wp2_with fail
  go_ret3
  exact ⟨_, rfl, ⟨_, rfl, .inl rfl⟩, pw_below_drewN HW.out nq⟩
theorem ReadBoolean_calls (b o m c : Nat) (x : Int) (l : List Int) (w : World) (hB : Byt w b o (x :: l)) (hm : m = l.length + 1) (hc : m ≤ c) (hmx : c ≤ maxLen) (hml : m ≤ 1000000000) :
  Calls Tryz.prog 122 #[.slice (some ⟨b, o, none⟩) m c] w (RdAns (.bool (x == 1)) b (o + 1) (m - 1) (c - 1) w) := by
 have q0 := hB 0 (by simp)
 simp only [rn, List.getD_cons_zero, Nat.add_zero] at q0
 have hm1 : 1 ≤ m := by omega
 have d0 : decide ((m : Int) < 1) = false := decide_eq_false (by omega)
 clear hB hm
 unfold maxLen at hmx
 go_enter Tryz.func122, Tryz.ntmps122
 go_wp2_with fail
 by_cases hz : c = 1
 ·obtain rfl : m = 1 := by omega
  subst hz
  go_quiet (fail)
  go_wp2_with fail
  go_ret3
  exact ⟨_, rfl, ⟨_, rfl, .inr (by omega)⟩, pw_below_drewN (Below.refl _ _) nq⟩
 ·go_quiet (fail)
  go_wp2_with fail
  go_ret3
  exact ⟨_, rfl, ⟨_, rfl, .inl rfl⟩, pw_below_drewN (Below.refl _ _) nq⟩
theorem ReadString_rd {V v : Value} {b o m c : Nat} {w : World} (h : Calls Tryz.prog 109 #[v] w (RdAns V b o m c w)) : Calls Tryz.prog 64 #[v] w (RdAns V b o m c w) := by
 have HC := Lib.hid h
 clear h
 go_enter Tryz.func64, Tryz.ntmps64
 go_wp2_with fail
 refine HC.out.mono ?_
 rintro e w1 ⟨A, rfl, hA, hw⟩
 have HA := Lib.hid (And.intro hA hw)
 clear hA hw
 go_wp2_with fail
 go_ret3
 exact ⟨A, rfl, HA.out.1, HA.out.2⟩
theorem ReadJavaScript_rd {V v : Value} {b o m c : Nat} {w : World} (h : Calls Tryz.prog 109 #[v] w (RdAns V b o m c w)) : Calls Tryz.prog 128 #[v] w (RdAns V b o m c w) := by
 have HC := Lib.hid h
 clear h
 go_enter Tryz.func128, Tryz.ntmps128
 go_wp2_with fail
 refine HC.out.mono ?_
 rintro e w1 ⟨A, rfl, hA, hw⟩
 have HA := Lib.hid (And.intro hA hw)
 clear hA hw
 go_wp2_with fail
 go_ret3
 exact ⟨A, rfl, HA.out.1, HA.out.2⟩
theorem ReadSymbol_rd {V v : Value} {b o m c : Nat} {w : World} (h : Calls Tryz.prog 109 #[v] w (RdAns V b o m c w)) : Calls Tryz.prog 129 #[v] w (RdAns V b o m c w) := by
 have HC := Lib.hid h
 clear h
 go_enter Tryz.func129, Tryz.ntmps129
 go_wp2_with fail
 refine HC.out.mono ?_
 rintro e w1 ⟨A, rfl, hA, hw⟩
 have HA := Lib.hid (And.intro hA hw)
 clear hA hw
 go_wp2_with fail
 go_ret3
 exact ⟨A, rfl, HA.out.1, HA.out.2⟩
theorem ReadDocument_rd {V v : Value} {b o m c : Nat} {w : World} (h : Calls Tryz.prog 137 #[v] w (RdAns V b o m c w)) : Calls Tryz.prog 114 #[v] w (RdAns V b o m c w) := by
 have HC := Lib.hid h
 clear h
 go_enter Tryz.func114, Tryz.ntmps114
 go_wp2_with fail
 refine HC.out.mono ?_
 rintro e w1 ⟨A, rfl, hA, hw⟩
 have HA := Lib.hid (And.intro hA hw)
 clear hA hw
 go_wp2_with fail
 go_ret3
 exact ⟨A, rfl, HA.out.1, HA.out.2⟩
theorem ReadArray_rd {V v : Value} {b o m c : Nat} {w : World} (h : Calls Tryz.prog 137 #[v] w (RdAns V b o m c w)) : Calls Tryz.prog 90 #[v] w (RdAns V b o m c w) := by
 have HC := Lib.hid h
 clear h
 go_enter Tryz.func90, Tryz.ntmps90
 go_wp2_with fail
 refine HC.out.mono ?_
 rintro e w1 ⟨A, rfl, hA, hw⟩
 have HA := Lib.hid (And.intro hA hw)
 clear hA hw
 go_wp2_with fail
 go_ret3
 exact ⟨A, rfl, HA.out.1, HA.out.2⟩
theorem ReadInt32_rd {V v : Value} {b o m c : Nat} {w : World} (h : Calls Tryz.prog 138 #[v] w (RdAns V b o m c w)) : Calls Tryz.prog 131 #[v] w (RdAns V b o m c w) := by
 have HC := Lib.hid h
 clear h
 go_enter Tryz.func131, Tryz.ntmps131
 go_wp2_with fail
 refine HC.out.mono ?_
 rintro e w1 ⟨A, rfl, hA, hw⟩
 have HA := Lib.hid (And.intro hA hw)
 clear hA hw
 go_wp2_with fail
 go_ret3
 exact ⟨A, rfl, HA.out.1, HA.out.2⟩
theorem ReadInt64_rd {V v : Value} {b o m c : Nat} {w : World} (h : Calls Tryz.prog 154 #[v] w (RdAns V b o m c w)) : Calls Tryz.prog 133 #[v] w (RdAns V b o m c w) := by
 have HC := Lib.hid h
 clear h
 go_enter Tryz.func133, Tryz.ntmps133
 go_wp2_with fail
 refine HC.out.mono ?_
 rintro e w1 ⟨A, rfl, hA, hw⟩
 have HA := Lib.hid (And.intro hA hw)
 clear hA hw
 go_wp2_with fail
 go_ret3
 exact ⟨A, rfl, HA.out.1, HA.out.2⟩
theorem ReadDateTime_rd {V v : Value} {b o m c : Nat} {w : World} (h : Calls Tryz.prog 154 #[v] w (RdAns V b o m c w)) : Calls Tryz.prog 124 #[v] w (RdAns V b o m c w) := by
 have HC := Lib.hid h
 clear h
 go_enter Tryz.func124, Tryz.ntmps124
 go_wp2_with fail
 refine HC.out.mono ?_
 rintro e w1 ⟨A, rfl, hA, hw⟩
 have HA := Lib.hid (And.intro hA hw)
 clear hA hw
 go_wp2_with fail
 go_ret3
 exact ⟨A, rfl, HA.out.1, HA.out.2⟩
def OkAns (V : Value) (w : World) (e : Ending) (w' : World) : Prop := e = .returned (.tuple #[V, .bool true]) ∧ Below w.heap.size w w'
theorem StringValueOK_ok {V v : Value} {b o m c : Nat} {w : World} (h : ∀ W, Below w.heap.size w W → Calls Tryz.prog 64 #[v] W (RdAns V b o m c W)) : Calls Tryz.prog 35 #[.agg #[.int .u8 2, v]] w (OkAns V w) := by
 have HB : Hid (Below w.heap.size w (w.alloc (.cells #[.int .u8 2, v] 67))) := (Below.refl _ _).alloc (Nat.le_refl _) _
 have HC := Lib.hid (h _ HB.out)
 clear h
 go_enter Tryz.func35, Tryz.ntmps35
 go_wp2_with fail
 refine HC.out.mono ?_
 rintro e w1 ⟨A, rfl, hA, hw⟩
 have HW := Lib.hid (HB.out.trans (hw.mono HB.out.size))
 clear hA hw
 go_wp2_with fail
 go_ret2
 exact ⟨rfl, HW.out⟩
theorem DocumentOK_ok {V v : Value} {b o m c : Nat} {w : World} (h : ∀ W, Below w.heap.size w W → Calls Tryz.prog 114 #[v] W (RdAns V b o m c W)) : Calls Tryz.prog 66 #[.agg #[.int .u8 3, v]] w (OkAns V w) := by
 have HB : Hid (Below w.heap.size w (w.alloc (.cells #[.int .u8 3, v] 67))) := (Below.refl _ _).alloc (Nat.le_refl _) _
 have HC := Lib.hid (h _ HB.out)
 clear h
 go_enter Tryz.func66, Tryz.ntmps66
 go_wp2_with fail
 refine HC.out.mono ?_
 rintro e w1 ⟨A, rfl, hA, hw⟩
 have HW := Lib.hid (HB.out.trans (hw.mono HB.out.size))
 clear hA hw
 go_wp2_with fail
 go_ret2
 exact ⟨rfl, HW.out⟩
theorem ArrayOK_ok {V v : Value} {b o m c : Nat} {w : World} (h : ∀ W, Below w.heap.size w W → Calls Tryz.prog 90 #[v] W (RdAns V b o m c W)) : Calls Tryz.prog 37 #[.agg #[.int .u8 4, v]] w (OkAns V w) := by
 have HB : Hid (Below w.heap.size w (w.alloc (.cells #[.int .u8 4, v] 67))) := (Below.refl _ _).alloc (Nat.le_refl _) _
 have HC := Lib.hid (h _ HB.out)
 clear h
 go_enter Tryz.func37, Tryz.ntmps37
 go_wp2_with fail
 refine HC.out.mono ?_
 rintro e w1 ⟨A, rfl, hA, hw⟩
 have HW := Lib.hid (HB.out.trans (hw.mono HB.out.size))
 clear hA hw
 go_wp2_with fail
 go_ret2
 exact ⟨rfl, HW.out⟩
theorem BooleanOK_ok {V v : Value} {b o m c : Nat} {w : World} (h : ∀ W, Below w.heap.size w W → Calls Tryz.prog 122 #[v] W (RdAns V b o m c W)) : Calls Tryz.prog 75 #[.agg #[.int .u8 8, v]] w (OkAns V w) := by
 have HB : Hid (Below w.heap.size w (w.alloc (.cells #[.int .u8 8, v] 67))) := (Below.refl _ _).alloc (Nat.le_refl _) _
 have HC := Lib.hid (h _ HB.out)
 clear h
 go_enter Tryz.func75, Tryz.ntmps75
 go_wp2_with fail
 refine HC.out.mono ?_
 rintro e w1 ⟨A, rfl, hA, hw⟩
 have HW := Lib.hid (HB.out.trans (hw.mono HB.out.size))
 clear hA hw
 go_wp2_with fail
 go_ret2
 exact ⟨rfl, HW.out⟩
theorem DateTimeOK_ok {V v : Value} {b o m c : Nat} {w : World} (h : ∀ W, Below w.heap.size w W → Calls Tryz.prog 124 #[v] W (RdAns V b o m c W)) : Calls Tryz.prog 77 #[.agg #[.int .u8 9, v]] w (OkAns V w) := by
 have HB : Hid (Below w.heap.size w (w.alloc (.cells #[.int .u8 9, v] 67))) := (Below.refl _ _).alloc (Nat.le_refl _) _
 have HC := Lib.hid (h _ HB.out)
 clear h
 go_enter Tryz.func77, Tryz.ntmps77
 go_wp2_with fail
 refine HC.out.mono ?_
 rintro e w1 ⟨A, rfl, hA, hw⟩
 have HW := Lib.hid (HB.out.trans (hw.mono HB.out.size))
 clear hA hw
 go_wp2_with fail
 go_ret2
 exact ⟨rfl, HW.out⟩
theorem JavaScriptOK_ok {V v : Value} {b o m c : Nat} {w : World} (h : ∀ W, Below w.heap.size w W → Calls Tryz.prog 128 #[v] W (RdAns V b o m c W)) : Calls Tryz.prog 81 #[.agg #[.int .u8 13, v]] w (OkAns V w) := by
 have HB : Hid (Below w.heap.size w (w.alloc (.cells #[.int .u8 13, v] 67))) := (Below.refl _ _).alloc (Nat.le_refl _) _
 have HC := Lib.hid (h _ HB.out)
 clear h
 go_enter Tryz.func81, Tryz.ntmps81
 go_wp2_with fail
 refine HC.out.mono ?_
 rintro e w1 ⟨A, rfl, hA, hw⟩
 have HW := Lib.hid (HB.out.trans (hw.mono HB.out.size))
 clear hA hw
 go_wp2_with fail
 go_ret2
 exact ⟨rfl, HW.out⟩
theorem SymbolOK_ok {V v : Value} {b o m c : Nat} {w : World} (h : ∀ W, Below w.heap.size w W → Calls Tryz.prog 129 #[v] W (RdAns V b o m c W)) : Calls Tryz.prog 82 #[.agg #[.int .u8 14, v]] w (OkAns V w) := by
 have HB : Hid (Below w.heap.size w (w.alloc (.cells #[.int .u8 14, v] 67))) := (Below.refl _ _).alloc (Nat.le_refl _) _
 have HC := Lib.hid (h _ HB.out)
 clear h
 go_enter Tryz.func82, Tryz.ntmps82
 go_wp2_with fail
 refine HC.out.mono ?_
 rintro e w1 ⟨A, rfl, hA, hw⟩
 have HW := Lib.hid (HB.out.trans (hw.mono HB.out.size))
 clear hA hw
 go_wp2_with fail
 go_ret2
 exact ⟨rfl, HW.out⟩
theorem Int32OK_ok {V v : Value} {b o m c : Nat} {w : World} (h : ∀ W, Below w.heap.size w W → Calls Tryz.prog 131 #[v] W (RdAns V b o m c W)) : Calls Tryz.prog 85 #[.agg #[.int .u8 16, v]] w (OkAns V w) := by
 have HB : Hid (Below w.heap.size w (w.alloc (.cells #[.int .u8 16, v] 67))) := (Below.refl _ _).alloc (Nat.le_refl _) _
 have HC := Lib.hid (h _ HB.out)
 clear h
 go_enter Tryz.func85, Tryz.ntmps85
 go_wp2_with fail
 refine HC.out.mono ?_
 rintro e w1 ⟨A, rfl, hA, hw⟩
 have HW := Lib.hid (HB.out.trans (hw.mono HB.out.size))
 clear hA hw
 go_wp2_with fail
 go_ret2
 exact ⟨rfl, HW.out⟩
theorem Int64OK_ok {V v : Value} {b o m c : Nat} {w : World} (h : ∀ W, Below w.heap.size w W → Calls Tryz.prog 133 #[v] W (RdAns V b o m c W)) : Calls Tryz.prog 87 #[.agg #[.int .u8 18, v]] w (OkAns V w) := by
 have HB : Hid (Below w.heap.size w (w.alloc (.cells #[.int .u8 18, v] 67))) := (Below.refl _ _).alloc (Nat.le_refl _) _
 have HC := Lib.hid (h _ HB.out)
 clear h
 go_enter Tryz.func87, Tryz.ntmps87
 go_wp2_with fail
 refine HC.out.mono ?_
 rintro e w1 ⟨A, rfl, hA, hw⟩
 have HW := Lib.hid (HB.out.trans (hw.mono HB.out.size))
 clear hA hw
 go_wp2_with fail
 go_ret2
 exact ⟨rfl, HW.out⟩
theorem DoubleOK_ok {V v : Value} {b o m c : Nat} {w : World} (h : ∀ W, Below w.heap.size w W → Calls Tryz.prog 115 #[v] W (RdAns V b o m c W)) : Calls Tryz.prog 68 #[.agg #[.int .u8 1, v]] w (OkAns V w) := by
 have HB : Hid (Below w.heap.size w (w.alloc (.cells #[.int .u8 1, v] 67))) := (Below.refl _ _).alloc (Nat.le_refl _) _
 have HC := Lib.hid (h _ HB.out)
 clear h
 go_enter Tryz.func68, Tryz.ntmps68
 go_wp2_with fail
 refine HC.out.mono ?_
 rintro e w1 ⟨A, rfl, hA, hw⟩
 have HW := Lib.hid (HB.out.trans (hw.mono HB.out.size))
 clear hA hw
 go_wp2_with fail
 go_ret2
 exact ⟨rfl, HW.out⟩
theorem StringValueOK_no (k : Int) (v : Value) (w : World) (hk : k ≠ 2) : Calls Tryz.prog 35 #[.agg #[.int .u8 k, v]] w fun e w' => e = .returned (.tuple #[.string ⟨#[]⟩, .bool false]) ∧ Below w.heap.size w w' := by
 have d0 : (k == 2) = false := beq_eq_false_iff_ne.2 hk
 have d1 : (k != 2) = true := by rw [bne, d0]; rfl
 clear hk
 go_enter Tryz.func35, Tryz.ntmps35
 go_wp2_with fail
 go_ret2
 exact ⟨rfl, (Below.refl _ _).alloc (Nat.le_refl _) _⟩
theorem ArrayOK_no (k : Int) (v : Value) (w : World) (hk : k ≠ 4) : Calls Tryz.prog 37 #[.agg #[.int .u8 k, v]] w fun e w' => e = .returned (.tuple #[.slice none 0 0, .bool false]) ∧ Below w.heap.size w w' := by
 have d0 : (k == 4) = false := beq_eq_false_iff_ne.2 hk
 have d1 : (k != 4) = true := by rw [bne, d0]; rfl
 clear hk
 go_enter Tryz.func37, Tryz.ntmps37
 go_wp2_with fail
 go_ret2
 exact ⟨rfl, (Below.refl _ _).alloc (Nat.le_refl _) _⟩
theorem index_zero : ∀ (xs rest : List Int), (∀ x ∈ xs, 0 < x ∧ x ≤ 255) → Lib.indexByte (Lib.bytesOf (xs ++ 0 :: rest)) (0 : Int).toNat.toUInt8 = xs.length
 | [], rest, _ => by simp [Lib.bytesOf, Lib.indexByte]
 | x :: xs, rest, h => by
  have ih := index_zero xs rest fun y hy => h y (List.mem_cons_of_mem _ hy)
  have hx := h x (List.mem_cons_self ..)
  have hne : (UInt8.ofNat x.toNat == (0 : Int).toNat.toUInt8) = false := by
   rw [beq_eq_false_iff_ne]
   intro he
   have h1 : (UInt8.ofNat x.toNat).toNat = x.toNat := UInt8.toNat_ofNat_of_lt' (by show _ < 256; omega)
   rw [he] at h1
   have h2 : ((0 : Int).toNat.toUInt8).toNat = 0 := by decide
   omega
  show (if UInt8.ofNat x.toNat == _ then 0 else if Lib.indexByte (Lib.bytesOf (xs ++ 0 :: rest)) _ == -1 then -1 else Lib.indexByte (Lib.bytesOf (xs ++ 0 :: rest)) _ + 1) = _
  rw [hne, ih]
  have hn : ((xs.length : Int) == -1) = false := beq_eq_false_iff_ne.2 (by omega)
  rw [hn]
  simp
theorem plain_bytes {s : ByteArray} (h : plainF s = true) : ∀ x ∈ bytesOf s, 0 < x ∧ x ≤ 255 := by
 intro x hx
 have hr := bytes_range s x hx
 obtain ⟨j, hj, rfl⟩ := List.getElem_of_mem hx
 have hj2 : j < s.size := by rwa [bytesOf_length] at hj
 have hb : (bytesOf s)[j] = bt s j := by rw [← rn_lt hj, rn_bytes]
 have := List.all_eq_true.1 h j (List.mem_range.2 hj2)
 rw [hb] at hr ⊢
 simp only [bne_iff_ne, ne_eq] at this
 omega
theorem IndexZero_calls (b o m c : Nat) (xs rest : List Int) (w : World) (hB : Byt w b o (xs ++ 0 :: rest)) (hx : ∀ x ∈ xs, 0 < x ∧ x ≤ 255) (hm : m = xs.length + 1 + rest.length) :
  Calls Tryz.prog 27 #[.slice (some ⟨b, o, none⟩) m c, .int .u8 0] w fun e w' => e = .returned (.int .i64 xs.length) ∧ w' = w := by
 have := Tryz.bytes_IndexByte b o m c (xs ++ 0 :: rest) 0 w (by simp; omega) (fun i hi => hB i (by simp; omega))
 rwa [index_zero xs rest hx] at this
theorem ReadCStringBytes_calls (b o m c : Nat) (xs rest : List Int) (w : World) (hB : Byt w b o (xs ++ 0 :: rest)) (hx : ∀ x ∈ xs, 0 < x ∧ x ≤ 255) (hm : m = xs.length + 1 + rest.length) (hc : m ≤ c) (hmx : c ≤ maxLen) (hml : m ≤ 1000000000) :
  Calls Tryz.prog 172 #[.slice (some ⟨b, o, none⟩) m c] w (RdAns (.slice (some ⟨b, o, none⟩) xs.length c) b (o + (xs.length + 1)) (m - (xs.length + 1)) (c - (xs.length + 1)) w) := by
 have HC := Lib.hid (IndexZero_calls b o m c xs rest w hB hx hm)
 have hn1 : xs.length + 1 ≤ m := by omega
 have d0 : decide ((xs.length : Int) < 0) = false := decide_eq_false (by omega)
 clear hB hx hm
 unfold maxLen at hmx
 generalize xs.length = k at *
 go_enter Tryz.func172, Tryz.ntmps172
 go_wp2_with fail
 refine HC.out.mono ?_
 rintro e w1 ⟨rfl, rfl⟩
 go_wp2_with fail
 by_cases hz : c = k + 1
 ·obtain rfl : m = k + 1 := by omega
  subst hz
  go_quiet (fail)
  go_wp2_with fail
  go_ret3
  exact ⟨some ⟨b, o, none⟩, by simp, ⟨_, rfl, .inr (by omega)⟩, pw_below_drewN (Below.refl _ _) nq⟩
 ·go_quiet (fail)
  go_wp2_with fail
  go_ret3
  exact ⟨_, rfl, ⟨_, rfl, .inl rfl⟩, pw_below_drewN (Below.refl _ _) nq⟩
theorem ReadCString_calls (b o m c : Nat) (s : ByteArray) (rest : List Int) (w : World) (hB : Byt w b o (bytesOf s ++ 0 :: rest)) (hs : plainF s = true) (hm : m = s.size + 1 + rest.length) (hc : m ≤ c) (hmx : c ≤ maxLen) (hml : m ≤ 1000000000) :
  Calls Tryz.prog 155 #[.slice (some ⟨b, o, none⟩) m c] w (RdAns (.string s) b (o + (s.size + 1)) (m - (s.size + 1)) (c - (s.size + 1)) w) := by
 have hl := bytesOf_length s
 have hbw : b < w.heap.size := World.block_lt_of_cell? w _ (hB 0 (by simp; omega))
 have HC := Lib.hid (ReadCStringBytes_calls b o m c (bytesOf s) rest w hB (plain_bytes hs) (by rw [hl]; exact hm) hc hmx hml)
 rw [hl] at HC
 have HL : Hid (∀ W, Below w.heap.size w W → ∀ C, (convert 23 9 (.slice (some ⟨b, o, none⟩) s.size C)).run Tryz.prog W = .ok (.string s) W) := fun W hW C => by
  have := conv_byt W b o C (bytesOf s) (hB.left.below hW hbw)
  rwa [hl, str_back] at this
 clear hB hs hm hl
 go_enter Tryz.func155, Tryz.ntmps155
 go_wp2_with fail
 refine HC.out.mono ?_
 rintro e w1 ⟨A, rfl, hA, hw⟩
 have cv := HL.out w1 hw c
 have HA := Lib.hid (And.intro hA hw)
 clear hA hw
 go_wp2_with fail
 go_ret3
 exact ⟨A, rfl, HA.out.1, HA.out.2⟩
theorem leI8b (n : Int) : leI 8 n = [n % 256, n / 256 % 256, n / 65536 % 256, n / 16777216 % 256, n / 4294967296 % 256, n / 1099511627776 % 256, n / 281474976710656 % 256, n / 72057594037927936 % 256] := by
 unfold leI leI leI leI leI leI leI leI leI
 have e1 : n / 256 / 256 = n / 65536 := by omega
 have e2 : n / 256 / 256 / 256 = n / 16777216 := by omega
 have e3 : n / 256 / 256 / 256 / 256 = n / 4294967296 := by omega
 have e4 : n / 256 / 256 / 256 / 256 / 256 = n / 1099511627776 := by omega
 have e5 : n / 256 / 256 / 256 / 256 / 256 / 256 = n / 281474976710656 := by omega
 have e6 : n / 256 / 256 / 256 / 256 / 256 / 256 / 256 = n / 72057594037927936 := by omega
 rw [e6, e5, e4, e3, e2, e1]
def ub (x : Int) : UInt8 := UInt8.ofNat (x % 256).toNat
theorem ub_toNat (x : Int) : (ub x).toNat = (x % 256).toNat := UInt8.toNat_ofNat_of_lt' (by show _ < 256; omega)
theorem ub_cell (x : Int) : ((ub x).toNat : Int) = x % 256 := by rw [ub_toNat]; omega
def ubs : Nat → Int → List UInt8
 | 0, _ => []
 | k + 1, n => ub n :: ubs k (n / 256)
theorem leNat_ubs : ∀ (k : Nat) (n : Int), 0 ≤ n → n < 256 ^ k → ((Lib.leNat (ubs k n) : Nat) : Int) = n
 | 0, n, h0, h1 => by
  have : n < 1 := h1
  show ((0 : Nat) : Int) = n
  omega
 | k + 1, n, h0, h1 => by
  have ih := leNat_ubs k (n / 256) (by omega) (by rw [Int.pow_succ] at h1; omega)
  show (((ub n).toNat + 256 * Lib.leNat (ubs k (n / 256)) : Nat) : Int) = n
  rw [ub_toNat]
  omega
theorem ubs8 (n : Int) : [ub n, ub (n / 256), ub (n / 65536), ub (n / 16777216), ub (n / 4294967296), ub (n / 1099511627776), ub (n / 281474976710656), ub (n / 72057594037927936)] = ubs 8 n := by
 unfold ubs ubs ubs ubs ubs ubs ubs ubs ubs
 have e1 : n / 256 / 256 = n / 65536 := by omega
 have e2 : n / 256 / 256 / 256 = n / 16777216 := by omega
 have e3 : n / 256 / 256 / 256 / 256 = n / 4294967296 := by omega
 have e4 : n / 256 / 256 / 256 / 256 / 256 = n / 1099511627776 := by omega
 have e5 : n / 256 / 256 / 256 / 256 / 256 / 256 = n / 281474976710656 := by omega
 have e6 : n / 256 / 256 / 256 / 256 / 256 / 256 / 256 = n / 72057594037927936 := by omega
 rw [e6, e5, e4, e3, e2, e1]
theorem ReadU32_calls (b o m c : Nat) (n : Int) (rest : List Int) (w : World) (hB : Byt w b o (leI 4 n ++ rest)) (hn : 0 ≤ n ∧ n < 4294967296) (hm : m = 4 + rest.length) (hc : m ≤ c) (hmx : c ≤ maxLen) (hml : m ≤ 1000000000) :
  Calls Tryz.prog 158 #[.slice (some ⟨b, o, none⟩) m c] w (RdAns (.int .u32 n) b (o + 4) (m - 4) (c - 4) w) := by
 have hq := hB.left
 rw [leI4] at hq
 have q0 := hq 0 (by simp)
 have q1 := hq 1 (by simp)
 have q2 := hq 2 (by simp)
 have q3 := hq 3 (by simp)
 simp only [rn, List.getD_cons_zero, List.getD_cons_succ, Nat.add_zero] at q0 q1 q2 q3
 rw [← ub_cell] at q0
 rw [← ub_cell] at q1
 rw [← ub_cell] at q2
 rw [← ub_cell] at q3
 have hbw : b < w.heap.size := World.block_lt_of_cell? w _ q0
 have hm4 : 4 ≤ m := by omega
 have d0 : decide ((m : Int) < 4) = false := decide_eq_false (by omega)
 have hv : ((Lib.leNat [ub n, ub (n / 256), ub (n / 65536), ub (n / 16777216)] : Nat) : Int) = n := by
  simp only [Lib.leNat, ub_toNat]
  omega
 have HC : Hid (∀ W, Below w.heap.size w W → Calls Tryz.prog 182 #[.agg #[], .slice (some ⟨b, o, none⟩) m c] W fun e w' => e = .returned (.int .u32 n) ∧ Below W.heap.size W w') := fun W hW => by
  have hcc : ∀ j, W.cell? ⟨b, j, none⟩ = w.cell? ⟨b, j, none⟩ := fun j => hW.cell (p := ⟨b, j, none⟩) hbw
  have := Tryz.binary_LE_Uint32 b o m c (ub n) (ub (n / 256)) (ub (n / 65536)) (ub (n / 16777216)) W hm4 ((hcc _).trans q0) ((hcc _).trans q1) ((hcc _).trans q2) ((hcc _).trans q3)
  rwa [hv] at this
 clear hB hm hq q0 q1 q2 q3 hv
 unfold maxLen at hmx
 go_enter Tryz.func158, Tryz.ntmps158
 go_wp2_with fail
 by_cases hz : c = 4
 ·obtain rfl : m = 4 := by omega
  subst hz
  go_region_with (go_at_call 182; refine (HC.out _ (by first | exact Below.refl _ _ | exact (Below.refl _ _).drew)).mono ?_; rintro e w1 ⟨rfl, hw⟩; have HW := Lib.hid hw; clear hw)
  all_goals go_wp2_with fail
  all_goals go_ret3
  all_goals exact ⟨some ⟨b, o, none⟩, rfl, ⟨_, rfl, .inr (by omega)⟩, (Below.refl _ _).drew.trans HW.out⟩
 ·go_region_with (go_at_call 182; refine (HC.out _ (by first | exact Below.refl _ _ | exact (Below.refl _ _).drew)).mono ?_; rintro e w1 ⟨rfl, hw⟩; have HW := Lib.hid hw; clear hw)
  all_goals go_wp2_with fail
  all_goals go_ret3
  all_goals exact ⟨some ⟨b, o + 4, none⟩, rfl, ⟨_, rfl, .inl rfl⟩, (Below.refl _ _).drew.trans HW.out⟩
theorem ReadU64_calls (b o m c : Nat) (n : Int) (rest : List Int) (w : World) (hB : Byt w b o (leI 8 n ++ rest)) (hn : 0 ≤ n ∧ n < 18446744073709551616) (hm : m = 8 + rest.length) (hc : m ≤ c) (hmx : c ≤ maxLen) (hml : m ≤ 1000000000) :
  Calls Tryz.prog 150 #[.slice (some ⟨b, o, none⟩) m c] w (RdAns (.int .u64 n) b (o + 8) (m - 8) (c - 8) w) := by
 have hq := hB.left
 rw [leI8b] at hq
 have q0 := hq 0 (by simp)
 have q1 := hq 1 (by simp)
 have q2 := hq 2 (by simp)
 have q3 := hq 3 (by simp)
 have q4 := hq 4 (by simp)
 have q5 := hq 5 (by simp)
 have q6 := hq 6 (by simp)
 have q7 := hq 7 (by simp)
 simp only [rn, List.getD_cons_zero, List.getD_cons_succ, Nat.add_zero] at q0 q1 q2 q3 q4 q5 q6 q7
 rw [← ub_cell] at q0
 rw [← ub_cell] at q1
 rw [← ub_cell] at q2
 rw [← ub_cell] at q3
 rw [← ub_cell] at q4
 rw [← ub_cell] at q5
 rw [← ub_cell] at q6
 rw [← ub_cell] at q7
 have hbw : b < w.heap.size := World.block_lt_of_cell? w _ q0
 have hm8 : 8 ≤ m := by omega
 have d0 : decide ((m : Int) < 8) = false := decide_eq_false (by omega)
 have hv : ((Lib.leNat [ub n, ub (n / 256), ub (n / 65536), ub (n / 16777216), ub (n / 4294967296), ub (n / 1099511627776), ub (n / 281474976710656), ub (n / 72057594037927936)] : Nat) : Int) = n := by
  rw [ubs8]
  exact leNat_ubs 8 n hn.1 hn.2
 have HC : Hid (∀ W, Below w.heap.size w W → Calls Tryz.prog 171 #[.agg #[], .slice (some ⟨b, o, none⟩) m c] W fun e w' => e = .returned (.int .u64 n) ∧ Below W.heap.size W w') := fun W hW => by
  have hcc : ∀ j, W.cell? ⟨b, j, none⟩ = w.cell? ⟨b, j, none⟩ := fun j => hW.cell (p := ⟨b, j, none⟩) hbw
  have := Tryz.binary_LE_Uint64 b o m c (ub n) (ub (n / 256)) (ub (n / 65536)) (ub (n / 16777216)) (ub (n / 4294967296)) (ub (n / 1099511627776)) (ub (n / 281474976710656)) (ub (n / 72057594037927936)) W hm8 ((hcc _).trans q0) ((hcc _).trans q1) ((hcc _).trans q2) ((hcc _).trans q3) ((hcc _).trans q4) ((hcc _).trans q5) ((hcc _).trans q6) ((hcc _).trans q7)
  rwa [hv] at this
 clear hB hm hq q0 q1 q2 q3 q4 q5 q6 q7 hv
 unfold maxLen at hmx
 go_enter Tryz.func150, Tryz.ntmps150
 go_wp2_with fail
 by_cases hz : c = 8
 ·obtain rfl : m = 8 := by omega
  subst hz
  go_region_with (go_at_call 171; refine (HC.out _ (by first | exact Below.refl _ _ | exact (Below.refl _ _).drew)).mono ?_; rintro e w1 ⟨rfl, hw⟩; have HW := Lib.hid hw; clear hw)
  all_goals go_wp2_with fail
  all_goals go_ret3
  all_goals exact ⟨some ⟨b, o, none⟩, rfl, ⟨_, rfl, .inr (by omega)⟩, (Below.refl _ _).drew.trans HW.out⟩
 ·go_region_with (go_at_call 171; refine (HC.out _ (by first | exact Below.refl _ _ | exact (Below.refl _ _).drew)).mono ?_; rintro e w1 ⟨rfl, hw⟩; have HW := Lib.hid hw; clear hw)
  all_goals go_wp2_with fail
  all_goals go_ret3
  all_goals exact ⟨some ⟨b, o + 8, none⟩, rfl, ⟨_, rfl, .inl rfl⟩, (Below.refl _ _).drew.trans HW.out⟩
theorem or_i64 (a z : Int) (h0 : 0 ≤ a) (h1 : a < 72057594037927936) (z0 : 0 ≤ z) (z1 : z < 18446744073709551616) (z2 : z % 72057594037927936 = 0) : bits .or .i64 a (IntKind.i64.wrap z) = IntKind.i64.wrap (a + z) := by
 obtain ⟨x, rfl⟩ := Int.eq_ofNat_of_zero_le h0
 obtain ⟨y, rfl⟩ := Int.eq_ofNat_of_zero_le z0
 have e1 : (BitVec.ofInt 64 (x : Int)).toNat = x := by rw [BitVec.ofInt_natCast, BitVec.toNat_ofNat]; exact Nat.mod_eq_of_lt (by omega)
 have e2 : BitVec.ofInt 64 (IntKind.i64.wrap (y : Int)) = BitVec.ofInt 64 (y : Int) := by
  apply BitVec.eq_of_toNat_eq
  rw [BitVec.toNat_ofInt, BitVec.toNat_ofInt]
  congr 1
  simp only [IntKind.wrap, IntKind.bits, IntKind.signed]
  simp
  split <;> omega
 have e3 : (BitVec.ofInt 64 (y : Int)).toNat = y := by rw [BitVec.ofInt_natCast, BitVec.toNat_ofNat]; exact Nat.mod_eq_of_lt (by omega)
 have e4 : x ||| y = x + y := by
  obtain ⟨q, rfl⟩ : ∃ q, y = 2 ^ 56 * q := ⟨y / 72057594037927936, by omega⟩
  rw [Nat.or_comm, ← Nat.two_pow_add_eq_or_of_lt (by omega), Nat.add_comm]
 show IntKind.i64.wrap ((BitVec.ofInt 64 (x : Int) ||| BitVec.ofInt 64 (IntKind.i64.wrap (y : Int))).toNat : Int) = _
 rw [e2, BitVec.toNat_or, e1, e3, e4]
 congr 1
theorem bits_join_i64 (i : Nat) (y x : Int) (hy₀ : 0 ≤ y) (hy : y < 2 ^ i) (hx₀ : 0 ≤ x) (hx : x % 2 ^ i = 0) (hy1 : y < 2 ^ 56 := by omega) (hx1 : x < 2 ^ 56 := by omega) : bits .or .i64 y x = y + x :=
 bits_join_low .i64 56 (by decide) (fun n h0 h1 => by simp only [IntKind.wrap, IntKind.bits, IntKind.signed]; simp; omega) i y x hy₀ hy hy1 hx₀ hx hx1
theorem ReadI64_calls (b o m c : Nat) (n : Int) (rest : List Int) (w : World) (hB : Byt w b o (leI 8 n ++ rest)) (hn : -9223372036854775808 ≤ n ∧ n ≤ 9223372036854775807) (hm : m = 8 + rest.length) (hc : m ≤ c) (hmx : c ≤ maxLen) (hml : m ≤ 1000000000) :
  Calls Tryz.prog 154 #[.slice (some ⟨b, o, none⟩) m c] w (RdAns (.int .i64 n) b (o + 8) (m - 8) (c - 8) w) := by
 have hq := hB.left
 rw [leI8b] at hq
 have q0 := hq 0 (by simp)
 have q1 := hq 1 (by simp)
 have q2 := hq 2 (by simp)
 have q3 := hq 3 (by simp)
 have q4 := hq 4 (by simp)
 have q5 := hq 5 (by simp)
 have q6 := hq 6 (by simp)
 have q7 := hq 7 (by simp)
 simp only [rn, List.getD_cons_zero, List.getD_cons_succ, Nat.add_zero] at q0 q1 q2 q3 q4 q5 q6 q7
 have hm8 : 8 ≤ m := by omega
 have d0 : decide ((m : Int) < 8) = false := decide_eq_false (by omega)
 clear hq hB hm
 unfold maxLen at hmx
 go_enter Tryz.func154, Tryz.ntmps154
 have x0 : 0 ≤ n % 256 ∧ n % 256 < 256 := by omega
 have f1 : bits .or .i64 (n % 256) (n / 256 % 256 * 256) = n % 65536 := by
  rw [bits_join_i64 8 _ _ (by omega) (by omega) (by omega) (by omega)]
  omega
 have f2 : bits .or .i64 (n % 65536) (n / 65536 % 256 * 65536) = n % 16777216 := by
  rw [bits_join_i64 16 _ _ (by omega) (by omega) (by omega) (by omega)]
  omega
 have f3 : bits .or .i64 (n % 16777216) (n / 16777216 % 256 * 16777216) = n % 4294967296 := by
  rw [bits_join_i64 24 _ _ (by omega) (by omega) (by omega) (by omega)]
  omega
 have f4 : bits .or .i64 (n % 4294967296) (n / 4294967296 % 256 * 4294967296) = n % 1099511627776 := by
  rw [bits_join_i64 32 _ _ (by omega) (by omega) (by omega) (by omega)]
  omega
 have f5 : bits .or .i64 (n % 1099511627776) (n / 1099511627776 % 256 * 1099511627776) = n % 281474976710656 := by
  rw [bits_join_i64 40 _ _ (by omega) (by omega) (by omega) (by omega)]
  omega
 have f6 : bits .or .i64 (n % 281474976710656) (n / 281474976710656 % 256 * 281474976710656) = n % 72057594037927936 := by
  rw [bits_join_i64 48 _ _ (by omega) (by omega) (by omega) (by omega)]
  omega
 have f7 : bits .or .i64 (n % 72057594037927936) (wrap64 (n / 72057594037927936 % 256 * 72057594037927936)) = n := by
  have h := or_i64 (n % 72057594037927936) (n / 72057594037927936 % 256 * 72057594037927936) (by omega) (by omega) (by omega) (by omega) (by omega)
  simp only [IntKind.wrap_i64] at h
  unfold wrap64
  rw [h]
  omega
 go_wp2_with fail
 go_quiet (fail)
 go_wp2_with fail
 by_cases hz : c = 8
 ·obtain rfl : m = 8 := by omega
  subst hz
  go_quiet (fail)
  go_wp2_with fail
  go_ret3
  exact ⟨some ⟨b, o, none⟩, rfl, ⟨_, rfl, .inr (by omega)⟩, by first | exact pw_below_drewN (pw_below_drewN (Below.refl _ _) _) _ | exact pw_below_drewN (Below.refl _ _) _⟩
 ·go_quiet (fail)
  go_wp2_with fail
  go_ret3
  exact ⟨some ⟨b, o + 8, none⟩, rfl, ⟨_, rfl, .inl rfl⟩, by first | exact pw_below_drewN (pw_below_drewN (Below.refl _ _) _) _ | exact pw_below_drewN (Below.refl _ _) _⟩
def RdAns2 (V1 V2 : Value) (w : World) (e : Ending) (w' : World) : Prop := ∃ R, e = .returned (.tuple #[V1, V2, R, .bool true]) ∧ Below w.heap.size w w'
def OkAns2 (V1 V2 : Value) (w : World) (e : Ending) (w' : World) : Prop := e = .returned (.tuple #[V1, V2, .bool true]) ∧ Below w.heap.size w w'
theorem ReadDouble_calls (b o m c : Nat) (n : Int) (rest : List Int) (w : World) (hB : Byt w b o (leI 8 n ++ rest)) (hn : 0 ≤ n ∧ n < 18446744073709551616) (hm : m = 8 + rest.length) (hc : m ≤ c) (hmx : c ≤ maxLen) (hml : m ≤ 1000000000) :
  Calls Tryz.prog 115 #[.slice (some ⟨b, o, none⟩) m c] w (RdAns (.float .f64 n.toNat) b (o + 8) (m - 8) (c - 8) w) := by
 have HC := Lib.hid (ReadU64_calls b o m c n rest w hB hn hm hc hmx hml)
 have kfb := fun W => frombits_run n W
 clear hB hm
 go_enter Tryz.func115, Tryz.ntmps115
 go_wp2_with fail
 refine HC.out.mono ?_
 rintro e w1 ⟨A, rfl, hA, hw⟩
 have HA := Lib.hid (And.intro hA hw)
 clear hA hw
 go_wp2_with fail
 go_ret3
 exact ⟨A, rfl, HA.out.1, HA.out.2⟩
theorem leI8_split (n : Int) : leI 8 n = leI 4 (n % 4294967296) ++ leI 4 (n / 4294967296) := by
 rw [leI8b, leI4, leI4]
 simp only [List.cons_append, List.nil_append, List.cons.injEq, and_true]
 refine ⟨?_, ?_, ?_, ?_, ?_, ?_, ?_, ?_⟩ <;> (first | trivial | omega)
theorem ReadTimestamp_calls (b o m c : Nat) (n1 n2 : Int) (rest : List Int) (w : World) (hB : Byt w b o (leI 4 n1 ++ (leI 4 n2 ++ rest))) (hn1 : 0 ≤ n1 ∧ n1 < 4294967296) (hn2 : 0 ≤ n2 ∧ n2 < 4294967296) (hm : m = 8 + rest.length) (hc : m ≤ c) (hmx : c ≤ maxLen) (hml : m ≤ 1000000000) :
  Calls Tryz.prog 132 #[.slice (some ⟨b, o, none⟩) m c] w (RdAns2 (.int .u32 n2) (.int .u32 n1) w) := by
 have hbw : b < w.heap.size := World.block_lt_of_cell? w _ (hB 0 (by simp [leI]))
 have HC := Lib.hid (ReadU32_calls b o m c _ _ w hB hn1 (by rw [List.length_append, leI_length]; omega) hc hmx hml)
 have hr := hB.right
 rw [leI_length] at hr
 have HD : Hid (∀ W, Below w.heap.size w W → Calls Tryz.prog 158 #[.slice (some ⟨b, o + 4, none⟩) (m - 4) (c - 4)] W (RdAns (.int .u32 n2) b (o + 4 + 4) (m - 4 - 4) (c - 4 - 4) W)) := fun W hW => ReadU32_calls b (o + 4) (m - 4) (c - 4) _ _ W (hr.below hW hbw) hn2 (by omega) (by omega) (by unfold maxLen at *; omega) (by omega)
 have hm8 : 8 ≤ m := by omega
 clear hB hm hr
 go_enter Tryz.func132, Tryz.ntmps132
 go_wp2_with fail
 refine HC.out.mono ?_
 rintro e w1 ⟨A, rfl, ⟨o', rfl, ho⟩, hw⟩
 obtain rfl : o' = o + 4 := by omega
 have HW := Lib.hid hw
 clear ho hw
 go_wp2_with fail
 refine (HD.out w1 HW.out).mono ?_
 rintro e w2 ⟨A, rfl, hA, hw⟩
 have HW2 := Lib.hid (HW.out.trans (hw.mono HW.out.size))
 clear hA hw
 go_wp2_with fail
 exact bodyPost_ret (v := .tuple #[.int .u32 n2, .int .u32 n1, .slice A (m - 4 - 4) (c - 4 - 4), .bool true]) (by simp [results, Tryz.results132, go_sem]) rfl ⟨_, rfl, HW2.out⟩
theorem ReadDecimal128_calls (b o m c : Nat) (n1 n2 : Int) (rest : List Int) (w : World) (hB : Byt w b o (leI 8 n1 ++ (leI 8 n2 ++ rest))) (hn1 : 0 ≤ n1 ∧ n1 < 18446744073709551616) (hn2 : 0 ≤ n2 ∧ n2 < 18446744073709551616) (hm : m = 16 + rest.length) (hc : m ≤ c) (hmx : c ≤ maxLen) (hml : m ≤ 1000000000) :
  Calls Tryz.prog 134 #[.slice (some ⟨b, o, none⟩) m c] w (RdAns2 (.int .u64 n2) (.int .u64 n1) w) := by
 have hbw : b < w.heap.size := World.block_lt_of_cell? w _ (hB 0 (by simp [leI]))
 have HC := Lib.hid (ReadU64_calls b o m c _ _ w hB hn1 (by rw [List.length_append, leI_length]; omega) hc hmx hml)
 have hr := hB.right
 rw [leI_length] at hr
 have HD : Hid (∀ W, Below w.heap.size w W → Calls Tryz.prog 150 #[.slice (some ⟨b, o + 8, none⟩) (m - 8) (c - 8)] W (RdAns (.int .u64 n2) b (o + 8 + 8) (m - 8 - 8) (c - 8 - 8) W)) := fun W hW => ReadU64_calls b (o + 8) (m - 8) (c - 8) _ _ W (hr.below hW hbw) hn2 (by omega) (by omega) (by unfold maxLen at *; omega) (by omega)
 have hm16 : 16 ≤ m := by omega
 clear hB hm hr
 go_enter Tryz.func134, Tryz.ntmps134
 go_wp2_with fail
 refine HC.out.mono ?_
 rintro e w1 ⟨A, rfl, ⟨o', rfl, ho⟩, hw⟩
 obtain rfl : o' = o + 8 := by omega
 have HW := Lib.hid hw
 clear ho hw
 go_wp2_with fail
 refine (HD.out w1 HW.out).mono ?_
 rintro e w2 ⟨A, rfl, hA, hw⟩
 have HW2 := Lib.hid (HW.out.trans (hw.mono HW.out.size))
 clear hA hw
 go_wp2_with fail
 exact bodyPost_ret (v := .tuple #[.int .u64 n2, .int .u64 n1, .slice A (m - 8 - 8) (c - 8 - 8), .bool true]) (by simp [results, Tryz.results134, go_sem]) rfl ⟨_, rfl, HW2.out⟩
theorem ReadRegex_calls (b o m c : Nat) (s t : ByteArray) (rest : List Int) (w : World) (hB : Byt w b o (bytesOf s ++ 0 :: (bytesOf t ++ 0 :: rest))) (hs : plainF s = true) (ht : plainF t = true) (hs3 : s.size ≤ 300) (ht3 : t.size ≤ 300) (hm : m = s.size + 1 + (t.size + 1 + rest.length)) (hc : m ≤ c) (hmx : c ≤ maxLen) (hml : m ≤ 1000000000) :
  Calls Tryz.prog 125 #[.slice (some ⟨b, o, none⟩) m c] w (RdAns2 (.string s) (.string t) w) := by
 have hl := bytesOf_length s
 have hl2 := bytesOf_length t
 have hbw : b < w.heap.size := World.block_lt_of_cell? w _ (hB 0 (by simp; omega))
 have HC := Lib.hid (ReadCString_calls b o m c s (bytesOf t ++ 0 :: rest) w hB hs (by simp [hl2]; omega) hc hmx hml)
 have hr := hB.right
 rw [hl] at hr
 have hr2 : Byt w b (o + (s.size + 1)) (bytesOf t ++ 0 :: rest) := by
  have := Byt.right (l := [0]) (m := bytesOf t ++ 0 :: rest) hr
  simpa [Nat.add_assoc] using this
 have HD : Hid (∀ W, Below w.heap.size w W → Calls Tryz.prog 155 #[.slice (some ⟨b, o + (s.size + 1), none⟩) (m - (s.size + 1)) (c - (s.size + 1))] W (RdAns (.string t) b (o + (s.size + 1) + (t.size + 1)) (m - (s.size + 1) - (t.size + 1)) (c - (s.size + 1) - (t.size + 1)) W)) := fun W hW => ReadCString_calls b (o + (s.size + 1)) (m - (s.size + 1)) (c - (s.size + 1)) t rest W (hr2.below hW hbw) ht (by omega) (by omega) (by unfold maxLen at *; omega) (by omega)
 have hm1 : s.size + 2 ≤ m := by omega
 clear hB hm hr hr2 hl hl2 hs ht
 go_enter Tryz.func125, Tryz.ntmps125
 go_wp2_with fail
 refine HC.out.mono ?_
 rintro e w1 ⟨A, rfl, ⟨o', rfl, ho⟩, hw⟩
 obtain rfl : o' = o + (s.size + 1) := by omega
 have HW := Lib.hid hw
 clear ho hw
 go_wp2_with fail
 refine (HD.out w1 HW.out).mono ?_
 rintro e w2 ⟨A, rfl, hA, hw⟩
 have HW2 := Lib.hid (HW.out.trans (hw.mono HW.out.size))
 clear hA hw
 go_wp2_with fail
 exact bodyPost_ret (v := .tuple #[.string s, .string t, .slice A (m - (s.size + 1) - (t.size + 1)) (c - (s.size + 1) - (t.size + 1)), .bool true]) (by simp [results, Tryz.results125, go_sem]) rfl ⟨_, rfl, HW2.out⟩
theorem vlen_11 (b o m c : Nat) (s t : ByteArray) (rest : List Int) (w : World) (hB : Byt w b o (bytesOf s ++ 0 :: (bytesOf t ++ 0 :: rest))) (hs : plainF s = true) (ht : plainF t = true) (hs3 : s.size ≤ 300) (ht3 : t.size ≤ 300) (hm : m = s.size + 1 + (t.size + 1 + rest.length)) (hc : m ≤ c) (hmx : c ≤ maxLen) (hml : m ≤ 1000000000) :
  Calls Tryz.prog 108 #[.slice (some ⟨b, o, none⟩) m c, .int .u8 11] w (LenAns ((s.size + 1 + (t.size + 1) : Nat) : Int) w) := by
 have hl := bytesOf_length s
 have hl2 := bytesOf_length t
 have HC := Lib.hid (IndexZero_calls b o m c (bytesOf s) (bytesOf t ++ 0 :: rest) w hB (plain_bytes hs) (by simp [hl, hl2]; omega))
 have hr := hB.right
 rw [hl] at hr HC
 have hr2 : Byt w b (o + (s.size + 1)) (bytesOf t ++ 0 :: rest) := by
  have := Byt.right (l := [0]) (m := bytesOf t ++ 0 :: rest) hr
  simpa [Nat.add_assoc] using this
 have HD := Lib.hid (IndexZero_calls b (o + (s.size + 1)) (m - (s.size + 1)) (c - (s.size + 1)) (bytesOf t) rest w hr2 (plain_bytes ht) (by simp [hl2]; omega))
 rw [hl2] at HD
 have hm1 : s.size + 2 ≤ m := by omega
 have d0 : decide ((s.size : Int) < 0) = false := decide_eq_false (by omega)
 have d1 : decide ((t.size : Int) < 0) = false := decide_eq_false (by omega)
 have hz1 : ¬ (s.size + 1 = c) := by omega
 have hwx : IntKind.i32.wrap ((s.size : Int) + 1 + t.size + 1) = (s.size : Int) + 1 + t.size + 1 := by simp only [IntKind.wrap, IntKind.bits, IntKind.signed]; simp; omega
 have d2 : decide ((s.size : Int) + 1 + t.size + 1 < 0) = false := decide_eq_false (by omega)
 clear hB hm hr hr2 hl hl2 hs ht
 unfold maxLen at hmx
 go_enter Tryz.func108, Tryz.ntmps108
 go_wp2_with fail
 refine HC.out.mono ?_
 rintro e w1 ⟨rfl, rfl⟩
 go_wp2_with fail
 refine HD.out.mono ?_
 rintro e w2 ⟨rfl, rfl⟩
 go_wp2_with fail
 go_ret2
 exact ⟨by simp; omega, Below.refl _ _⟩
theorem TimestampOK_ok {V1 V2 v : Value} {w : World} (h : ∀ W, Below w.heap.size w W → Calls Tryz.prog 132 #[v] W (RdAns2 V1 V2 W)) : Calls Tryz.prog 86 #[.agg #[.int .u8 17, v]] w (OkAns2 V1 V2 w) := by
 have HB : Hid (Below w.heap.size w (w.alloc (.cells #[.int .u8 17, v] 67))) := (Below.refl _ _).alloc (Nat.le_refl _) _
 have HC := Lib.hid (h _ HB.out)
 clear h
 go_enter Tryz.func86, Tryz.ntmps86
 go_wp2_with fail
 refine HC.out.mono ?_
 rintro e w1 ⟨R, rfl, hw⟩
 have HW := Lib.hid (HB.out.trans (hw.mono HB.out.size))
 clear hw
 go_wp2_with fail
 go_ret3
 exact ⟨rfl, HW.out⟩
theorem Decimal128OK_ok {V1 V2 v : Value} {w : World} (h : ∀ W, Below w.heap.size w W → Calls Tryz.prog 134 #[v] W (RdAns2 V1 V2 W)) : Calls Tryz.prog 88 #[.agg #[.int .u8 19, v]] w (OkAns2 V1 V2 w) := by
 have HB : Hid (Below w.heap.size w (w.alloc (.cells #[.int .u8 19, v] 67))) := (Below.refl _ _).alloc (Nat.le_refl _) _
 have HC := Lib.hid (h _ HB.out)
 clear h
 go_enter Tryz.func88, Tryz.ntmps88
 go_wp2_with fail
 refine HC.out.mono ?_
 rintro e w1 ⟨R, rfl, hw⟩
 have HW := Lib.hid (HB.out.trans (hw.mono HB.out.size))
 clear hw
 go_wp2_with fail
 go_ret3
 exact ⟨rfl, HW.out⟩
theorem RegexOK_ok {V1 V2 v : Value} {w : World} (h : ∀ W, Below w.heap.size w W → Calls Tryz.prog 125 #[v] W (RdAns2 V1 V2 W)) : Calls Tryz.prog 78 #[.agg #[.int .u8 11, v]] w (OkAns2 V1 V2 w) := by
 have HB : Hid (Below w.heap.size w (w.alloc (.cells #[.int .u8 11, v] 67))) := (Below.refl _ _).alloc (Nat.le_refl _) _
 have HC := Lib.hid (h _ HB.out)
 clear h
 go_enter Tryz.func78, Tryz.ntmps78
 go_wp2_with fail
 refine HC.out.mono ?_
 rintro e w1 ⟨R, rfl, hw⟩
 have HW := Lib.hid (HB.out.trans (hw.mono HB.out.size))
 clear hw
 go_wp2_with fail
 go_ret3
 exact ⟨rfl, HW.out⟩
theorem step_copy_row {P : Program} {ops : Array Oper} {o : Oper} {a : Act} {w : World} {K : Act → World → Prop} {Q : Exit → Act → World → Prop} {E : Prop} (hgd : o.guard = none) (d s : Operand) (dT sT : TypeId)
  (ho : o.op = .call { callee := .builtin .copy, args := #[d, s], argTypes := #[dT, sT] }) (elem : TypeId) (hu : P.underlying dT = some (.slice elem)) (hsz : (P.info? elem).map (·.size) = some 1)
  (g dLen dCap : Nat) (ad : Addr) (sLen sCap : Nat) (hd : a.eval d = .slice (some ⟨g, 0, none⟩) dLen dCap) (hs : a.eval s = .slice (some ad) sLen sCap)
  (cur : List Value) (t : TypeId) (hg : w.heap[g]? = some (.cells cur.toArray t (0, 0))) (cs : List Value) (hn : cs.length = Nat.min sLen dLen)
  (hsrc : ∀ j v, cs[j]? = some v → w.cell? (ad.add j) = some v) (hfit : 0 + cs.length ≤ cur.length) (h1 : ∀ v ∈ cs, v.oneCell' = true)
  (h : ∀ w', Hid (w'.heap[g]? = some (.cells (splice cur 0 cs).toArray t (0, 0))) → Keeps w.heap.size [g] w w' → K (a.put o.dst (goInt cs.length)) w') :
  if Region.wanted o (yielded ops a.tmps) = true then Oper.wp P o a w K Q else E := by
 have hw : Region.wanted o (yielded ops a.tmps) = true := by simp [Region.wanted, hgd]
 rw [if_pos hw]
 have hrun := run_copy_row (P := P) w dT sT o.type elem g 0 dLen dCap ad sLen sCap cur.toArray t cs hu hsz hg hn hsrc (by simpa using hfit) h1
 unfold Oper.wp
 simp [execOp, ho, resolve, invoke, builtin, hd, hs, hrun, Result.andThen]
 refine h _ ?_ ⟨rfl, rfl, rfl, by simp [World.setRow], fun k _ hk => setRow_other w g k _ (by simpa using hk)⟩
 show _ = _
 simpa [splice] using setRow_heap w g _ _ t _ hg
theorem cell_of_heap {w : World} {g j : Nat} {arr : Array Value} {t : TypeId} {fr : Nat × Nat} {v : Value} (h : w.heap[g]? = some (.cells arr t fr)) (hv : arr[j]? = some v) : w.cell? ⟨g, j, none⟩ = some v := by
 unfold World.cell?
 simp [h, hv]
def idV (l : List Int) : Value := .agg (nums .u8 l).toArray
theorem twelve {l : List Int} (h : l.length = 12) : ∃ x0 x1 x2 x3 x4 x5 x6 x7 x8 x9 x10 x11, l = [x0, x1, x2, x3, x4, x5, x6, x7, x8, x9, x10, x11] := by
 match l, h with
 | [x0, x1, x2, x3, x4, x5, x6, x7, x8, x9, x10, x11], _ => exact ⟨x0, x1, x2, x3, x4, x5, x6, x7, x8, x9, x10, x11, rfl⟩
theorem ReadObjectID_calls (b o m c : Nat) (l rest : List Int) (w : World) (hl : l.length = 12) (hB : Byt w b o (l ++ rest)) (hm : m = 12 + rest.length) (hc : m ≤ c) (hmx : c ≤ maxLen) (hml : m ≤ 1000000000) :
  Calls Tryz.prog 120 #[.slice (some ⟨b, o, none⟩) m c] w (RdAns (idV l) b (o + 12) (m - 12) (c - 12) w) := by
 have hbw : b < w.heap.size := World.block_lt_of_cell? w _ (hB 0 (by simp; omega))
 have hm12 : 12 ≤ m := by omega
 have d0 : decide ((m : Int) < 12) = false := decide_eq_false (by omega)
 have HBY := Lib.hid hB.left
 clear hB hm
 unfold maxLen at hmx
 go_enter Tryz.func120, Tryz.ntmps120
 go_wp2_with fail
 obtain ⟨W0, hW0⟩ : ∃ W, ((w.alloc (.cells #[.int .u8 0, .int .u8 0, .int .u8 0, .int .u8 0, .int .u8 0, .int .u8 0, .int .u8 0, .int .u8 0, .int .u8 0, .int .u8 0, .int .u8 0, .int .u8 0] 107)).alloc (.cells #[.int .u8 0, .int .u8 0, .int .u8 0, .int .u8 0, .int .u8 0, .int .u8 0, .int .u8 0, .int .u8 0, .int .u8 0, .int .u8 0, .int .u8 0, .int .u8 0] 107)) = W := ⟨_, rfl⟩
 rw [hW0]
 have HW0 : Hid (Below w.heap.size w W0) := by show Below _ _ _; rw [← hW0]; exact ((Below.refl _ _).alloc (Nat.le_refl _) _).alloc (by simp) _
 have HG : Hid (W0.drew.heap[w.heap.size + 1]? = some (.cells #[.int .u8 0, .int .u8 0, .int .u8 0, .int .u8 0, .int .u8 0, .int .u8 0, .int .u8 0, .int .u8 0, .int .u8 0, .int .u8 0, .int .u8 0, .int .u8 0].toList.toArray 107 (0, 0))) := by show _ = _; rw [← hW0]; show ((w.heap.push _).push _)[w.heap.size + 1]? = _; rw [Array.getElem?_push, if_pos (by simp)]
 have HZ : Hid (W0.heap.size = w.heap.size + 2) := by show _ = _; rw [← hW0]; simp
 have HC0 : Hid (∀ j, j < 12 → W0.cell? ⟨w.heap.size, j, none⟩ = some (.int .u8 0) ∧ W0.frozen? ⟨w.heap.size, j, none⟩ = false) := by
  intro j hj
  rw [← hW0]
  have : j = 0 ∨ j = 1 ∨ j = 2 ∨ j = 3 ∨ j = 4 ∨ j = 5 ∨ j = 6 ∨ j = 7 ∨ j = 8 ∨ j = 9 ∨ j = 10 ∨ j = 11 := by omega
  rcases this with rfl | rfl | rfl | rfl | rfl | rfl | rfl | rfl | rfl | rfl | rfl | rfl <;> exact ⟨by simp [go_sem], by simp [go_sem]⟩
 obtain ⟨x0, x1, x2, x3, x4, x5, x6, x7, x8, x9, x10, x11, rfl⟩ := twelve hl
 have HSRC : Hid (∀ j v, (nums .u8 [x0, x1, x2, x3, x4, x5, x6, x7, x8, x9, x10, x11])[j]? = some v → W0.drew.cell? ((⟨b, o, none⟩ : Addr).add j) = some v) := by
  intro j v hv
  obtain ⟨hj, rfl⟩ := List.getElem?_eq_some_iff.1 hv
  have hj2 : j < 12 := by simpa [nums] using hj
  have e1 : (⟨b, o, none⟩ : Addr).add j = ⟨b, o + j, none⟩ := by unfold Addr.add; split <;> simp_all
  rw [e1]
  have h1 := HBY.out j (by simpa using hj2)
  have h2 : W0.drew.cell? ⟨b, o + j, none⟩ = w.cell? ⟨b, o + j, none⟩ := HW0.out.drew.cell (p := ⟨b, o + j, none⟩) hbw
  rw [h2, h1, rn_lt (by simpa using hj2)]
  simp only [nums, List.getElem_map]
 have hslice : (nums .u8 [x0, x1, x2, x3, x4, x5, x6, x7, x8, x9, x10, x11]).length = 12 := rfl
 have HONE : Hid (∀ v ∈ nums .u8 [x0, x1, x2, x3, x4, x5, x6, x7, x8, x9, x10, x11], v.oneCell' = true) := by intro v hv; simp only [nums, List.mem_map] at hv; obtain ⟨x, _, rfl⟩ := hv; rfl
 clear hW0 hl hslice
 have hc12 : 12 ≤ c := by omega
 have hc13 : (12 : Int) ≤ (c : Int) := by omega
 go_region_law (refine step_copy_row rfl (.tmp 13) (.tmp 16) 23 23 rfl 5 Tryz.underlying23 (by kernel_rfl) (w.heap.size + 1) 12 12 ⟨b, o, none⟩ 12 c rfl rfl #[.int .u8 0, .int .u8 0, .int .u8 0, .int .u8 0, .int .u8 0, .int .u8 0, .int .u8 0, .int .u8 0, .int .u8 0, .int .u8 0, .int .u8 0, .int .u8 0].toList 107 HG.out (nums .u8 [x0, x1, x2, x3, x4, x5, x6, x7, x8, x9, x10, x11]) rfl HSRC.out (show 12 ≤ 12 from Nat.le_refl _) HONE.out ?_; intro w4 hg4 hb4; have HG4 := Lib.hid hg4; have HB4 := Lib.hid hb4; clear hg4 hb4)
 have HB5 : Hid (Below w.heap.size w w4) := HW0.out.drew.trans (HB4.out.below (by show w.heap.size ≤ W0.heap.size; have := HZ.out; omega) (by intro s hs; simp at hs; omega))
 have HC4 : Hid (∀ j, j < 12 → w4.cell? ⟨w.heap.size, j, none⟩ = some (.int .u8 0) ∧ w4.frozen? ⟨w.heap.size, j, none⟩ = false) := fun j hj =>
  ⟨(HB4.out.cell (p := ⟨w.heap.size, j, none⟩) (by show w.heap.size < W0.heap.size; have := HZ.out; omega) (by simp)).trans (HC0.out j hj).1, (HB4.out.frozen (p := ⟨w.heap.size, j, none⟩) (by show w.heap.size < W0.heap.size; have := HZ.out; omega) (by simp)).trans (HC0.out j hj).2⟩
 have g0 : w4.cell? ⟨w.heap.size + 1, 0, none⟩ = some (.int .u8 x0) := cell_of_heap HG4.out.out rfl
 have g1 : w4.cell? ⟨w.heap.size + 1, 1, none⟩ = some (.int .u8 x1) := cell_of_heap HG4.out.out rfl
 have g2 : w4.cell? ⟨w.heap.size + 1, 2, none⟩ = some (.int .u8 x2) := cell_of_heap HG4.out.out rfl
 have g3 : w4.cell? ⟨w.heap.size + 1, 3, none⟩ = some (.int .u8 x3) := cell_of_heap HG4.out.out rfl
 have g4 : w4.cell? ⟨w.heap.size + 1, 4, none⟩ = some (.int .u8 x4) := cell_of_heap HG4.out.out rfl
 have g5 : w4.cell? ⟨w.heap.size + 1, 5, none⟩ = some (.int .u8 x5) := cell_of_heap HG4.out.out rfl
 have g6 : w4.cell? ⟨w.heap.size + 1, 6, none⟩ = some (.int .u8 x6) := cell_of_heap HG4.out.out rfl
 have g7 : w4.cell? ⟨w.heap.size + 1, 7, none⟩ = some (.int .u8 x7) := cell_of_heap HG4.out.out rfl
 have g8 : w4.cell? ⟨w.heap.size + 1, 8, none⟩ = some (.int .u8 x8) := cell_of_heap HG4.out.out rfl
 have g9 : w4.cell? ⟨w.heap.size + 1, 9, none⟩ = some (.int .u8 x9) := cell_of_heap HG4.out.out rfl
 have g10 : w4.cell? ⟨w.heap.size + 1, 10, none⟩ = some (.int .u8 x10) := cell_of_heap HG4.out.out rfl
 have g11 : w4.cell? ⟨w.heap.size + 1, 11, none⟩ = some (.int .u8 x11) := cell_of_heap HG4.out.out rfl
 have hz4 : w.heap.size < w4.heap.size := World.block_lt_of_cell? w4 _ (HC4.out 0 (by omega)).1
 have c0 := (HC4.out 0 (by omega)).1
 have r0 := (HC4.out 0 (by omega)).2
 have c1 := (HC4.out 1 (by omega)).1
 have r1 := (HC4.out 1 (by omega)).2
 have c2 := (HC4.out 2 (by omega)).1
 have r2 := (HC4.out 2 (by omega)).2
 have c3 := (HC4.out 3 (by omega)).1
 have r3 := (HC4.out 3 (by omega)).2
 have c4 := (HC4.out 4 (by omega)).1
 have r4 := (HC4.out 4 (by omega)).2
 have c5 := (HC4.out 5 (by omega)).1
 have r5 := (HC4.out 5 (by omega)).2
 have c6 := (HC4.out 6 (by omega)).1
 have r6 := (HC4.out 6 (by omega)).2
 have c7 := (HC4.out 7 (by omega)).1
 have r7 := (HC4.out 7 (by omega)).2
 have c8 := (HC4.out 8 (by omega)).1
 have r8 := (HC4.out 8 (by omega)).2
 have c9 := (HC4.out 9 (by omega)).1
 have r9 := (HC4.out 9 (by omega)).2
 have c10 := (HC4.out 10 (by omega)).1
 have r10 := (HC4.out 10 (by omega)).2
 have c11 := (HC4.out 11 (by omega)).1
 have r11 := (HC4.out 11 (by omega)).2
 go_wp2_with fail
 by_cases hz : c = 12
 ·obtain rfl : m = 12 := by omega
  subst hz
  go_region
  all_goals go_wp2_with fail
  exact bodyPost_ret (v := .tuple #[.agg #[.int .u8 x0, .int .u8 x1, .int .u8 x2, .int .u8 x3, .int .u8 x4, .int .u8 x5, .int .u8 x6, .int .u8 x7, .int .u8 x8, .int .u8 x9, .int .u8 x10, .int .u8 x11], .slice (some ⟨b, o, none⟩) 0 0, .bool true]) (by simp [results, Tryz.results120, go_sem, c0, c1, c2, c3, c4, c5, c6, c7, c8, c9, c10, c11, r0, r1, r2, r3, r4, r5, r6, r7, r8, r9, r10, r11, hz4]) rfl ⟨some ⟨b, o, none⟩, rfl, ⟨_, rfl, .inr (by omega)⟩, ((((((((((((HB5.out.setCell (p := ⟨w.heap.size, 0, none⟩) (Nat.le_refl _) _).setCell (p := ⟨w.heap.size, 1, none⟩) (Nat.le_refl _) _).setCell (p := ⟨w.heap.size, 2, none⟩) (Nat.le_refl _) _).setCell (p := ⟨w.heap.size, 3, none⟩) (Nat.le_refl _) _).setCell (p := ⟨w.heap.size, 4, none⟩) (Nat.le_refl _) _).setCell (p := ⟨w.heap.size, 5, none⟩) (Nat.le_refl _) _).setCell (p := ⟨w.heap.size, 6, none⟩) (Nat.le_refl _) _).setCell (p := ⟨w.heap.size, 7, none⟩) (Nat.le_refl _) _).setCell (p := ⟨w.heap.size, 8, none⟩) (Nat.le_refl _) _).setCell (p := ⟨w.heap.size, 9, none⟩) (Nat.le_refl _) _).setCell (p := ⟨w.heap.size, 10, none⟩) (Nat.le_refl _) _).setCell (p := ⟨w.heap.size, 11, none⟩) (Nat.le_refl _) _).drew⟩
 ·go_region
  all_goals go_wp2_with fail
  exact bodyPost_ret (v := .tuple #[.agg #[.int .u8 x0, .int .u8 x1, .int .u8 x2, .int .u8 x3, .int .u8 x4, .int .u8 x5, .int .u8 x6, .int .u8 x7, .int .u8 x8, .int .u8 x9, .int .u8 x10, .int .u8 x11], .slice (some ⟨b, o + 12, none⟩) (m - 12) (c - 12), .bool true]) (by simp [results, Tryz.results120, go_sem, c0, c1, c2, c3, c4, c5, c6, c7, c8, c9, c10, c11, r0, r1, r2, r3, r4, r5, r6, r7, r8, r9, r10, r11, hz4]) rfl ⟨some ⟨b, o + 12, none⟩, rfl, ⟨_, rfl, .inl rfl⟩, ((((((((((((HB5.out.setCell (p := ⟨w.heap.size, 0, none⟩) (Nat.le_refl _) _).setCell (p := ⟨w.heap.size, 1, none⟩) (Nat.le_refl _) _).setCell (p := ⟨w.heap.size, 2, none⟩) (Nat.le_refl _) _).setCell (p := ⟨w.heap.size, 3, none⟩) (Nat.le_refl _) _).setCell (p := ⟨w.heap.size, 4, none⟩) (Nat.le_refl _) _).setCell (p := ⟨w.heap.size, 5, none⟩) (Nat.le_refl _) _).setCell (p := ⟨w.heap.size, 6, none⟩) (Nat.le_refl _) _).setCell (p := ⟨w.heap.size, 7, none⟩) (Nat.le_refl _) _).setCell (p := ⟨w.heap.size, 8, none⟩) (Nat.le_refl _) _).setCell (p := ⟨w.heap.size, 9, none⟩) (Nat.le_refl _) _).setCell (p := ⟨w.heap.size, 10, none⟩) (Nat.le_refl _) _).setCell (p := ⟨w.heap.size, 11, none⟩) (Nat.le_refl _) _).drew⟩
theorem ObjectIDOK_ok {l : List Int} {v : Value} {b o m c : Nat} {w : World} (hl : l.length = 12) (h : ∀ W, Below w.heap.size w W → Calls Tryz.prog 120 #[v] W (RdAns (idV l) b o m c W)) : Calls Tryz.prog 73 #[.agg #[.int .u8 7, v]] w (OkAns (idV l) w) := by
 obtain ⟨x0, x1, x2, x3, x4, x5, x6, x7, x8, x9, x10, x11, rfl⟩ := twelve hl
 have HB : Hid (Below w.heap.size w ((w.alloc (.cells #[.int .u8 7, v] 67)).alloc (.cells #[.int .u8 0, .int .u8 0, .int .u8 0, .int .u8 0, .int .u8 0, .int .u8 0, .int .u8 0, .int .u8 0, .int .u8 0, .int .u8 0, .int .u8 0, .int .u8 0] 107))) := ((Below.refl _ _).alloc (Nat.le_refl _) _).alloc (by simp) _
 have HC : Hid (Calls Tryz.prog 120 #[v] _ (RdAns (.agg #[.int .u8 x0, .int .u8 x1, .int .u8 x2, .int .u8 x3, .int .u8 x4, .int .u8 x5, .int .u8 x6, .int .u8 x7, .int .u8 x8, .int .u8 x9, .int .u8 x10, .int .u8 x11]) b o m c _)) := h _ HB.out
 clear h hl
 go_enter Tryz.func73, Tryz.ntmps73
 go_wp2_with fail
 refine HC.out.mono ?_
 rintro e w1 ⟨A, rfl, hA, hw⟩
 have hz1 : w.heap.size + 1 < w1.heap.size := by have := hw.size; simp at this; omega
 have c0 := (hw.cell (p := ⟨w.heap.size + 1, 0, none⟩) (by simp)).trans (show _ = some (Value.int .u8 0) by simp [go_sem])
 have r0 := (hw.frozen (p := ⟨w.heap.size + 1, 0, none⟩) (by simp)).trans (show _ = false by simp [go_sem])
 have c1 := (hw.cell (p := ⟨w.heap.size + 1, 1, none⟩) (by simp)).trans (show _ = some (Value.int .u8 0) by simp [go_sem])
 have r1 := (hw.frozen (p := ⟨w.heap.size + 1, 1, none⟩) (by simp)).trans (show _ = false by simp [go_sem])
 have c2 := (hw.cell (p := ⟨w.heap.size + 1, 2, none⟩) (by simp)).trans (show _ = some (Value.int .u8 0) by simp [go_sem])
 have r2 := (hw.frozen (p := ⟨w.heap.size + 1, 2, none⟩) (by simp)).trans (show _ = false by simp [go_sem])
 have c3 := (hw.cell (p := ⟨w.heap.size + 1, 3, none⟩) (by simp)).trans (show _ = some (Value.int .u8 0) by simp [go_sem])
 have r3 := (hw.frozen (p := ⟨w.heap.size + 1, 3, none⟩) (by simp)).trans (show _ = false by simp [go_sem])
 have c4 := (hw.cell (p := ⟨w.heap.size + 1, 4, none⟩) (by simp)).trans (show _ = some (Value.int .u8 0) by simp [go_sem])
 have r4 := (hw.frozen (p := ⟨w.heap.size + 1, 4, none⟩) (by simp)).trans (show _ = false by simp [go_sem])
 have c5 := (hw.cell (p := ⟨w.heap.size + 1, 5, none⟩) (by simp)).trans (show _ = some (Value.int .u8 0) by simp [go_sem])
 have r5 := (hw.frozen (p := ⟨w.heap.size + 1, 5, none⟩) (by simp)).trans (show _ = false by simp [go_sem])
 have c6 := (hw.cell (p := ⟨w.heap.size + 1, 6, none⟩) (by simp)).trans (show _ = some (Value.int .u8 0) by simp [go_sem])
 have r6 := (hw.frozen (p := ⟨w.heap.size + 1, 6, none⟩) (by simp)).trans (show _ = false by simp [go_sem])
 have c7 := (hw.cell (p := ⟨w.heap.size + 1, 7, none⟩) (by simp)).trans (show _ = some (Value.int .u8 0) by simp [go_sem])
 have r7 := (hw.frozen (p := ⟨w.heap.size + 1, 7, none⟩) (by simp)).trans (show _ = false by simp [go_sem])
 have c8 := (hw.cell (p := ⟨w.heap.size + 1, 8, none⟩) (by simp)).trans (show _ = some (Value.int .u8 0) by simp [go_sem])
 have r8 := (hw.frozen (p := ⟨w.heap.size + 1, 8, none⟩) (by simp)).trans (show _ = false by simp [go_sem])
 have c9 := (hw.cell (p := ⟨w.heap.size + 1, 9, none⟩) (by simp)).trans (show _ = some (Value.int .u8 0) by simp [go_sem])
 have r9 := (hw.frozen (p := ⟨w.heap.size + 1, 9, none⟩) (by simp)).trans (show _ = false by simp [go_sem])
 have c10 := (hw.cell (p := ⟨w.heap.size + 1, 10, none⟩) (by simp)).trans (show _ = some (Value.int .u8 0) by simp [go_sem])
 have r10 := (hw.frozen (p := ⟨w.heap.size + 1, 10, none⟩) (by simp)).trans (show _ = false by simp [go_sem])
 have c11 := (hw.cell (p := ⟨w.heap.size + 1, 11, none⟩) (by simp)).trans (show _ = some (Value.int .u8 0) by simp [go_sem])
 have r11 := (hw.frozen (p := ⟨w.heap.size + 1, 11, none⟩) (by simp)).trans (show _ = false by simp [go_sem])
 have HW := Lib.hid (HB.out.trans (hw.mono HB.out.size))
 clear hA hw
 go_wp2_with fail
 exact bodyPost_ret (v := .tuple #[.agg #[.int .u8 x0, .int .u8 x1, .int .u8 x2, .int .u8 x3, .int .u8 x4, .int .u8 x5, .int .u8 x6, .int .u8 x7, .int .u8 x8, .int .u8 x9, .int .u8 x10, .int .u8 x11], .bool true]) (by simp [results, Tryz.results73, go_sem, c0, c1, c2, c3, c4, c5, c6, c7, c8, c9, c10, c11, r0, r1, r2, r3, r4, r5, r6, r7, r8, r9, r10, r11, hz1]) rfl ⟨rfl, ((((((((((((HW.out.setCell (p := ⟨(w.heap.size + 1), 0, none⟩) (show w.heap.size ≤ (w.heap.size + 1) by omega) _).setCell (p := ⟨(w.heap.size + 1), 1, none⟩) (show w.heap.size ≤ (w.heap.size + 1) by omega) _).setCell (p := ⟨(w.heap.size + 1), 2, none⟩) (show w.heap.size ≤ (w.heap.size + 1) by omega) _).setCell (p := ⟨(w.heap.size + 1), 3, none⟩) (show w.heap.size ≤ (w.heap.size + 1) by omega) _).setCell (p := ⟨(w.heap.size + 1), 4, none⟩) (show w.heap.size ≤ (w.heap.size + 1) by omega) _).setCell (p := ⟨(w.heap.size + 1), 5, none⟩) (show w.heap.size ≤ (w.heap.size + 1) by omega) _).setCell (p := ⟨(w.heap.size + 1), 6, none⟩) (show w.heap.size ≤ (w.heap.size + 1) by omega) _).setCell (p := ⟨(w.heap.size + 1), 7, none⟩) (show w.heap.size ≤ (w.heap.size + 1) by omega) _).setCell (p := ⟨(w.heap.size + 1), 8, none⟩) (show w.heap.size ≤ (w.heap.size + 1) by omega) _).setCell (p := ⟨(w.heap.size + 1), 9, none⟩) (show w.heap.size ≤ (w.heap.size + 1) by omega) _).setCell (p := ⟨(w.heap.size + 1), 10, none⟩) (show w.heap.size ≤ (w.heap.size + 1) by omega) _).setCell (p := ⟨(w.heap.size + 1), 11, none⟩) (show w.heap.size ≤ (w.heap.size + 1) by omega) _).alloc (by simp [World.setCell]; omega) _⟩
theorem ReadDBPointer_calls (b o m c : Nat) (s : ByteArray) (l rest : List Int) (w : World) (hl : l.length = 12) (hB : Byt w b o (txtB s ++ (l ++ rest))) (hs : s.size ≤ 300) (hm : m = s.size + 5 + (12 + rest.length)) (hc : m ≤ c) (hmx : c ≤ maxLen) (hml : m ≤ 1000000000) :
  Calls Tryz.prog 127 #[.slice (some ⟨b, o, none⟩) m c] w (RdAns2 (.string s) (idV l) w) := by
 obtain ⟨x0, x1, x2, x3, x4, x5, x6, x7, x8, x9, x10, x11, rfl⟩ := twelve hl
 have hbw : b < w.heap.size := World.block_lt_of_cell? w _ (hB 0 (by simp; omega))
 have HB : Hid (Below w.heap.size w (w.alloc (.cells #[.int .u8 0, .int .u8 0, .int .u8 0, .int .u8 0, .int .u8 0, .int .u8 0, .int .u8 0, .int .u8 0, .int .u8 0, .int .u8 0, .int .u8 0, .int .u8 0] 107))) := (Below.refl _ _).alloc (Nat.le_refl _) _
 have HC := Lib.hid (readstring_calls b o m c s ([x0, x1, x2, x3, x4, x5, x6, x7, x8, x9, x10, x11] ++ rest) _ (hB.below HB.out hbw) hs (by simp; omega) hc hmx hml)
 have hr := hB.right
 rw [show (txtB s).length = s.size + 5 by unfold txtB; rw [List.length_append, List.length_append, leI_length, bytesOf_length]; simp; omega] at hr
 have HD : Hid (∀ W, Below w.heap.size w W → Calls Tryz.prog 120 #[.slice (some ⟨b, o + 5 + s.size, none⟩) ([x0, x1, x2, x3, x4, x5, x6, x7, x8, x9, x10, x11] ++ rest).length (c - 5 - s.size)] W (RdAns (.agg #[.int .u8 x0, .int .u8 x1, .int .u8 x2, .int .u8 x3, .int .u8 x4, .int .u8 x5, .int .u8 x6, .int .u8 x7, .int .u8 x8, .int .u8 x9, .int .u8 x10, .int .u8 x11]) b (o + 5 + s.size + 12) (([x0, x1, x2, x3, x4, x5, x6, x7, x8, x9, x10, x11] ++ rest).length - 12) (c - 5 - s.size - 12) W)) := fun W hW => ReadObjectID_calls b (o + 5 + s.size) _ (c - 5 - s.size) [x0, x1, x2, x3, x4, x5, x6, x7, x8, x9, x10, x11] rest W rfl (by have := hr.below hW hbw; rwa [show o + (s.size + 5) = o + 5 + s.size by omega] at this) (by simp; omega) (by simp; omega) (by unfold maxLen at *; omega) (by simp; omega)
 have hm1 : s.size + 17 ≤ m := by omega
 obtain ⟨q, hq⟩ : ∃ q, ([x0, x1, x2, x3, x4, x5, x6, x7, x8, x9, x10, x11] ++ rest).length = q := ⟨_, rfl⟩
 rw [hq] at HC HD
 clear hq
 clear hB hm hr hl
 go_enter Tryz.func127, Tryz.ntmps127
 go_wp2_with fail
 refine HC.out.mono ?_
 rintro e w1 ⟨A, rfl, ⟨o', rfl, ho⟩, hw⟩
 obtain rfl : o' = o + 5 + s.size := by omega
 have hz1 : w.heap.size < w1.heap.size := by have := hw.size; simp at this; omega
 have p0 := (hw.cell (p := ⟨w.heap.size, 0, none⟩) (by simp)).trans (show _ = some (Value.int .u8 0) by simp [go_sem])
 have t0 := (hw.frozen (p := ⟨w.heap.size, 0, none⟩) (by simp)).trans (show _ = false by simp [go_sem])
 have p1 := (hw.cell (p := ⟨w.heap.size, 1, none⟩) (by simp)).trans (show _ = some (Value.int .u8 0) by simp [go_sem])
 have t1 := (hw.frozen (p := ⟨w.heap.size, 1, none⟩) (by simp)).trans (show _ = false by simp [go_sem])
 have p2 := (hw.cell (p := ⟨w.heap.size, 2, none⟩) (by simp)).trans (show _ = some (Value.int .u8 0) by simp [go_sem])
 have t2 := (hw.frozen (p := ⟨w.heap.size, 2, none⟩) (by simp)).trans (show _ = false by simp [go_sem])
 have p3 := (hw.cell (p := ⟨w.heap.size, 3, none⟩) (by simp)).trans (show _ = some (Value.int .u8 0) by simp [go_sem])
 have t3 := (hw.frozen (p := ⟨w.heap.size, 3, none⟩) (by simp)).trans (show _ = false by simp [go_sem])
 have p4 := (hw.cell (p := ⟨w.heap.size, 4, none⟩) (by simp)).trans (show _ = some (Value.int .u8 0) by simp [go_sem])
 have t4 := (hw.frozen (p := ⟨w.heap.size, 4, none⟩) (by simp)).trans (show _ = false by simp [go_sem])
 have p5 := (hw.cell (p := ⟨w.heap.size, 5, none⟩) (by simp)).trans (show _ = some (Value.int .u8 0) by simp [go_sem])
 have t5 := (hw.frozen (p := ⟨w.heap.size, 5, none⟩) (by simp)).trans (show _ = false by simp [go_sem])
 have p6 := (hw.cell (p := ⟨w.heap.size, 6, none⟩) (by simp)).trans (show _ = some (Value.int .u8 0) by simp [go_sem])
 have t6 := (hw.frozen (p := ⟨w.heap.size, 6, none⟩) (by simp)).trans (show _ = false by simp [go_sem])
 have p7 := (hw.cell (p := ⟨w.heap.size, 7, none⟩) (by simp)).trans (show _ = some (Value.int .u8 0) by simp [go_sem])
 have t7 := (hw.frozen (p := ⟨w.heap.size, 7, none⟩) (by simp)).trans (show _ = false by simp [go_sem])
 have p8 := (hw.cell (p := ⟨w.heap.size, 8, none⟩) (by simp)).trans (show _ = some (Value.int .u8 0) by simp [go_sem])
 have t8 := (hw.frozen (p := ⟨w.heap.size, 8, none⟩) (by simp)).trans (show _ = false by simp [go_sem])
 have p9 := (hw.cell (p := ⟨w.heap.size, 9, none⟩) (by simp)).trans (show _ = some (Value.int .u8 0) by simp [go_sem])
 have t9 := (hw.frozen (p := ⟨w.heap.size, 9, none⟩) (by simp)).trans (show _ = false by simp [go_sem])
 have p10 := (hw.cell (p := ⟨w.heap.size, 10, none⟩) (by simp)).trans (show _ = some (Value.int .u8 0) by simp [go_sem])
 have t10 := (hw.frozen (p := ⟨w.heap.size, 10, none⟩) (by simp)).trans (show _ = false by simp [go_sem])
 have p11 := (hw.cell (p := ⟨w.heap.size, 11, none⟩) (by simp)).trans (show _ = some (Value.int .u8 0) by simp [go_sem])
 have t11 := (hw.frozen (p := ⟨w.heap.size, 11, none⟩) (by simp)).trans (show _ = false by simp [go_sem])
 have HW := Lib.hid (HB.out.trans (hw.mono HB.out.size))
 clear ho hw
 go_wp2_with fail
 refine (HD.out w1 HW.out).mono ?_
 rintro e w2 ⟨A, rfl, hA, hw⟩
 have c0 := (hw.cell (p := ⟨w.heap.size, 0, none⟩) hz1).trans p0
 have r0 := (hw.frozen (p := ⟨w.heap.size, 0, none⟩) hz1).trans t0
 have c1 := (hw.cell (p := ⟨w.heap.size, 1, none⟩) hz1).trans p1
 have r1 := (hw.frozen (p := ⟨w.heap.size, 1, none⟩) hz1).trans t1
 have c2 := (hw.cell (p := ⟨w.heap.size, 2, none⟩) hz1).trans p2
 have r2 := (hw.frozen (p := ⟨w.heap.size, 2, none⟩) hz1).trans t2
 have c3 := (hw.cell (p := ⟨w.heap.size, 3, none⟩) hz1).trans p3
 have r3 := (hw.frozen (p := ⟨w.heap.size, 3, none⟩) hz1).trans t3
 have c4 := (hw.cell (p := ⟨w.heap.size, 4, none⟩) hz1).trans p4
 have r4 := (hw.frozen (p := ⟨w.heap.size, 4, none⟩) hz1).trans t4
 have c5 := (hw.cell (p := ⟨w.heap.size, 5, none⟩) hz1).trans p5
 have r5 := (hw.frozen (p := ⟨w.heap.size, 5, none⟩) hz1).trans t5
 have c6 := (hw.cell (p := ⟨w.heap.size, 6, none⟩) hz1).trans p6
 have r6 := (hw.frozen (p := ⟨w.heap.size, 6, none⟩) hz1).trans t6
 have c7 := (hw.cell (p := ⟨w.heap.size, 7, none⟩) hz1).trans p7
 have r7 := (hw.frozen (p := ⟨w.heap.size, 7, none⟩) hz1).trans t7
 have c8 := (hw.cell (p := ⟨w.heap.size, 8, none⟩) hz1).trans p8
 have r8 := (hw.frozen (p := ⟨w.heap.size, 8, none⟩) hz1).trans t8
 have c9 := (hw.cell (p := ⟨w.heap.size, 9, none⟩) hz1).trans p9
 have r9 := (hw.frozen (p := ⟨w.heap.size, 9, none⟩) hz1).trans t9
 have c10 := (hw.cell (p := ⟨w.heap.size, 10, none⟩) hz1).trans p10
 have r10 := (hw.frozen (p := ⟨w.heap.size, 10, none⟩) hz1).trans t10
 have c11 := (hw.cell (p := ⟨w.heap.size, 11, none⟩) hz1).trans p11
 have r11 := (hw.frozen (p := ⟨w.heap.size, 11, none⟩) hz1).trans t11
 clear p0 t0 p1 t1 p2 t2 p3 t3 p4 t4 p5 t5 p6 t6 p7 t7 p8 t8 p9 t9 p10 t10 p11 t11
 have hz2 : w.heap.size < w2.heap.size := Nat.lt_of_lt_of_le hz1 hw.size
 have HW2 := Lib.hid (HW.out.trans (hw.mono HW.out.size))
 clear hA hw
 go_wp2_with fail
 obtain ⟨W3, hW3⟩ : ∃ W, ((((((((((((w2.setCell ⟨w.heap.size, 0, none⟩ (.int .u8 x0)).setCell ⟨w.heap.size, 1, none⟩ (.int .u8 x1)).setCell ⟨w.heap.size, 2, none⟩ (.int .u8 x2)).setCell ⟨w.heap.size, 3, none⟩ (.int .u8 x3)).setCell ⟨w.heap.size, 4, none⟩ (.int .u8 x4)).setCell ⟨w.heap.size, 5, none⟩ (.int .u8 x5)).setCell ⟨w.heap.size, 6, none⟩ (.int .u8 x6)).setCell ⟨w.heap.size, 7, none⟩ (.int .u8 x7)).setCell ⟨w.heap.size, 8, none⟩ (.int .u8 x8)).setCell ⟨w.heap.size, 9, none⟩ (.int .u8 x9)).setCell ⟨w.heap.size, 10, none⟩ (.int .u8 x10)).setCell ⟨w.heap.size, 11, none⟩ (.int .u8 x11)) = W := ⟨_, rfl⟩
 rw [hW3]
 have d0 : W3.cell? ⟨w.heap.size, 0, none⟩ = some (.int .u8 x0) := by rw [← hW3]; simp [go_sem, c0, c1, c2, c3, c4, c5, c6, c7, c8, c9, c10, c11, r0, r1, r2, r3, r4, r5, r6, r7, r8, r9, r10, r11, hz2]
 have e0 : W3.frozen? ⟨w.heap.size, 0, none⟩ = false := by rw [← hW3]; simp [go_sem, c0, c1, c2, c3, c4, c5, c6, c7, c8, c9, c10, c11, r0, r1, r2, r3, r4, r5, r6, r7, r8, r9, r10, r11, hz2]
 have d1 : W3.cell? ⟨w.heap.size, 1, none⟩ = some (.int .u8 x1) := by rw [← hW3]; simp [go_sem, c0, c1, c2, c3, c4, c5, c6, c7, c8, c9, c10, c11, r0, r1, r2, r3, r4, r5, r6, r7, r8, r9, r10, r11, hz2]
 have e1 : W3.frozen? ⟨w.heap.size, 1, none⟩ = false := by rw [← hW3]; simp [go_sem, c0, c1, c2, c3, c4, c5, c6, c7, c8, c9, c10, c11, r0, r1, r2, r3, r4, r5, r6, r7, r8, r9, r10, r11, hz2]
 have d2 : W3.cell? ⟨w.heap.size, 2, none⟩ = some (.int .u8 x2) := by rw [← hW3]; simp [go_sem, c0, c1, c2, c3, c4, c5, c6, c7, c8, c9, c10, c11, r0, r1, r2, r3, r4, r5, r6, r7, r8, r9, r10, r11, hz2]
 have e2 : W3.frozen? ⟨w.heap.size, 2, none⟩ = false := by rw [← hW3]; simp [go_sem, c0, c1, c2, c3, c4, c5, c6, c7, c8, c9, c10, c11, r0, r1, r2, r3, r4, r5, r6, r7, r8, r9, r10, r11, hz2]
 have d3 : W3.cell? ⟨w.heap.size, 3, none⟩ = some (.int .u8 x3) := by rw [← hW3]; simp [go_sem, c0, c1, c2, c3, c4, c5, c6, c7, c8, c9, c10, c11, r0, r1, r2, r3, r4, r5, r6, r7, r8, r9, r10, r11, hz2]
 have e3 : W3.frozen? ⟨w.heap.size, 3, none⟩ = false := by rw [← hW3]; simp [go_sem, c0, c1, c2, c3, c4, c5, c6, c7, c8, c9, c10, c11, r0, r1, r2, r3, r4, r5, r6, r7, r8, r9, r10, r11, hz2]
 have d4 : W3.cell? ⟨w.heap.size, 4, none⟩ = some (.int .u8 x4) := by rw [← hW3]; simp [go_sem, c0, c1, c2, c3, c4, c5, c6, c7, c8, c9, c10, c11, r0, r1, r2, r3, r4, r5, r6, r7, r8, r9, r10, r11, hz2]
 have e4 : W3.frozen? ⟨w.heap.size, 4, none⟩ = false := by rw [← hW3]; simp [go_sem, c0, c1, c2, c3, c4, c5, c6, c7, c8, c9, c10, c11, r0, r1, r2, r3, r4, r5, r6, r7, r8, r9, r10, r11, hz2]
 have d5 : W3.cell? ⟨w.heap.size, 5, none⟩ = some (.int .u8 x5) := by rw [← hW3]; simp [go_sem, c0, c1, c2, c3, c4, c5, c6, c7, c8, c9, c10, c11, r0, r1, r2, r3, r4, r5, r6, r7, r8, r9, r10, r11, hz2]
 have e5 : W3.frozen? ⟨w.heap.size, 5, none⟩ = false := by rw [← hW3]; simp [go_sem, c0, c1, c2, c3, c4, c5, c6, c7, c8, c9, c10, c11, r0, r1, r2, r3, r4, r5, r6, r7, r8, r9, r10, r11, hz2]
 have d6 : W3.cell? ⟨w.heap.size, 6, none⟩ = some (.int .u8 x6) := by rw [← hW3]; simp [go_sem, c0, c1, c2, c3, c4, c5, c6, c7, c8, c9, c10, c11, r0, r1, r2, r3, r4, r5, r6, r7, r8, r9, r10, r11, hz2]
 have e6 : W3.frozen? ⟨w.heap.size, 6, none⟩ = false := by rw [← hW3]; simp [go_sem, c0, c1, c2, c3, c4, c5, c6, c7, c8, c9, c10, c11, r0, r1, r2, r3, r4, r5, r6, r7, r8, r9, r10, r11, hz2]
 have d7 : W3.cell? ⟨w.heap.size, 7, none⟩ = some (.int .u8 x7) := by rw [← hW3]; simp [go_sem, c0, c1, c2, c3, c4, c5, c6, c7, c8, c9, c10, c11, r0, r1, r2, r3, r4, r5, r6, r7, r8, r9, r10, r11, hz2]
 have e7 : W3.frozen? ⟨w.heap.size, 7, none⟩ = false := by rw [← hW3]; simp [go_sem, c0, c1, c2, c3, c4, c5, c6, c7, c8, c9, c10, c11, r0, r1, r2, r3, r4, r5, r6, r7, r8, r9, r10, r11, hz2]
 have d8 : W3.cell? ⟨w.heap.size, 8, none⟩ = some (.int .u8 x8) := by rw [← hW3]; simp [go_sem, c0, c1, c2, c3, c4, c5, c6, c7, c8, c9, c10, c11, r0, r1, r2, r3, r4, r5, r6, r7, r8, r9, r10, r11, hz2]
 have e8 : W3.frozen? ⟨w.heap.size, 8, none⟩ = false := by rw [← hW3]; simp [go_sem, c0, c1, c2, c3, c4, c5, c6, c7, c8, c9, c10, c11, r0, r1, r2, r3, r4, r5, r6, r7, r8, r9, r10, r11, hz2]
 have d9 : W3.cell? ⟨w.heap.size, 9, none⟩ = some (.int .u8 x9) := by rw [← hW3]; simp [go_sem, c0, c1, c2, c3, c4, c5, c6, c7, c8, c9, c10, c11, r0, r1, r2, r3, r4, r5, r6, r7, r8, r9, r10, r11, hz2]
 have e9 : W3.frozen? ⟨w.heap.size, 9, none⟩ = false := by rw [← hW3]; simp [go_sem, c0, c1, c2, c3, c4, c5, c6, c7, c8, c9, c10, c11, r0, r1, r2, r3, r4, r5, r6, r7, r8, r9, r10, r11, hz2]
 have d10 : W3.cell? ⟨w.heap.size, 10, none⟩ = some (.int .u8 x10) := by rw [← hW3]; simp [go_sem, c0, c1, c2, c3, c4, c5, c6, c7, c8, c9, c10, c11, r0, r1, r2, r3, r4, r5, r6, r7, r8, r9, r10, r11, hz2]
 have e10 : W3.frozen? ⟨w.heap.size, 10, none⟩ = false := by rw [← hW3]; simp [go_sem, c0, c1, c2, c3, c4, c5, c6, c7, c8, c9, c10, c11, r0, r1, r2, r3, r4, r5, r6, r7, r8, r9, r10, r11, hz2]
 have d11 : W3.cell? ⟨w.heap.size, 11, none⟩ = some (.int .u8 x11) := by rw [← hW3]; simp [go_sem, c0, c1, c2, c3, c4, c5, c6, c7, c8, c9, c10, c11, r0, r1, r2, r3, r4, r5, r6, r7, r8, r9, r10, r11, hz2]
 have e11 : W3.frozen? ⟨w.heap.size, 11, none⟩ = false := by rw [← hW3]; simp [go_sem, c0, c1, c2, c3, c4, c5, c6, c7, c8, c9, c10, c11, r0, r1, r2, r3, r4, r5, r6, r7, r8, r9, r10, r11, hz2]
 have hzW3 : w.heap.size < W3.heap.size := World.block_lt_of_cell? W3 _ d0
 have HFW3 : Hid (Below w.heap.size w W3) := by show Below _ _ _; rw [← hW3]; exact ((((((((((((HW2.out.setCell (p := ⟨w.heap.size, 0, none⟩) (show w.heap.size ≤ w.heap.size by omega) _).setCell (p := ⟨w.heap.size, 1, none⟩) (show w.heap.size ≤ w.heap.size by omega) _).setCell (p := ⟨w.heap.size, 2, none⟩) (show w.heap.size ≤ w.heap.size by omega) _).setCell (p := ⟨w.heap.size, 3, none⟩) (show w.heap.size ≤ w.heap.size by omega) _).setCell (p := ⟨w.heap.size, 4, none⟩) (show w.heap.size ≤ w.heap.size by omega) _).setCell (p := ⟨w.heap.size, 5, none⟩) (show w.heap.size ≤ w.heap.size by omega) _).setCell (p := ⟨w.heap.size, 6, none⟩) (show w.heap.size ≤ w.heap.size by omega) _).setCell (p := ⟨w.heap.size, 7, none⟩) (show w.heap.size ≤ w.heap.size by omega) _).setCell (p := ⟨w.heap.size, 8, none⟩) (show w.heap.size ≤ w.heap.size by omega) _).setCell (p := ⟨w.heap.size, 9, none⟩) (show w.heap.size ≤ w.heap.size by omega) _).setCell (p := ⟨w.heap.size, 10, none⟩) (show w.heap.size ≤ w.heap.size by omega) _).setCell (p := ⟨w.heap.size, 11, none⟩) (show w.heap.size ≤ w.heap.size by omega) _)
 clear hW3 c0 c1 c2 c3 c4 c5 c6 c7 c8 c9 c10 c11 r0 r1 r2 r3 r4 r5 r6 r7 r8 r9 r10 r11
 go_region
 all_goals go_wp2_with fail
 exact bodyPost_ret (v := .tuple #[.string s, .agg #[.int .u8 x0, .int .u8 x1, .int .u8 x2, .int .u8 x3, .int .u8 x4, .int .u8 x5, .int .u8 x6, .int .u8 x7, .int .u8 x8, .int .u8 x9, .int .u8 x10, .int .u8 x11], .slice A (q - 12) (c - 5 - s.size - 12), .bool true]) (by simp [results, Tryz.results127, go_sem, d0, d1, d2, d3, d4, d5, d6, d7, d8, d9, d10, d11, e0, e1, e2, e3, e4, e5, e6, e7, e8, e9, e10, e11, hzW3]) rfl ⟨_, rfl, ((((((((((((HFW3.out.setCell (p := ⟨w.heap.size, 0, none⟩) (show w.heap.size ≤ w.heap.size by omega) _).setCell (p := ⟨w.heap.size, 1, none⟩) (show w.heap.size ≤ w.heap.size by omega) _).setCell (p := ⟨w.heap.size, 2, none⟩) (show w.heap.size ≤ w.heap.size by omega) _).setCell (p := ⟨w.heap.size, 3, none⟩) (show w.heap.size ≤ w.heap.size by omega) _).setCell (p := ⟨w.heap.size, 4, none⟩) (show w.heap.size ≤ w.heap.size by omega) _).setCell (p := ⟨w.heap.size, 5, none⟩) (show w.heap.size ≤ w.heap.size by omega) _).setCell (p := ⟨w.heap.size, 6, none⟩) (show w.heap.size ≤ w.heap.size by omega) _).setCell (p := ⟨w.heap.size, 7, none⟩) (show w.heap.size ≤ w.heap.size by omega) _).setCell (p := ⟨w.heap.size, 8, none⟩) (show w.heap.size ≤ w.heap.size by omega) _).setCell (p := ⟨w.heap.size, 9, none⟩) (show w.heap.size ≤ w.heap.size by omega) _).setCell (p := ⟨w.heap.size, 10, none⟩) (show w.heap.size ≤ w.heap.size by omega) _).setCell (p := ⟨w.heap.size, 11, none⟩) (show w.heap.size ≤ w.heap.size by omega) _).drew⟩
theorem DBPointerOK_ok {s : ByteArray} {l : List Int} {v : Value} {w : World} (hl : l.length = 12) (h : ∀ W, Below w.heap.size w W → Calls Tryz.prog 127 #[v] W (RdAns2 (.string s) (idV l) W)) : Calls Tryz.prog 80 #[.agg #[.int .u8 12, v]] w (OkAns2 (.string s) (idV l) w) := by
 obtain ⟨x0, x1, x2, x3, x4, x5, x6, x7, x8, x9, x10, x11, rfl⟩ := twelve hl
 have HB : Hid (Below w.heap.size w ((w.alloc (.cells #[.int .u8 12, v] 67)).alloc (.cells #[.int .u8 0, .int .u8 0, .int .u8 0, .int .u8 0, .int .u8 0, .int .u8 0, .int .u8 0, .int .u8 0, .int .u8 0, .int .u8 0, .int .u8 0, .int .u8 0] 107))) := ((Below.refl _ _).alloc (Nat.le_refl _) _).alloc (by simp) _
 have HC : Hid (Calls Tryz.prog 127 #[v] _ (RdAns2 (.string s) (.agg #[.int .u8 x0, .int .u8 x1, .int .u8 x2, .int .u8 x3, .int .u8 x4, .int .u8 x5, .int .u8 x6, .int .u8 x7, .int .u8 x8, .int .u8 x9, .int .u8 x10, .int .u8 x11]) _)) := h _ HB.out
 clear h hl
 go_enter Tryz.func80, Tryz.ntmps80
 go_wp2_with fail
 refine HC.out.mono ?_
 rintro e w1 ⟨R, rfl, hw⟩
 have hz1 : w.heap.size + 1 < w1.heap.size := by have := hw.size; simp at this; omega
 have c0 := (hw.cell (p := ⟨w.heap.size + 1, 0, none⟩) (by simp)).trans (show _ = some (Value.int .u8 0) by simp [go_sem])
 have r0 := (hw.frozen (p := ⟨w.heap.size + 1, 0, none⟩) (by simp)).trans (show _ = false by simp [go_sem])
 have c1 := (hw.cell (p := ⟨w.heap.size + 1, 1, none⟩) (by simp)).trans (show _ = some (Value.int .u8 0) by simp [go_sem])
 have r1 := (hw.frozen (p := ⟨w.heap.size + 1, 1, none⟩) (by simp)).trans (show _ = false by simp [go_sem])
 have c2 := (hw.cell (p := ⟨w.heap.size + 1, 2, none⟩) (by simp)).trans (show _ = some (Value.int .u8 0) by simp [go_sem])
 have r2 := (hw.frozen (p := ⟨w.heap.size + 1, 2, none⟩) (by simp)).trans (show _ = false by simp [go_sem])
 have c3 := (hw.cell (p := ⟨w.heap.size + 1, 3, none⟩) (by simp)).trans (show _ = some (Value.int .u8 0) by simp [go_sem])
 have r3 := (hw.frozen (p := ⟨w.heap.size + 1, 3, none⟩) (by simp)).trans (show _ = false by simp [go_sem])
 have c4 := (hw.cell (p := ⟨w.heap.size + 1, 4, none⟩) (by simp)).trans (show _ = some (Value.int .u8 0) by simp [go_sem])
 have r4 := (hw.frozen (p := ⟨w.heap.size + 1, 4, none⟩) (by simp)).trans (show _ = false by simp [go_sem])
 have c5 := (hw.cell (p := ⟨w.heap.size + 1, 5, none⟩) (by simp)).trans (show _ = some (Value.int .u8 0) by simp [go_sem])
 have r5 := (hw.frozen (p := ⟨w.heap.size + 1, 5, none⟩) (by simp)).trans (show _ = false by simp [go_sem])
 have c6 := (hw.cell (p := ⟨w.heap.size + 1, 6, none⟩) (by simp)).trans (show _ = some (Value.int .u8 0) by simp [go_sem])
 have r6 := (hw.frozen (p := ⟨w.heap.size + 1, 6, none⟩) (by simp)).trans (show _ = false by simp [go_sem])
 have c7 := (hw.cell (p := ⟨w.heap.size + 1, 7, none⟩) (by simp)).trans (show _ = some (Value.int .u8 0) by simp [go_sem])
 have r7 := (hw.frozen (p := ⟨w.heap.size + 1, 7, none⟩) (by simp)).trans (show _ = false by simp [go_sem])
 have c8 := (hw.cell (p := ⟨w.heap.size + 1, 8, none⟩) (by simp)).trans (show _ = some (Value.int .u8 0) by simp [go_sem])
 have r8 := (hw.frozen (p := ⟨w.heap.size + 1, 8, none⟩) (by simp)).trans (show _ = false by simp [go_sem])
 have c9 := (hw.cell (p := ⟨w.heap.size + 1, 9, none⟩) (by simp)).trans (show _ = some (Value.int .u8 0) by simp [go_sem])
 have r9 := (hw.frozen (p := ⟨w.heap.size + 1, 9, none⟩) (by simp)).trans (show _ = false by simp [go_sem])
 have c10 := (hw.cell (p := ⟨w.heap.size + 1, 10, none⟩) (by simp)).trans (show _ = some (Value.int .u8 0) by simp [go_sem])
 have r10 := (hw.frozen (p := ⟨w.heap.size + 1, 10, none⟩) (by simp)).trans (show _ = false by simp [go_sem])
 have c11 := (hw.cell (p := ⟨w.heap.size + 1, 11, none⟩) (by simp)).trans (show _ = some (Value.int .u8 0) by simp [go_sem])
 have r11 := (hw.frozen (p := ⟨w.heap.size + 1, 11, none⟩) (by simp)).trans (show _ = false by simp [go_sem])
 have HW := Lib.hid (HB.out.trans (hw.mono HB.out.size))
 clear hw
 go_wp2_with fail
 go_region
 all_goals go_wp2_with fail
 refine bodyPost_ret (v := .tuple #[.string s, .agg #[.int .u8 x0, .int .u8 x1, .int .u8 x2, .int .u8 x3, .int .u8 x4, .int .u8 x5, .int .u8 x6, .int .u8 x7, .int .u8 x8, .int .u8 x9, .int .u8 x10, .int .u8 x11], .bool true]) (by simp [results, Tryz.results80, go_sem, c0, c1, c2, c3, c4, c5, c6, c7, c8, c9, c10, c11, r0, r1, r2, r3, r4, r5, r6, r7, r8, r9, r10, r11, hz1]) rfl ⟨rfl, ?_⟩
 exact (((((((((((((HW.out.setCell (p := ⟨(w.heap.size + 1), 0, none⟩) (show w.heap.size ≤ (w.heap.size + 1) by omega) _).setCell (p := ⟨(w.heap.size + 1), 1, none⟩) (show w.heap.size ≤ (w.heap.size + 1) by omega) _).setCell (p := ⟨(w.heap.size + 1), 2, none⟩) (show w.heap.size ≤ (w.heap.size + 1) by omega) _).setCell (p := ⟨(w.heap.size + 1), 3, none⟩) (show w.heap.size ≤ (w.heap.size + 1) by omega) _).setCell (p := ⟨(w.heap.size + 1), 4, none⟩) (show w.heap.size ≤ (w.heap.size + 1) by omega) _).setCell (p := ⟨(w.heap.size + 1), 5, none⟩) (show w.heap.size ≤ (w.heap.size + 1) by omega) _).setCell (p := ⟨(w.heap.size + 1), 6, none⟩) (show w.heap.size ≤ (w.heap.size + 1) by omega) _).setCell (p := ⟨(w.heap.size + 1), 7, none⟩) (show w.heap.size ≤ (w.heap.size + 1) by omega) _).setCell (p := ⟨(w.heap.size + 1), 8, none⟩) (show w.heap.size ≤ (w.heap.size + 1) by omega) _).setCell (p := ⟨(w.heap.size + 1), 9, none⟩) (show w.heap.size ≤ (w.heap.size + 1) by omega) _).setCell (p := ⟨(w.heap.size + 1), 10, none⟩) (show w.heap.size ≤ (w.heap.size + 1) by omega) _).setCell (p := ⟨(w.heap.size + 1), 11, none⟩) (show w.heap.size ≤ (w.heap.size + 1) by omega) _).alloc (by simp [World.setCell]; omega) _).drew
def BinAns (n : Int) (L b o : Nat) (w : World) (e : Ending) (w' : World) : Prop := ∃ o' C R, e = .returned (.tuple #[.int .u8 n, .slice (some ⟨b, o', none⟩) L C, R, .bool true]) ∧ (L = 0 ∨ o' = o) ∧ L ≤ C ∧ C ≤ maxLen ∧ Below w.heap.size w w'
theorem ReadBinary_other (b o m c L : Nat) (n : Int) (l : List Int) (w : World) (hB : Byt w b o (leI 4 L ++ (n :: l))) (hn : n ≠ 2) (hL : L ≤ l.length) (hL3 : L ≤ 400) (hm : m = 5 + l.length) (hc : m ≤ c) (hmx : c ≤ maxLen) (hml : m ≤ 1000000000) :
  Calls Tryz.prog 117 #[.slice (some ⟨b, o, none⟩) m c] w (BinAns n L b (o + 5) w) := by
 have hbw : b < w.heap.size := World.block_lt_of_cell? w _ (hB 0 (by simp [leI_length]; omega))
 have HC := Lib.hid (ReadLength_calls b o m c L (n :: l) w hB (by omega) (by simp; omega) hc hmx)
 have hr := hB.right
 rw [leI_length] at hr
 have hq := hr 0 (by simp)
 simp only [rn, List.getD_cons_zero, Nat.add_zero] at hq
 have HQ : Hid (∀ W, Below w.heap.size w W → W.cell? ⟨b, o + 4, none⟩ = some (.int .u8 n)) := fun W hW => (hW.cell (p := ⟨b, o + 4, none⟩) hbw).trans hq
 have hml2 : (n :: l).length = m - 4 := by simp; omega
 rw [hml2] at HC
 have hLm : L + 5 ≤ m := by omega
 have e2 : (n == 2) = false := beq_eq_false_iff_ne.2 hn
 have d0 : decide (((m - 4 : Nat) : Int) < 1) = false := decide_eq_false (by omega)
 have d1 : decide (((m - 4 - 1 : Nat) : Int) < (L : Int)) = false := decide_eq_false (by omega)
 clear hB hr hq hml2 hL hm hn
 have hmx2 := hmx
 unfold maxLen at hmx
 go_enter Tryz.func117, Tryz.ntmps117
 go_wp2_with fail
 refine HC.out.mono ?_
 rintro e w1 ⟨o', rfl, ho, hw⟩
 obtain rfl : o' = o + 4 := by omega
 have q0 := HQ.out w1 hw
 have HW := Lib.hid hw
 clear ho hw
 go_wp2_with fail
 by_cases hz : c = 5
 ·obtain rfl : L = 0 := by omega
  obtain rfl : m = 5 := by omega
  subst hz
  go_quiet (fail)
  go_wp2_with fail
  go_quiet (fail)
  go_wp2_with fail
  exact bodyPost_ret (v := .tuple #[.int .u8 n, .slice (some ⟨b, o + 4, none⟩) 0 0, .slice (some ⟨b, o + 4, none⟩) 0 0, .bool true]) (by simp [results, Tryz.results117, go_sem]) rfl ⟨_, _, _, rfl, .inl rfl, Nat.le_refl _, by unfold maxLen; omega, pw_below_drewN (pw_below_drewN HW.out _) _⟩
 ·go_quiet (fail)
  go_wp2_with fail
  by_cases hz2 : c - 4 - 1 = L
  ·rw [hz2]
   go_quiet (fail)
   go_wp2_with fail
   exact bodyPost_ret (v := .tuple #[.int .u8 n, .slice (some ⟨b, o + 4 + 1, none⟩) L L, .slice (some ⟨b, o + 4 + 1, none⟩) (m - 4 - 1 - L) 0, .bool true]) (by simp [results, Tryz.results117, go_sem]) rfl ⟨_, _, _, rfl, .inr (by omega), Nat.le_refl _, by unfold maxLen; omega, pw_below_drewN (pw_below_drewN HW.out _) _⟩
  ·go_quiet (fail)
   go_wp2_with fail
   exact bodyPost_ret (v := .tuple #[.int .u8 n, .slice (some ⟨b, o + 4 + 1, none⟩) L (c - 4 - 1), .slice (some ⟨b, o + 4 + 1 + L, none⟩) (m - 4 - 1 - L) (c - 4 - 1 - L), .bool true]) (by simp [results, Tryz.results117, go_sem]) rfl ⟨_, _, _, rfl, .inr (by omega), by omega, by unfold maxLen; omega, pw_below_drewN (pw_below_drewN HW.out _) _⟩
theorem ReadBinary_two (b o m c L : Nat) (l : List Int) (w : World) (hB : Byt w b o (leI 4 (L + 4) ++ (2 :: (leI 4 L ++ l)))) (hL : L ≤ l.length) (hL3 : L ≤ 400) (hm : m = 9 + l.length) (hc : m ≤ c) (hmx : c ≤ maxLen) (hml : m ≤ 1000000000) :
  Calls Tryz.prog 117 #[.slice (some ⟨b, o, none⟩) m c] w (BinAns 2 L b (o + 9) w) := by
 have hbw : b < w.heap.size := World.block_lt_of_cell? w _ (hB 0 (by simp [leI_length]; omega))
 have HC := Lib.hid (ReadLength_calls b o m c (L + 4) (2 :: (leI 4 L ++ l)) w hB (by omega) (by simp [leI_length]; omega) hc hmx)
 have hr := hB.right
 rw [leI_length] at hr
 have hq := hr 0 (by simp)
 simp only [rn, List.getD_cons_zero, Nat.add_zero] at hq
 have HQ : Hid (∀ W, Below w.heap.size w W → W.cell? ⟨b, o + 4, none⟩ = some (.int .u8 2)) := fun W hW => (hW.cell (p := ⟨b, o + 4, none⟩) hbw).trans hq
 have hr2 : Byt w b (o + 4 + 1) (leI 4 L ++ l) := Byt.right (l := [2]) (m := leI 4 L ++ l) hr
 have hml2 : (2 :: (leI 4 L ++ l)).length = m - 4 := by simp [leI_length]; omega
 rw [hml2] at HC
 have HD : Hid (∀ W, Below w.heap.size w W → Calls Tryz.prog 91 #[.slice (some ⟨b, o + 4 + 1, none⟩) (m - 4 - 1) (c - 4 - 1)] W fun e w' => ∃ o', e = .returned (.tuple #[.int .i32 L, .slice (some ⟨b, o', none⟩) (m - 9) (c - 4 - 1 - 4), .bool true]) ∧ (o' = o + 4 + 1 + 4 ∨ c - 4 - 1 = 4) ∧ Below W.heap.size W w') := fun W hW => by
  have := ReadLength_calls b (o + 4 + 1) (m - 4 - 1) (c - 4 - 1) L l W (hr2.below hW hbw) (by omega) (by omega) (by omega) (by unfold maxLen at *; omega)
  rwa [show l.length = m - 9 by omega] at this
 have hLm : L + 9 ≤ m := by omega
 have d0 : decide (((m - 4 : Nat) : Int) < 1) = false := decide_eq_false (by omega)
 have d1 : decide (((m - 4 - 1 : Nat) : Int) < (L : Int) + 4) = false := decide_eq_false (by omega)
 have d2 : decide (((m - 9 : Nat) : Int) < (L : Int)) = false := decide_eq_false (by omega)
 clear hB hr hr2 hq hml2 hL hm
 have hmx2 := hmx
 unfold maxLen at hmx
 have hc5 : ¬ c = 5 := by omega
 go_enter Tryz.func117, Tryz.ntmps117
 go_wp2_with fail
 refine HC.out.mono ?_
 rintro e w1 ⟨o', rfl, ho, hw⟩
 obtain rfl : o' = o + 4 := by omega
 have q0 := HQ.out w1 hw
 have HW := Lib.hid hw
 clear ho hw
 go_wp2_with fail
 go_quiet (fail)
 have HW1 := Lib.hid (pw_below_drewN HW.out nq)
 go_wp2_with fail
 refine (HD.out _ HW1.out).mono ?_
 rintro e w2 ⟨o', rfl, ho, hw⟩
 have HO := Lib.hid ho
 have HW2 := Lib.hid (HW1.out.trans (hw.mono HW1.out.size))
 clear ho hw
 go_wp2_with fail
 by_cases hz2 : c - 4 - 1 - 4 = L
 ·rw [hz2]
  go_quiet (fail)
  go_wp2_with fail
  exact bodyPost_ret (v := .tuple #[.int .u8 2, .slice (some ⟨b, o', none⟩) L L, .slice (some ⟨b, o', none⟩) (m - 9 - L) 0, .bool true]) (by simp [results, Tryz.results117, go_sem]) rfl ⟨_, _, _, rfl, by have := HO.out; omega, Nat.le_refl _, by unfold maxLen; omega, pw_below_drewN HW2.out _⟩
 ·go_quiet (fail)
  go_wp2_with fail
  exact bodyPost_ret (v := .tuple #[.int .u8 2, .slice (some ⟨b, o', none⟩) L (c - 4 - 1 - 4), .slice (some ⟨b, o' + L, none⟩) (m - 9 - L) (c - 4 - 1 - 4 - L), .bool true]) (by simp [results, Tryz.results117, go_sem]) rfl ⟨_, _, _, rfl, by have := HO.out; omega, by omega, by unfold maxLen; omega, pw_below_drewN HW2.out _⟩
theorem BinaryOK_bin {v : Value} {n : Int} {L b o : Nat} {w : World} (h : ∀ W, Below w.heap.size w W → Calls Tryz.prog 117 #[v] W (BinAns n L b o W)) : Calls Tryz.prog 70 #[.agg #[.int .u8 5, v]] w fun e w' => ∃ o' C, e = .returned (.tuple #[.int .u8 n, .slice (some ⟨b, o', none⟩) L C, .bool true]) ∧ (L = 0 ∨ o' = o) ∧ L ≤ C ∧ C ≤ maxLen ∧ Below w.heap.size w w' := by
 have HB : Hid (Below w.heap.size w (w.alloc (.cells #[.int .u8 5, v] 67))) := (Below.refl _ _).alloc (Nat.le_refl _) _
 have HC := Lib.hid (h _ HB.out)
 clear h
 go_enter Tryz.func70, Tryz.ntmps70
 go_wp2_with fail
 refine HC.out.mono ?_
 rintro e w1 ⟨o', C, R, rfl, h1, h2, h3, hw⟩
 have HW := Lib.hid (HB.out.trans (hw.mono HB.out.size))
 have HH := Lib.hid (And.intro h1 (And.intro h2 h3))
 clear hw h1 h2 h3
 go_wp2_with fail
 go_ret3
 exact ⟨o', C, rfl, HH.out.1, HH.out.2.1, HH.out.2.2, HW.out⟩
end Go.Proofs.YtkeakdjbidbegaaGreatDoor
