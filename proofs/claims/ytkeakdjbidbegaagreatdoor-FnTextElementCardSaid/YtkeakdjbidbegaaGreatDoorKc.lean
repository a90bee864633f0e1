/- A part of the proof that laws.FnTextElement returns true at every input: Svnd. -/
import Derived.Test.YtkeakdjbidbegaaGreatDoorK
set_option linter.unusedSimpArgs false
set_option linter.unusedVariables false
set_option maxRecDepth 100000
set_option maxHeartbeats 8000000
namespace Go.Proofs.YtkeakdjbidbegaaGreatDoor
open Go.RowKit
open Go.Proofs.YtkeakdjbidbegaaGreatDoorW.PrintWords
theorem StringN_17 {p q : Int} {v : Value} {x y : List Int} {w : World} (hOK : ∀ W, Below w.heap.size w W → Calls Tryz.prog 86 #[.agg #[.int .u8 17, v]] W (OkAns2 (.int .u32 p) (.int .u32 q) W)) (hF0 : ∀ W, Below w.heap.size w W → Calls Tryz.prog 57 #[.int .u64 p, .int .i64 10] W (TxtIs x W)) (hl0 : x.length ≤ 10000000) (hF1 : ∀ W, Below w.heap.size w W → Calls Tryz.prog 57 #[.int .u64 q, .int .i64 10] W (TxtIs y W)) (hl1 : y.length ≤ 10000000) (n : Int) (hn : n = -1 ∨ (0 ≤ n ∧ n ≤ 65535)) (hr : ∀ z ∈ ([123, 34, 36, 116, 105, 109, 101, 115, 116, 97, 109, 112, 34, 58, 123, 34, 116, 34, 58] ++ x ++ [44, 34, 105, 34, 58] ++ y ++ [125, 125] : List Int), (0 : Int) ≤ z ∧ z ≤ 255) (hp : 0 ≤ p ∧ p < 4294967296) (hq : 0 ≤ q ∧ q < 4294967296) :
  Calls Tryz.prog 36 #[.agg #[.int .u8 17, v], .int .i64 n] w (StrN ([123, 34, 36, 116, 105, 109, 101, 115, 116, 97, 109, 112, 34, 58, 123, 34, 116, 34, 58] ++ x ++ [44, 34, 105, 34, 58] ++ y ++ [125, 125]) n w) := by
 have HB1 : Hid (Below w.heap.size w (w.alloc (.cells #[.int .u8 17, v] 67))) := (Below.refl _ _).alloc (Nat.le_refl _) _
 obtain ⟨L, hL⟩ : ∃ L : List Int, ([123, 34, 36, 116, 105, 109, 101, 115, 116, 97, 109, 112, 34, 58, 123, 34, 116, 34, 58] ++ x ++ [44, 34, 105, 34, 58] ++ y ++ [125, 125] : List Int) = L := ⟨_, rfl⟩
 rw [hL] at hr ⊢
 have hLl : L.length ≤ 100000000 := by rw [← hL]; first | omega | decide | (simp; omega)
 have HL := Lib.hid hL
 have HR := Lib.hid hr
 clear hL hr
 have HOK := Lib.hid hOK
 clear hOK
 have HF0 := Lib.hid hF0
 clear hF0
 have HF1 := Lib.hid hF1
 clear hF1
 go_enter Tryz.func36, Tryz.ntmps36
 go_upto_block 0 with fail
 go_cut [6] from 7 to 304 (fun s6 wx => ∃ u, s6 = .string u ∧ Hid (StrIs u L) ∧ Hid (Below w.heap.size w wx))
 case first =>
  go_wp2_with fail
  refine (HOK.out _ HB1.out).mono ?_
  rintro e w2 ⟨rfl, hw⟩
  have HB2 := Lib.hid (HB1.out.trans (hw.mono HB1.out.size))
  clear hw
  go_wp2_with fail
  refine (HF0.out _ HB2.out).mono ?_
  rintro e w3 ⟨⟨u0, rfl, hu0⟩, hw⟩
  have HB3 := Lib.hid (HB2.out.trans (hw.mono HB2.out.size))
  have HU0 := Lib.hid hu0
  have hs0 : u0.size ≤ 10000000 := by rw [hu0.size]; exact hl0
  clear hw hu0
  go_wp2_with fail
  refine (HF1.out _ HB3.out).mono ?_
  rintro e w4 ⟨⟨u1, rfl, hu1⟩, hw⟩
  have HB4 := Lib.hid (HB3.out.trans (hw.mono HB3.out.size))
  have HU1 := Lib.hid hu1
  have hs1 : u1.size ≤ 10000000 := by rw [hu1.size]; exact hl1
  clear hw hu1
  go_wp2_with fail
  go_meet
  exact ⟨_, rfl, by show StrIs _ _; rw [← HL.out]; exact (((((StrIs.of [123, 34, 36, 116, 105, 109, 101, 115, 116, 97, 109, 112, 34, 58, 123, 34, 116, 34, 58]).append HU0.out).append (StrIs.of [44, 34, 105, 34, 58])).append HU1.out).append (StrIs.of [125, 125])), Lib.hid HB4.out⟩
 obtain ⟨u, rfl, HU, HB⟩ := hcut
 clear HL HB1 HOK HF0 hl0 HF1 hl1 hp hq
 have hsz : u.size = L.length := HU.out.size
 have hus : u.size ≤ 100000000 := by rw [hsz]; exact hLl
 have HSZ := Lib.hid hsz
 clear hsz
 rcases hn with rfl | ⟨hn0, hn1⟩
 ·go_wp2_with fail
  go_ret2
  exact ⟨_, rfl, HU.out, HB.out⟩
 ·obtain ⟨N, rfl⟩ : ∃ N : Nat, n = N := ⟨n.toNat, by omega⟩
  have g0 : decide ((0 : Int) ≤ N) = true := decide_eq_true hn0
  have hn65 : N ≤ 65535 := by omega
  by_cases hc : N < u.size
  ·have g1 : decide (N < u.size) = true := decide_eq_true hc
   have hd : decide (0 ≤ (N : Int) ∧ (N : Int) < (L.length : Int)) = true := decide_eq_true ⟨hn0, by rw [← HSZ.out]; omega⟩
   have HD := Lib.hid hd
   have HT : Hid (∀ W, Calls Tryz.prog 33 #[.string u, .int .i64 N] W fun e w' => ∃ u', e = .returned (.string u') ∧ StrIs u' (cutL L N) ∧ w' = W) := fun W => Truncate_calls u L N HU.out HR.out hLl hn65 W
   clear hd hc hn0 hn1
   go_wp2_with fail
   refine (HT.out _).mono ?_
   rintro e w8 ⟨u', rfl, hu', rfl⟩
   have HU' := Lib.hid hu'
   clear hu'
   go_wp2_with fail
   go_ret2
   exact ⟨_, by rw [HD.out]; rfl, HU'.out.cast (by rw [if_neg (by omega)]; rfl), HB.out⟩
  ·have g1 : decide (N < u.size) = false := decide_eq_false hc
   have hd : decide (0 ≤ (N : Int) ∧ (N : Int) < (L.length : Int)) = false := decide_eq_false (fun h => hc (by have := HSZ.out; omega))
   have HD := Lib.hid hd
   have HC : Hid (L.length ≤ N) := by show _ ≤ _; rw [← HSZ.out]; omega
   clear hd hc hn0 hn1
   go_wp2_with fail
   go_ret2
   exact ⟨_, by rw [HD.out]; rfl, HU.out.cast (by rw [if_neg (by omega)]; exact (cutL_all HC.out).symm), HB.out⟩
theorem StringN_19 {p q : Int} {v : Value} {x : List Int} {w : World} (hOK : ∀ W, Below w.heap.size w W → Calls Tryz.prog 88 #[.agg #[.int .u8 19, v]] W (OkAns2 (.int .u64 p) (.int .u64 q) W)) (hF0 : ∀ W, Below w.heap.size w W → Calls Tryz.prog 89 #[.int .u64 p, .int .u64 q] W (TxtIs x W)) (hl0 : x.length ≤ 10000000) (n : Int) (hn : n = -1 ∨ (0 ≤ n ∧ n ≤ 65535)) (hr : ∀ z ∈ ([123, 34, 36, 110, 117, 109, 98, 101, 114, 68, 101, 99, 105, 109, 97, 108, 34, 58, 34] ++ x ++ [34, 125] : List Int), (0 : Int) ≤ z ∧ z ≤ 255) :
  Calls Tryz.prog 36 #[.agg #[.int .u8 19, v], .int .i64 n] w (StrN ([123, 34, 36, 110, 117, 109, 98, 101, 114, 68, 101, 99, 105, 109, 97, 108, 34, 58, 34] ++ x ++ [34, 125]) n w) := by
 have HB1 : Hid (Below w.heap.size w (w.alloc (.cells #[.int .u8 19, v] 67))) := (Below.refl _ _).alloc (Nat.le_refl _) _
 obtain ⟨L, hL⟩ : ∃ L : List Int, ([123, 34, 36, 110, 117, 109, 98, 101, 114, 68, 101, 99, 105, 109, 97, 108, 34, 58, 34] ++ x ++ [34, 125] : List Int) = L := ⟨_, rfl⟩
 rw [hL] at hr ⊢
 have hLl : L.length ≤ 100000000 := by rw [← hL]; first | omega | decide | (simp; omega)
 have HL := Lib.hid hL
 have HR := Lib.hid hr
 clear hL hr
 have HOK := Lib.hid hOK
 clear hOK
 have HF0 := Lib.hid hF0
 clear hF0
 go_enter Tryz.func36, Tryz.ntmps36
 go_upto_block 0 with fail
 go_cut [6] from 7 to 304 (fun s6 wx => ∃ u, s6 = .string u ∧ Hid (StrIs u L) ∧ Hid (Below w.heap.size w wx))
 case first =>
  go_wp2_with fail
  refine (HOK.out _ HB1.out).mono ?_
  rintro e w2 ⟨rfl, hw⟩
  have HB2 := Lib.hid (HB1.out.trans (hw.mono HB1.out.size))
  clear hw
  go_wp2_with fail
  refine (HF0.out _ HB2.out).mono ?_
  rintro e w3 ⟨⟨u0, rfl, hu0⟩, hw⟩
  have HB3 := Lib.hid (HB2.out.trans (hw.mono HB2.out.size))
  have HU0 := Lib.hid hu0
  have hs0 : u0.size ≤ 10000000 := by rw [hu0.size]; exact hl0
  clear hw hu0
  go_wp2_with fail
  go_meet
  exact ⟨_, rfl, by show StrIs _ _; rw [← HL.out]; exact (((StrIs.of [123, 34, 36, 110, 117, 109, 98, 101, 114, 68, 101, 99, 105, 109, 97, 108, 34, 58, 34]).append HU0.out).append (StrIs.of [34, 125])), Lib.hid HB3.out⟩
 obtain ⟨u, rfl, HU, HB⟩ := hcut
 clear HL HB1 HOK HF0 hl0
 have hsz : u.size = L.length := HU.out.size
 have hus : u.size ≤ 100000000 := by rw [hsz]; exact hLl
 have HSZ := Lib.hid hsz
 clear hsz
 rcases hn with rfl | ⟨hn0, hn1⟩
 ·go_wp2_with fail
  go_ret2
  exact ⟨_, rfl, HU.out, HB.out⟩
 ·obtain ⟨N, rfl⟩ : ∃ N : Nat, n = N := ⟨n.toNat, by omega⟩
  have g0 : decide ((0 : Int) ≤ N) = true := decide_eq_true hn0
  have hn65 : N ≤ 65535 := by omega
  by_cases hc : N < u.size
  ·have g1 : decide (N < u.size) = true := decide_eq_true hc
   have hd : decide (0 ≤ (N : Int) ∧ (N : Int) < (L.length : Int)) = true := decide_eq_true ⟨hn0, by rw [← HSZ.out]; omega⟩
   have HD := Lib.hid hd
   have HT : Hid (∀ W, Calls Tryz.prog 33 #[.string u, .int .i64 N] W fun e w' => ∃ u', e = .returned (.string u') ∧ StrIs u' (cutL L N) ∧ w' = W) := fun W => Truncate_calls u L N HU.out HR.out hLl hn65 W
   clear hd hc hn0 hn1
   go_wp2_with fail
   refine (HT.out _).mono ?_
   rintro e w8 ⟨u', rfl, hu', rfl⟩
   have HU' := Lib.hid hu'
   clear hu'
   go_wp2_with fail
   go_ret2
   exact ⟨_, by rw [HD.out]; rfl, HU'.out.cast (by rw [if_neg (by omega)]; rfl), HB.out⟩
  ·have g1 : decide (N < u.size) = false := decide_eq_false hc
   have hd : decide (0 ≤ (N : Int) ∧ (N : Int) < (L.length : Int)) = false := decide_eq_false (fun h => hc (by have := HSZ.out; omega))
   have HD := Lib.hid hd
   have HC : Hid (L.length ≤ N) := by show _ ≤ _; rw [← HSZ.out]; omega
   clear hd hc hn0 hn1
   go_wp2_with fail
   go_ret2
   exact ⟨_, by rw [HD.out]; rfl, HU.out.cast (by rw [if_neg (by omega)]; exact (cutL_all HC.out).symm), HB.out⟩
theorem StringN_11 {s o : ByteArray} {v : Value} {x y : List Int} {w : World} (hOK : ∀ W, Below w.heap.size w W → Calls Tryz.prog 78 #[.agg #[.int .u8 11, v]] W (OkAns2 (.string s) (.string o) W)) (hF0 : ∀ W, Below w.heap.size w W → Calls Tryz.prog 65 #[.string s] W (TxtIs x W)) (hl0 : x.length ≤ 10000000) (hF1 : ∀ W, Below w.heap.size w W → Calls Tryz.prog 79 #[.string o] W (TxtIs y W)) (hl1 : y.length ≤ 10000000) (n : Int) (hn : n = -1 ∨ (0 ≤ n ∧ n ≤ 65535)) (hr : ∀ z ∈ ([123, 34, 36, 114, 101, 103, 117, 108, 97, 114, 69, 120, 112, 114, 101, 115, 115, 105, 111, 110, 34, 58, 123, 34, 112, 97, 116, 116, 101, 114, 110, 34, 58] ++ x ++ [44, 34, 111, 112, 116, 105, 111, 110, 115, 34, 58, 34] ++ y ++ [34, 125, 125] : List Int), (0 : Int) ≤ z ∧ z ≤ 255) :
  Calls Tryz.prog 36 #[.agg #[.int .u8 11, v], .int .i64 n] w (StrN ([123, 34, 36, 114, 101, 103, 117, 108, 97, 114, 69, 120, 112, 114, 101, 115, 115, 105, 111, 110, 34, 58, 123, 34, 112, 97, 116, 116, 101, 114, 110, 34, 58] ++ x ++ [44, 34, 111, 112, 116, 105, 111, 110, 115, 34, 58, 34] ++ y ++ [34, 125, 125]) n w) := by
 have HB1 : Hid (Below w.heap.size w (w.alloc (.cells #[.int .u8 11, v] 67))) := (Below.refl _ _).alloc (Nat.le_refl _) _
 obtain ⟨L, hL⟩ : ∃ L : List Int, ([123, 34, 36, 114, 101, 103, 117, 108, 97, 114, 69, 120, 112, 114, 101, 115, 115, 105, 111, 110, 34, 58, 123, 34, 112, 97, 116, 116, 101, 114, 110, 34, 58] ++ x ++ [44, 34, 111, 112, 116, 105, 111, 110, 115, 34, 58, 34] ++ y ++ [34, 125, 125] : List Int) = L := ⟨_, rfl⟩
 rw [hL] at hr ⊢
 have hLl : L.length ≤ 100000000 := by rw [← hL]; first | omega | decide | (simp; omega)
 have HL := Lib.hid hL
 have HR := Lib.hid hr
 clear hL hr
 have HOK := Lib.hid hOK
 clear hOK
 have HF0 := Lib.hid hF0
 clear hF0
 have HF1 := Lib.hid hF1
 clear hF1
 go_enter Tryz.func36, Tryz.ntmps36
 go_upto_block 0 with fail
 go_cut [6] from 7 to 304 (fun s6 wx => ∃ u, s6 = .string u ∧ Hid (StrIs u L) ∧ Hid (Below w.heap.size w wx))
 case first =>
  go_wp2_with fail
  refine (HOK.out _ HB1.out).mono ?_
  rintro e w2 ⟨rfl, hw⟩
  have HB2 := Lib.hid (HB1.out.trans (hw.mono HB1.out.size))
  clear hw
  go_wp2_with fail
  refine (HF0.out _ HB2.out).mono ?_
  rintro e w3 ⟨⟨u0, rfl, hu0⟩, hw⟩
  have HB3 := Lib.hid (HB2.out.trans (hw.mono HB2.out.size))
  have HU0 := Lib.hid hu0
  have hs0 : u0.size ≤ 10000000 := by rw [hu0.size]; exact hl0
  clear hw hu0
  go_wp2_with fail
  refine (HF1.out _ HB3.out).mono ?_
  rintro e w4 ⟨⟨u1, rfl, hu1⟩, hw⟩
  have HB4 := Lib.hid (HB3.out.trans (hw.mono HB3.out.size))
  have HU1 := Lib.hid hu1
  have hs1 : u1.size ≤ 10000000 := by rw [hu1.size]; exact hl1
  clear hw hu1
  go_wp2_with fail
  go_meet
  exact ⟨_, rfl, by show StrIs _ _; rw [← HL.out]; exact (((((StrIs.of [123, 34, 36, 114, 101, 103, 117, 108, 97, 114, 69, 120, 112, 114, 101, 115, 115, 105, 111, 110, 34, 58, 123, 34, 112, 97, 116, 116, 101, 114, 110, 34, 58]).append HU0.out).append (StrIs.of [44, 34, 111, 112, 116, 105, 111, 110, 115, 34, 58, 34])).append HU1.out).append (StrIs.of [34, 125, 125])), Lib.hid HB4.out⟩
 obtain ⟨u, rfl, HU, HB⟩ := hcut
 clear HL HB1 HOK HF0 hl0 HF1 hl1
 have hsz : u.size = L.length := HU.out.size
 have hus : u.size ≤ 100000000 := by rw [hsz]; exact hLl
 have HSZ := Lib.hid hsz
 clear hsz
 rcases hn with rfl | ⟨hn0, hn1⟩
 ·go_wp2_with fail
  go_ret2
  exact ⟨_, rfl, HU.out, HB.out⟩
 ·obtain ⟨N, rfl⟩ : ∃ N : Nat, n = N := ⟨n.toNat, by omega⟩
  have g0 : decide ((0 : Int) ≤ N) = true := decide_eq_true hn0
  have hn65 : N ≤ 65535 := by omega
  by_cases hc : N < u.size
  ·have g1 : decide (N < u.size) = true := decide_eq_true hc
   have hd : decide (0 ≤ (N : Int) ∧ (N : Int) < (L.length : Int)) = true := decide_eq_true ⟨hn0, by rw [← HSZ.out]; omega⟩
   have HD := Lib.hid hd
   have HT : Hid (∀ W, Calls Tryz.prog 33 #[.string u, .int .i64 N] W fun e w' => ∃ u', e = .returned (.string u') ∧ StrIs u' (cutL L N) ∧ w' = W) := fun W => Truncate_calls u L N HU.out HR.out hLl hn65 W
   clear hd hc hn0 hn1
   go_wp2_with fail
   refine (HT.out _).mono ?_
   rintro e w8 ⟨u', rfl, hu', rfl⟩
   have HU' := Lib.hid hu'
   clear hu'
   go_wp2_with fail
   go_ret2
   exact ⟨_, by rw [HD.out]; rfl, HU'.out.cast (by rw [if_neg (by omega)]; rfl), HB.out⟩
  ·have g1 : decide (N < u.size) = false := decide_eq_false hc
   have hd : decide (0 ≤ (N : Int) ∧ (N : Int) < (L.length : Int)) = false := decide_eq_false (fun h => hc (by have := HSZ.out; omega))
   have HD := Lib.hid hd
   have HC : Hid (L.length ≤ N) := by show _ ≤ _; rw [← HSZ.out]; omega
   clear hd hc hn0 hn1
   go_wp2_with fail
   go_ret2
   exact ⟨_, by rw [HD.out]; rfl, HU.out.cast (by rw [if_neg (by omega)]; exact (cutL_all HC.out).symm), HB.out⟩
end Go.Proofs.YtkeakdjbidbegaaGreatDoor
