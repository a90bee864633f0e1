/- A part of the proof that laws.FnTextElement returns true at every input: Svna, Svnb, Svng. -/
import Derived.Test.YtkeakdjbidbegaaGreatDoorJ
import Derived.Test.YtkeakdjbidbegaaGreatDoorH
import Derived.Deep.Cut
import Derived.Deep.CutRange
import Derived.Deep.CutBlock
import Derived.Deep.DeepCutAuto
set_option linter.unusedSimpArgs false
set_option linter.unusedVariables false
set_option maxRecDepth 100000
set_option maxHeartbeats 8000000
namespace Go.Proofs.YtkeakdjbidbegaaGreatDoor
open Go.RowKit
open Go.Proofs.YtkeakdjbidbegaaGreatDoorW.PrintWords
def StrN (l : List Int) (n : Int) (w : World) (e : Ending) (w' : World) : Prop :=
 ∃ u, e = .returned (.tuple #[.string u, .bool (decide (0 ≤ n ∧ n < (l.length : Int)))]) ∧ StrIs u (if n < 0 then l else cutL l n.toNat) ∧ Below w.heap.size w w'
theorem StrN.cast {l l' : List Int} {n : Int} {w : World} {e : Ending} {w' : World} (h : StrN l n w e w') (he : l = l') : StrN l' n w e w' := he ▸ h
theorem TextIs.txt {l : List Int} {w : World} {e : Ending} {w' : World} (h : TextIs l w e w') : TxtIs l w e w' := ⟨⟨_, h.1, .of _⟩, h.2⟩
theorem StrIs.add {l m r : List Int} {u : ByteArray} (h : StrIs u l) (a b : ByteArray) (ha : StrIs a m) (hb : StrIs b r) : StrIs (a ++ u ++ b) (m ++ l ++ r) := (ha.append h).append hb
theorem StringN_9 {m : Int} {v : Value} {x : List Int} {w : World} (hOK : ∀ W, Below w.heap.size w W → Calls Tryz.prog 77 #[.agg #[.int .u8 9, v]] W (OkAns (.int .i64 m) W)) (hF0 : ∀ W, Below w.heap.size w W → Calls Tryz.prog 55 #[.int .i64 m, .int .i64 10] W (TxtIs x W)) (hl0 : x.length ≤ 10000000) (n : Int) (hn : n = -1 ∨ (0 ≤ n ∧ n ≤ 65535)) (hr : ∀ z ∈ ([123, 34, 36, 100, 97, 116, 101, 34, 58, 123, 34, 36, 110, 117, 109, 98, 101, 114, 76, 111, 110, 103, 34, 58, 34] ++ x ++ [34, 125, 125] : List Int), (0 : Int) ≤ z ∧ z ≤ 255) :
  Calls Tryz.prog 36 #[.agg #[.int .u8 9, v], .int .i64 n] w (StrN ([123, 34, 36, 100, 97, 116, 101, 34, 58, 123, 34, 36, 110, 117, 109, 98, 101, 114, 76, 111, 110, 103, 34, 58, 34] ++ x ++ [34, 125, 125]) n w) := by
 have HB1 : Hid (Below w.heap.size w (w.alloc (.cells #[.int .u8 9, v] 67))) := (Below.refl _ _).alloc (Nat.le_refl _) _
 obtain ⟨L, hL⟩ : ∃ L : List Int, ([123, 34, 36, 100, 97, 116, 101, 34, 58, 123, 34, 36, 110, 117, 109, 98, 101, 114, 76, 111, 110, 103, 34, 58, 34] ++ x ++ [34, 125, 125] : List Int) = L := ⟨_, rfl⟩
 rw [hL] at hr ⊢
 have hLl : L.length ≤ 100000000 := by rw [← hL]; first | omega | decide | (simp; omega)
 have HL := Lib.hid hL
 have HR := Lib.hid hr
 clear hL hr
 have HOK := Lib.hid hOK
 clear hOK
 have HF0 := Lib.hid hF0
 clear hF0
 go_enter Tryz.func36, Tryz.ntmps36
 go_upto_block 0 with fail
 go_cut [6] from 7 to 304 (fun s6 wx => ∃ u, s6 = .string u ∧ Hid (StrIs u L) ∧ Hid (Below w.heap.size w wx))
 case first =>
  go_wp2_with fail
  refine (HOK.out _ HB1.out).mono ?_
  rintro e w2 ⟨rfl, hw⟩
  have HB2 := Lib.hid (HB1.out.trans (hw.mono HB1.out.size))
  clear hw
  go_wp2_with fail
  refine (HF0.out _ HB2.out).mono ?_
  rintro e w3 ⟨⟨u0, rfl, hu0⟩, hw⟩
  have HB3 := Lib.hid (HB2.out.trans (hw.mono HB2.out.size))
  have HU0 := Lib.hid hu0
  have hs0 : u0.size ≤ 10000000 := by rw [hu0.size]; exact hl0
  clear hw hu0
  go_wp2_with fail
  go_meet
  exact ⟨_, rfl, by show StrIs _ _; rw [← HL.out]; exact (((StrIs.of [123, 34, 36, 100, 97, 116, 101, 34, 58, 123, 34, 36, 110, 117, 109, 98, 101, 114, 76, 111, 110, 103, 34, 58, 34]).append HU0.out).append (StrIs.of [34, 125, 125])), Lib.hid HB3.out⟩
 obtain ⟨u, rfl, HU, HB⟩ := hcut
 clear HL HB1 HOK HF0 hl0
 have hsz : u.size = L.length := HU.out.size
 have hus : u.size ≤ 100000000 := by rw [hsz]; exact hLl
 have HSZ := Lib.hid hsz
 clear hsz
 rcases hn with rfl | ⟨hn0, hn1⟩
 ·go_wp2_with fail
  go_ret2
  exact ⟨_, rfl, HU.out, HB.out⟩
 ·obtain ⟨N, rfl⟩ : ∃ N : Nat, n = N := ⟨n.toNat, by omega⟩
  have g0 : decide ((0 : Int) ≤ N) = true := decide_eq_true hn0
  have hn65 : N ≤ 65535 := by omega
  by_cases hc : N < u.size
  ·have g1 : decide (N < u.size) = true := decide_eq_true hc
   have hd : decide (0 ≤ (N : Int) ∧ (N : Int) < (L.length : Int)) = true := decide_eq_true ⟨hn0, by rw [← HSZ.out]; omega⟩
   have HD := Lib.hid hd
   have HT : Hid (∀ W, Calls Tryz.prog 33 #[.string u, .int .i64 N] W fun e w' => ∃ u', e = .returned (.string u') ∧ StrIs u' (cutL L N) ∧ w' = W) := fun W => Truncate_calls u L N HU.out HR.out hLl hn65 W
   clear hd hc hn0 hn1
   go_wp2_with fail
   refine (HT.out _).mono ?_
   rintro e w8 ⟨u', rfl, hu', rfl⟩
   have HU' := Lib.hid hu'
   clear hu'
   go_wp2_with fail
   go_ret2
   exact ⟨_, by rw [HD.out]; rfl, HU'.out.cast (by rw [if_neg (by omega)]; rfl), HB.out⟩
  ·have g1 : decide (N < u.size) = false := decide_eq_false hc
   have hd : decide (0 ≤ (N : Int) ∧ (N : Int) < (L.length : Int)) = false := decide_eq_false (fun h => hc (by have := HSZ.out; omega))
   have HD := Lib.hid hd
   have HC : Hid (L.length ≤ N) := by show _ ≤ _; rw [← HSZ.out]; omega
   clear hd hc hn0 hn1
   go_wp2_with fail
   go_ret2
   exact ⟨_, by rw [HD.out]; rfl, HU.out.cast (by rw [if_neg (by omega)]; exact (cutL_all HC.out).symm), HB.out⟩
theorem StringN_18 {m : Int} {v : Value} {x : List Int} {w : World} (hOK : ∀ W, Below w.heap.size w W → Calls Tryz.prog 87 #[.agg #[.int .u8 18, v]] W (OkAns (.int .i64 m) W)) (hF0 : ∀ W, Below w.heap.size w W → Calls Tryz.prog 55 #[.int .i64 m, .int .i64 10] W (TxtIs x W)) (hl0 : x.length ≤ 10000000) (n : Int) (hn : n = -1 ∨ (0 ≤ n ∧ n ≤ 65535)) (hr : ∀ z ∈ ([123, 34, 36, 110, 117, 109, 98, 101, 114, 76, 111, 110, 103, 34, 58, 34] ++ x ++ [34, 125] : List Int), (0 : Int) ≤ z ∧ z ≤ 255) :
  Calls Tryz.prog 36 #[.agg #[.int .u8 18, v], .int .i64 n] w (StrN ([123, 34, 36, 110, 117, 109, 98, 101, 114, 76, 111, 110, 103, 34, 58, 34] ++ x ++ [34, 125]) n w) := by
 have HB1 : Hid (Below w.heap.size w (w.alloc (.cells #[.int .u8 18, v] 67))) := (Below.refl _ _).alloc (Nat.le_refl _) _
 obtain ⟨L, hL⟩ : ∃ L : List Int, ([123, 34, 36, 110, 117, 109, 98, 101, 114, 76, 111, 110, 103, 34, 58, 34] ++ x ++ [34, 125] : List Int) = L := ⟨_, rfl⟩
 rw [hL] at hr ⊢
 have hLl : L.length ≤ 100000000 := by rw [← hL]; first | omega | decide | (simp; omega)
 have HL := Lib.hid hL
 have HR := Lib.hid hr
 clear hL hr
 have HOK := Lib.hid hOK
 clear hOK
 have HF0 := Lib.hid hF0
 clear hF0
 go_enter Tryz.func36, Tryz.ntmps36
 go_upto_block 0 with fail
 go_cut [6] from 7 to 304 (fun s6 wx => ∃ u, s6 = .string u ∧ Hid (StrIs u L) ∧ Hid (Below w.heap.size w wx))
 case first =>
  go_wp2_with fail
  refine (HOK.out _ HB1.out).mono ?_
  rintro e w2 ⟨rfl, hw⟩
  have HB2 := Lib.hid (HB1.out.trans (hw.mono HB1.out.size))
  clear hw
  go_wp2_with fail
  refine (HF0.out _ HB2.out).mono ?_
  rintro e w3 ⟨⟨u0, rfl, hu0⟩, hw⟩
  have HB3 := Lib.hid (HB2.out.trans (hw.mono HB2.out.size))
  have HU0 := Lib.hid hu0
  have hs0 : u0.size ≤ 10000000 := by rw [hu0.size]; exact hl0
  clear hw hu0
  go_wp2_with fail
  go_meet
  exact ⟨_, rfl, by show StrIs _ _; rw [← HL.out]; exact (((StrIs.of [123, 34, 36, 110, 117, 109, 98, 101, 114, 76, 111, 110, 103, 34, 58, 34]).append HU0.out).append (StrIs.of [34, 125])), Lib.hid HB3.out⟩
 obtain ⟨u, rfl, HU, HB⟩ := hcut
 clear HL HB1 HOK HF0 hl0
 have hsz : u.size = L.length := HU.out.size
 have hus : u.size ≤ 100000000 := by rw [hsz]; exact hLl
 have HSZ := Lib.hid hsz
 clear hsz
 rcases hn with rfl | ⟨hn0, hn1⟩
 ·go_wp2_with fail
  go_ret2
  exact ⟨_, rfl, HU.out, HB.out⟩
 ·obtain ⟨N, rfl⟩ : ∃ N : Nat, n = N := ⟨n.toNat, by omega⟩
  have g0 : decide ((0 : Int) ≤ N) = true := decide_eq_true hn0
  have hn65 : N ≤ 65535 := by omega
  by_cases hc : N < u.size
  ·have g1 : decide (N < u.size) = true := decide_eq_true hc
   have hd : decide (0 ≤ (N : Int) ∧ (N : Int) < (L.length : Int)) = true := decide_eq_true ⟨hn0, by rw [← HSZ.out]; omega⟩
   have HD := Lib.hid hd
   have HT : Hid (∀ W, Calls Tryz.prog 33 #[.string u, .int .i64 N] W fun e w' => ∃ u', e = .returned (.string u') ∧ StrIs u' (cutL L N) ∧ w' = W) := fun W => Truncate_calls u L N HU.out HR.out hLl hn65 W
   clear hd hc hn0 hn1
   go_wp2_with fail
   refine (HT.out _).mono ?_
   rintro e w8 ⟨u', rfl, hu', rfl⟩
   have HU' := Lib.hid hu'
   clear hu'
   go_wp2_with fail
   go_ret2
   exact ⟨_, by rw [HD.out]; rfl, HU'.out.cast (by rw [if_neg (by omega)]; rfl), HB.out⟩
  ·have g1 : decide (N < u.size) = false := decide_eq_false hc
   have hd : decide (0 ≤ (N : Int) ∧ (N : Int) < (L.length : Int)) = false := decide_eq_false (fun h => hc (by have := HSZ.out; omega))
   have HD := Lib.hid hd
   have HC : Hid (L.length ≤ N) := by show _ ≤ _; rw [← HSZ.out]; omega
   clear hd hc hn0 hn1
   go_wp2_with fail
   go_ret2
   exact ⟨_, by rw [HD.out]; rfl, HU.out.cast (by rw [if_neg (by omega)]; exact (cutL_all HC.out).symm), HB.out⟩
theorem StringN_16 {m : Int} {v : Value} {x : List Int} {w : World} (hOK : ∀ W, Below w.heap.size w W → Calls Tryz.prog 85 #[.agg #[.int .u8 16, v]] W (OkAns (.int .i32 m) W)) (hF0 : ∀ W, Below w.heap.size w W → Calls Tryz.prog 55 #[.int .i64 m, .int .i64 10] W (TxtIs x W)) (hl0 : x.length ≤ 10000000) (n : Int) (hn : n = -1 ∨ (0 ≤ n ∧ n ≤ 65535)) (hr : ∀ z ∈ ([123, 34, 36, 110, 117, 109, 98, 101, 114, 73, 110, 116, 34, 58, 34] ++ x ++ [34, 125] : List Int), (0 : Int) ≤ z ∧ z ≤ 255) (hm : -2147483648 ≤ m ∧ m < 2147483648) :
  Calls Tryz.prog 36 #[.agg #[.int .u8 16, v], .int .i64 n] w (StrN ([123, 34, 36, 110, 117, 109, 98, 101, 114, 73, 110, 116, 34, 58, 34] ++ x ++ [34, 125]) n w) := by
 have HB1 : Hid (Below w.heap.size w (w.alloc (.cells #[.int .u8 16, v] 67))) := (Below.refl _ _).alloc (Nat.le_refl _) _
 obtain ⟨L, hL⟩ : ∃ L : List Int, ([123, 34, 36, 110, 117, 109, 98, 101, 114, 73, 110, 116, 34, 58, 34] ++ x ++ [34, 125] : List Int) = L := ⟨_, rfl⟩
 rw [hL] at hr ⊢
 have hLl : L.length ≤ 100000000 := by rw [← hL]; first | omega | decide | (simp; omega)
 have HL := Lib.hid hL
 have HR := Lib.hid hr
 clear hL hr
 have HOK := Lib.hid hOK
 clear hOK
 have HF0 := Lib.hid hF0
 clear hF0
 go_enter Tryz.func36, Tryz.ntmps36
 go_upto_block 0 with fail
 go_cut [6] from 7 to 304 (fun s6 wx => ∃ u, s6 = .string u ∧ Hid (StrIs u L) ∧ Hid (Below w.heap.size w wx))
 case first =>
  go_wp2_with fail
  refine (HOK.out _ HB1.out).mono ?_
  rintro e w2 ⟨rfl, hw⟩
  have HB2 := Lib.hid (HB1.out.trans (hw.mono HB1.out.size))
  clear hw
  go_wp2_with fail
  refine (HF0.out _ HB2.out).mono ?_
  rintro e w3 ⟨⟨u0, rfl, hu0⟩, hw⟩
  have HB3 := Lib.hid (HB2.out.trans (hw.mono HB2.out.size))
  have HU0 := Lib.hid hu0
  have hs0 : u0.size ≤ 10000000 := by rw [hu0.size]; exact hl0
  clear hw hu0
  go_wp2_with fail
  go_meet
  exact ⟨_, rfl, by show StrIs _ _; rw [← HL.out]; exact (((StrIs.of [123, 34, 36, 110, 117, 109, 98, 101, 114, 73, 110, 116, 34, 58, 34]).append HU0.out).append (StrIs.of [34, 125])), Lib.hid HB3.out⟩
 obtain ⟨u, rfl, HU, HB⟩ := hcut
 clear HL HB1 HOK HF0 hl0 hm
 have hsz : u.size = L.length := HU.out.size
 have hus : u.size ≤ 100000000 := by rw [hsz]; exact hLl
 have HSZ := Lib.hid hsz
 clear hsz
 rcases hn with rfl | ⟨hn0, hn1⟩
 ·go_wp2_with fail
  go_ret2
  exact ⟨_, rfl, HU.out, HB.out⟩
 ·obtain ⟨N, rfl⟩ : ∃ N : Nat, n = N := ⟨n.toNat, by omega⟩
  have g0 : decide ((0 : Int) ≤ N) = true := decide_eq_true hn0
  have hn65 : N ≤ 65535 := by omega
  by_cases hc : N < u.size
  ·have g1 : decide (N < u.size) = true := decide_eq_true hc
   have hd : decide (0 ≤ (N : Int) ∧ (N : Int) < (L.length : Int)) = true := decide_eq_true ⟨hn0, by rw [← HSZ.out]; omega⟩
   have HD := Lib.hid hd
   have HT : Hid (∀ W, Calls Tryz.prog 33 #[.string u, .int .i64 N] W fun e w' => ∃ u', e = .returned (.string u') ∧ StrIs u' (cutL L N) ∧ w' = W) := fun W => Truncate_calls u L N HU.out HR.out hLl hn65 W
   clear hd hc hn0 hn1
   go_wp2_with fail
   refine (HT.out _).mono ?_
   rintro e w8 ⟨u', rfl, hu', rfl⟩
   have HU' := Lib.hid hu'
   clear hu'
   go_wp2_with fail
   go_ret2
   exact ⟨_, by rw [HD.out]; rfl, HU'.out.cast (by rw [if_neg (by omega)]; rfl), HB.out⟩
  ·have g1 : decide (N < u.size) = false := decide_eq_false hc
   have hd : decide (0 ≤ (N : Int) ∧ (N : Int) < (L.length : Int)) = false := decide_eq_false (fun h => hc (by have := HSZ.out; omega))
   have HD := Lib.hid hd
   have HC : Hid (L.length ≤ N) := by show _ ≤ _; rw [← HSZ.out]; omega
   clear hd hc hn0 hn1
   go_wp2_with fail
   go_ret2
   exact ⟨_, by rw [HD.out]; rfl, HU.out.cast (by rw [if_neg (by omega)]; exact (cutL_all HC.out).symm), HB.out⟩
theorem StringN_8 {b : Bool} {v : Value} {x : List Int} {w : World} (hOK : ∀ W, Below w.heap.size w W → Calls Tryz.prog 75 #[.agg #[.int .u8 8, v]] W (OkAns (.bool b) W)) (hF0 : ∀ W, Below w.heap.size w W → Calls Tryz.prog 76 #[.bool b] W (TxtIs x W)) (hl0 : x.length ≤ 10000000) (n : Int) (hn : n = -1 ∨ (0 ≤ n ∧ n ≤ 65535)) (hr : ∀ z ∈ (x : List Int), (0 : Int) ≤ z ∧ z ≤ 255) :
  Calls Tryz.prog 36 #[.agg #[.int .u8 8, v], .int .i64 n] w (StrN (x) n w) := by
 have HB1 : Hid (Below w.heap.size w (w.alloc (.cells #[.int .u8 8, v] 67))) := (Below.refl _ _).alloc (Nat.le_refl _) _
 obtain ⟨L, hL⟩ : ∃ L : List Int, (x : List Int) = L := ⟨_, rfl⟩
 rw [hL] at hr ⊢
 have hLl : L.length ≤ 100000000 := by rw [← hL]; first | omega | decide | (simp; omega)
 have HL := Lib.hid hL
 have HR := Lib.hid hr
 clear hL hr
 have HOK := Lib.hid hOK
 clear hOK
 have HF0 := Lib.hid hF0
 clear hF0
 go_enter Tryz.func36, Tryz.ntmps36
 go_upto_block 0 with fail
 go_cut [6] from 7 to 304 (fun s6 wx => ∃ u, s6 = .string u ∧ Hid (StrIs u L) ∧ Hid (Below w.heap.size w wx))
 case first =>
  go_wp2_with fail
  refine (HOK.out _ HB1.out).mono ?_
  rintro e w2 ⟨rfl, hw⟩
  have HB2 := Lib.hid (HB1.out.trans (hw.mono HB1.out.size))
  clear hw
  go_wp2_with fail
  refine (HF0.out _ HB2.out).mono ?_
  rintro e w3 ⟨⟨u0, rfl, hu0⟩, hw⟩
  have HB3 := Lib.hid (HB2.out.trans (hw.mono HB2.out.size))
  have HU0 := Lib.hid hu0
  have hs0 : u0.size ≤ 10000000 := by rw [hu0.size]; exact hl0
  clear hw hu0
  go_wp2_with fail
  go_meet
  exact ⟨_, rfl, by show StrIs _ _; rw [← HL.out]; exact HU0.out, Lib.hid HB3.out⟩
 obtain ⟨u, rfl, HU, HB⟩ := hcut
 clear HL HB1 HOK HF0 hl0
 have hsz : u.size = L.length := HU.out.size
 have hus : u.size ≤ 100000000 := by rw [hsz]; exact hLl
 have HSZ := Lib.hid hsz
 clear hsz
 rcases hn with rfl | ⟨hn0, hn1⟩
 ·go_wp2_with fail
  go_ret2
  exact ⟨_, rfl, HU.out, HB.out⟩
 ·obtain ⟨N, rfl⟩ : ∃ N : Nat, n = N := ⟨n.toNat, by omega⟩
  have g0 : decide ((0 : Int) ≤ N) = true := decide_eq_true hn0
  have hn65 : N ≤ 65535 := by omega
  by_cases hc : N < u.size
  ·have g1 : decide (N < u.size) = true := decide_eq_true hc
   have hd : decide (0 ≤ (N : Int) ∧ (N : Int) < (L.length : Int)) = true := decide_eq_true ⟨hn0, by rw [← HSZ.out]; omega⟩
   have HD := Lib.hid hd
   have HT : Hid (∀ W, Calls Tryz.prog 33 #[.string u, .int .i64 N] W fun e w' => ∃ u', e = .returned (.string u') ∧ StrIs u' (cutL L N) ∧ w' = W) := fun W => Truncate_calls u L N HU.out HR.out hLl hn65 W
   clear hd hc hn0 hn1
   go_wp2_with fail
   refine (HT.out _).mono ?_
   rintro e w8 ⟨u', rfl, hu', rfl⟩
   have HU' := Lib.hid hu'
   clear hu'
   go_wp2_with fail
   go_ret2
   exact ⟨_, by rw [HD.out]; rfl, HU'.out.cast (by rw [if_neg (by omega)]; rfl), HB.out⟩
  ·have g1 : decide (N < u.size) = false := decide_eq_false hc
   have hd : decide (0 ≤ (N : Int) ∧ (N : Int) < (L.length : Int)) = false := decide_eq_false (fun h => hc (by have := HSZ.out; omega))
   have HD := Lib.hid hd
   have HC : Hid (L.length ≤ N) := by show _ ≤ _; rw [← HSZ.out]; omega
   clear hd hc hn0 hn1
   go_wp2_with fail
   go_ret2
   exact ⟨_, by rw [HD.out]; rfl, HU.out.cast (by rw [if_neg (by omega)]; exact (cutL_all HC.out).symm), HB.out⟩
theorem StringN_6 {v : Value} {w : World} (n : Int) (hn : n = -1 ∨ (0 ≤ n ∧ n ≤ 65535)) (hr : ∀ z ∈ ([123, 34, 36, 117, 110, 100, 101, 102, 105, 110, 101, 100, 34, 58, 116, 114, 117, 101, 125] : List Int), (0 : Int) ≤ z ∧ z ≤ 255) :
  Calls Tryz.prog 36 #[.agg #[.int .u8 6, v], .int .i64 n] w (StrN ([123, 34, 36, 117, 110, 100, 101, 102, 105, 110, 101, 100, 34, 58, 116, 114, 117, 101, 125]) n w) := by
 have HB1 : Hid (Below w.heap.size w (w.alloc (.cells #[.int .u8 6, v] 67))) := (Below.refl _ _).alloc (Nat.le_refl _) _
 obtain ⟨L, hL⟩ : ∃ L : List Int, ([123, 34, 36, 117, 110, 100, 101, 102, 105, 110, 101, 100, 34, 58, 116, 114, 117, 101, 125] : List Int) = L := ⟨_, rfl⟩
 rw [hL] at hr ⊢
 have hLl : L.length ≤ 100000000 := by rw [← hL]; first | omega | decide | (simp; omega)
 have HL := Lib.hid hL
 have HR := Lib.hid hr
 clear hL hr
 go_enter Tryz.func36, Tryz.ntmps36
 go_upto_block 0 with fail
 go_cut [6] from 7 to 304 (fun s6 wx => ∃ u, s6 = .string u ∧ Hid (StrIs u L) ∧ Hid (Below w.heap.size w wx))
 case first =>
  go_wp2_with fail
  go_meet
  exact ⟨_, rfl, by show StrIs _ _; rw [← HL.out]; exact (StrIs.of [123, 34, 36, 117, 110, 100, 101, 102, 105, 110, 101, 100, 34, 58, 116, 114, 117, 101, 125]), Lib.hid HB1.out⟩
 obtain ⟨u, rfl, HU, HB⟩ := hcut
 clear HL HB1
 have hsz : u.size = L.length := HU.out.size
 have hus : u.size ≤ 100000000 := by rw [hsz]; exact hLl
 have HSZ := Lib.hid hsz
 clear hsz
 rcases hn with rfl | ⟨hn0, hn1⟩
 ·go_wp2_with fail
  go_ret2
  exact ⟨_, rfl, HU.out, HB.out⟩
 ·obtain ⟨N, rfl⟩ : ∃ N : Nat, n = N := ⟨n.toNat, by omega⟩
  have g0 : decide ((0 : Int) ≤ N) = true := decide_eq_true hn0
  have hn65 : N ≤ 65535 := by omega
  by_cases hc : N < u.size
  ·have g1 : decide (N < u.size) = true := decide_eq_true hc
   have hd : decide (0 ≤ (N : Int) ∧ (N : Int) < (L.length : Int)) = true := decide_eq_true ⟨hn0, by rw [← HSZ.out]; omega⟩
   have HD := Lib.hid hd
   have HT : Hid (∀ W, Calls Tryz.prog 33 #[.string u, .int .i64 N] W fun e w' => ∃ u', e = .returned (.string u') ∧ StrIs u' (cutL L N) ∧ w' = W) := fun W => Truncate_calls u L N HU.out HR.out hLl hn65 W
   clear hd hc hn0 hn1
   go_wp2_with fail
   refine (HT.out _).mono ?_
   rintro e w8 ⟨u', rfl, hu', rfl⟩
   have HU' := Lib.hid hu'
   clear hu'
   go_wp2_with fail
   go_ret2
   exact ⟨_, by rw [HD.out]; rfl, HU'.out.cast (by rw [if_neg (by omega)]; rfl), HB.out⟩
  ·have g1 : decide (N < u.size) = false := decide_eq_false hc
   have hd : decide (0 ≤ (N : Int) ∧ (N : Int) < (L.length : Int)) = false := decide_eq_false (fun h => hc (by have := HSZ.out; omega))
   have HD := Lib.hid hd
   have HC : Hid (L.length ≤ N) := by show _ ≤ _; rw [← HSZ.out]; omega
   clear hd hc hn0 hn1
   go_wp2_with fail
   go_ret2
   exact ⟨_, by rw [HD.out]; rfl, HU.out.cast (by rw [if_neg (by omega)]; exact (cutL_all HC.out).symm), HB.out⟩
theorem StringN_10 {v : Value} {w : World} (n : Int) (hn : n = -1 ∨ (0 ≤ n ∧ n ≤ 65535)) (hr : ∀ z ∈ ([110, 117, 108, 108] : List Int), (0 : Int) ≤ z ∧ z ≤ 255) :
  Calls Tryz.prog 36 #[.agg #[.int .u8 10, v], .int .i64 n] w (StrN ([110, 117, 108, 108]) n w) := by
 have HB1 : Hid (Below w.heap.size w (w.alloc (.cells #[.int .u8 10, v] 67))) := (Below.refl _ _).alloc (Nat.le_refl _) _
 obtain ⟨L, hL⟩ : ∃ L : List Int, ([110, 117, 108, 108] : List Int) = L := ⟨_, rfl⟩
 rw [hL] at hr ⊢
 have hLl : L.length ≤ 100000000 := by rw [← hL]; first | omega | decide | (simp; omega)
 have HL := Lib.hid hL
 have HR := Lib.hid hr
 clear hL hr
 go_enter Tryz.func36, Tryz.ntmps36
 go_upto_block 0 with fail
 go_cut [6] from 7 to 304 (fun s6 wx => ∃ u, s6 = .string u ∧ Hid (StrIs u L) ∧ Hid (Below w.heap.size w wx))
 case first =>
  go_wp2_with fail
  go_meet
  exact ⟨_, rfl, by show StrIs _ _; rw [← HL.out]; exact (StrIs.of [110, 117, 108, 108]), Lib.hid HB1.out⟩
 obtain ⟨u, rfl, HU, HB⟩ := hcut
 clear HL HB1
 have hsz : u.size = L.length := HU.out.size
 have hus : u.size ≤ 100000000 := by rw [hsz]; exact hLl
 have HSZ := Lib.hid hsz
 clear hsz
 rcases hn with rfl | ⟨hn0, hn1⟩
 ·go_wp2_with fail
  go_ret2
  exact ⟨_, rfl, HU.out, HB.out⟩
 ·obtain ⟨N, rfl⟩ : ∃ N : Nat, n = N := ⟨n.toNat, by omega⟩
  have g0 : decide ((0 : Int) ≤ N) = true := decide_eq_true hn0
  have hn65 : N ≤ 65535 := by omega
  by_cases hc : N < u.size
  ·have g1 : decide (N < u.size) = true := decide_eq_true hc
   have hd : decide (0 ≤ (N : Int) ∧ (N : Int) < (L.length : Int)) = true := decide_eq_true ⟨hn0, by rw [← HSZ.out]; omega⟩
   have HD := Lib.hid hd
   have HT : Hid (∀ W, Calls Tryz.prog 33 #[.string u, .int .i64 N] W fun e w' => ∃ u', e = .returned (.string u') ∧ StrIs u' (cutL L N) ∧ w' = W) := fun W => Truncate_calls u L N HU.out HR.out hLl hn65 W
   clear hd hc hn0 hn1
   go_wp2_with fail
   refine (HT.out _).mono ?_
   rintro e w8 ⟨u', rfl, hu', rfl⟩
   have HU' := Lib.hid hu'
   clear hu'
   go_wp2_with fail
   go_ret2
   exact ⟨_, by rw [HD.out]; rfl, HU'.out.cast (by rw [if_neg (by omega)]; rfl), HB.out⟩
  ·have g1 : decide (N < u.size) = false := decide_eq_false hc
   have hd : decide (0 ≤ (N : Int) ∧ (N : Int) < (L.length : Int)) = false := decide_eq_false (fun h => hc (by have := HSZ.out; omega))
   have HD := Lib.hid hd
   have HC : Hid (L.length ≤ N) := by show _ ≤ _; rw [← HSZ.out]; omega
   clear hd hc hn0 hn1
   go_wp2_with fail
   go_ret2
   exact ⟨_, by rw [HD.out]; rfl, HU.out.cast (by rw [if_neg (by omega)]; exact (cutL_all HC.out).symm), HB.out⟩
theorem StringN_255 {v : Value} {w : World} (n : Int) (hn : n = -1 ∨ (0 ≤ n ∧ n ≤ 65535)) (hr : ∀ z ∈ ([123, 34, 36, 109, 105, 110, 75, 101, 121, 34, 58, 49, 125] : List Int), (0 : Int) ≤ z ∧ z ≤ 255) :
  Calls Tryz.prog 36 #[.agg #[.int .u8 255, v], .int .i64 n] w (StrN ([123, 34, 36, 109, 105, 110, 75, 101, 121, 34, 58, 49, 125]) n w) := by
 have HB1 : Hid (Below w.heap.size w (w.alloc (.cells #[.int .u8 255, v] 67))) := (Below.refl _ _).alloc (Nat.le_refl _) _
 obtain ⟨L, hL⟩ : ∃ L : List Int, ([123, 34, 36, 109, 105, 110, 75, 101, 121, 34, 58, 49, 125] : List Int) = L := ⟨_, rfl⟩
 rw [hL] at hr ⊢
 have hLl : L.length ≤ 100000000 := by rw [← hL]; first | omega | decide | (simp; omega)
 have HL := Lib.hid hL
 have HR := Lib.hid hr
 clear hL hr
 go_enter Tryz.func36, Tryz.ntmps36
 go_upto_block 0 with fail
 go_cut [6] from 7 to 304 (fun s6 wx => ∃ u, s6 = .string u ∧ Hid (StrIs u L) ∧ Hid (Below w.heap.size w wx))
 case first =>
  go_wp2_with fail
  go_meet
  exact ⟨_, rfl, by show StrIs _ _; rw [← HL.out]; exact (StrIs.of [123, 34, 36, 109, 105, 110, 75, 101, 121, 34, 58, 49, 125]), Lib.hid HB1.out⟩
 obtain ⟨u, rfl, HU, HB⟩ := hcut
 clear HL HB1
 have hsz : u.size = L.length := HU.out.size
 have hus : u.size ≤ 100000000 := by rw [hsz]; exact hLl
 have HSZ := Lib.hid hsz
 clear hsz
 rcases hn with rfl | ⟨hn0, hn1⟩
 ·go_wp2_with fail
  go_ret2
  exact ⟨_, rfl, HU.out, HB.out⟩
 ·obtain ⟨N, rfl⟩ : ∃ N : Nat, n = N := ⟨n.toNat, by omega⟩
  have g0 : decide ((0 : Int) ≤ N) = true := decide_eq_true hn0
  have hn65 : N ≤ 65535 := by omega
  by_cases hc : N < u.size
  ·have g1 : decide (N < u.size) = true := decide_eq_true hc
   have hd : decide (0 ≤ (N : Int) ∧ (N : Int) < (L.length : Int)) = true := decide_eq_true ⟨hn0, by rw [← HSZ.out]; omega⟩
   have HD := Lib.hid hd
   have HT : Hid (∀ W, Calls Tryz.prog 33 #[.string u, .int .i64 N] W fun e w' => ∃ u', e = .returned (.string u') ∧ StrIs u' (cutL L N) ∧ w' = W) := fun W => Truncate_calls u L N HU.out HR.out hLl hn65 W
   clear hd hc hn0 hn1
   go_wp2_with fail
   refine (HT.out _).mono ?_
   rintro e w8 ⟨u', rfl, hu', rfl⟩
   have HU' := Lib.hid hu'
   clear hu'
   go_wp2_with fail
   go_ret2
   exact ⟨_, by rw [HD.out]; rfl, HU'.out.cast (by rw [if_neg (by omega)]; rfl), HB.out⟩
  ·have g1 : decide (N < u.size) = false := decide_eq_false hc
   have hd : decide (0 ≤ (N : Int) ∧ (N : Int) < (L.length : Int)) = false := decide_eq_false (fun h => hc (by have := HSZ.out; omega))
   have HD := Lib.hid hd
   have HC : Hid (L.length ≤ N) := by show _ ≤ _; rw [← HSZ.out]; omega
   clear hd hc hn0 hn1
   go_wp2_with fail
   go_ret2
   exact ⟨_, by rw [HD.out]; rfl, HU.out.cast (by rw [if_neg (by omega)]; exact (cutL_all HC.out).symm), HB.out⟩
theorem StringN_127 {v : Value} {w : World} (n : Int) (hn : n = -1 ∨ (0 ≤ n ∧ n ≤ 65535)) (hr : ∀ z ∈ ([123, 34, 36, 109, 97, 120, 75, 101, 121, 34, 58, 49, 125] : List Int), (0 : Int) ≤ z ∧ z ≤ 255) :
  Calls Tryz.prog 36 #[.agg #[.int .u8 127, v], .int .i64 n] w (StrN ([123, 34, 36, 109, 97, 120, 75, 101, 121, 34, 58, 49, 125]) n w) := by
 have HB1 : Hid (Below w.heap.size w (w.alloc (.cells #[.int .u8 127, v] 67))) := (Below.refl _ _).alloc (Nat.le_refl _) _
 obtain ⟨L, hL⟩ : ∃ L : List Int, ([123, 34, 36, 109, 97, 120, 75, 101, 121, 34, 58, 49, 125] : List Int) = L := ⟨_, rfl⟩
 rw [hL] at hr ⊢
 have hLl : L.length ≤ 100000000 := by rw [← hL]; first | omega | decide | (simp; omega)
 have HL := Lib.hid hL
 have HR := Lib.hid hr
 clear hL hr
 go_enter Tryz.func36, Tryz.ntmps36
 go_upto_block 0 with fail
 go_cut [6] from 7 to 304 (fun s6 wx => ∃ u, s6 = .string u ∧ Hid (StrIs u L) ∧ Hid (Below w.heap.size w wx))
 case first =>
  go_wp2_with fail
  go_meet
  exact ⟨_, rfl, by show StrIs _ _; rw [← HL.out]; exact (StrIs.of [123, 34, 36, 109, 97, 120, 75, 101, 121, 34, 58, 49, 125]), Lib.hid HB1.out⟩
 obtain ⟨u, rfl, HU, HB⟩ := hcut
 clear HL HB1
 have hsz : u.size = L.length := HU.out.size
 have hus : u.size ≤ 100000000 := by rw [hsz]; exact hLl
 have HSZ := Lib.hid hsz
 clear hsz
 rcases hn with rfl | ⟨hn0, hn1⟩
 ·go_wp2_with fail
  go_ret2
  exact ⟨_, rfl, HU.out, HB.out⟩
 ·obtain ⟨N, rfl⟩ : ∃ N : Nat, n = N := ⟨n.toNat, by omega⟩
  have g0 : decide ((0 : Int) ≤ N) = true := decide_eq_true hn0
  have hn65 : N ≤ 65535 := by omega
  by_cases hc : N < u.size
  ·have g1 : decide (N < u.size) = true := decide_eq_true hc
   have hd : decide (0 ≤ (N : Int) ∧ (N : Int) < (L.length : Int)) = true := decide_eq_true ⟨hn0, by rw [← HSZ.out]; omega⟩
   have HD := Lib.hid hd
   have HT : Hid (∀ W, Calls Tryz.prog 33 #[.string u, .int .i64 N] W fun e w' => ∃ u', e = .returned (.string u') ∧ StrIs u' (cutL L N) ∧ w' = W) := fun W => Truncate_calls u L N HU.out HR.out hLl hn65 W
   clear hd hc hn0 hn1
   go_wp2_with fail
   refine (HT.out _).mono ?_
   rintro e w8 ⟨u', rfl, hu', rfl⟩
   have HU' := Lib.hid hu'
   clear hu'
   go_wp2_with fail
   go_ret2
   exact ⟨_, by rw [HD.out]; rfl, HU'.out.cast (by rw [if_neg (by omega)]; rfl), HB.out⟩
  ·have g1 : decide (N < u.size) = false := decide_eq_false hc
   have hd : decide (0 ≤ (N : Int) ∧ (N : Int) < (L.length : Int)) = false := decide_eq_false (fun h => hc (by have := HSZ.out; omega))
   have HD := Lib.hid hd
   have HC : Hid (L.length ≤ N) := by show _ ≤ _; rw [← HSZ.out]; omega
   clear hd hc hn0 hn1
   go_wp2_with fail
   go_ret2
   exact ⟨_, by rw [HD.out]; rfl, HU.out.cast (by rw [if_neg (by omega)]; exact (cutL_all HC.out).symm), HB.out⟩
end Go.Proofs.YtkeakdjbidbegaaGreatDoor
