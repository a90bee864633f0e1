/- A part of the proof that laws.FnTextElement returns true at every input: Svnc, Svne. -/
import Derived.Test.YtkeakdjbidbegaaGreatDoorK
set_option linter.unusedSimpArgs false
set_option linter.unusedVariables false
set_option maxRecDepth 100000
set_option maxHeartbeats 8000000
namespace Go.Proofs.YtkeakdjbidbegaaGreatDoor
open Go.RowKit
open Go.Proofs.YtkeakdjbidbegaaGreatDoorW.PrintWords
theorem StringN_1 {Vd v : Value} {x : List Int} {w : World} (hOK : ∀ W, Below w.heap.size w W → Calls Tryz.prog 68 #[.agg #[.int .u8 1, v]] W (OkAns (Vd) W)) (hF0 : ∀ W, Below w.heap.size w W → Calls Tryz.prog 69 #[Vd] W (TxtIs x W)) (hl0 : x.length ≤ 10000000) (n : Int) (hn : n = -1 ∨ (0 ≤ n ∧ n ≤ 65535)) (hr : ∀ z ∈ ([123, 34, 36, 110, 117, 109, 98, 101, 114, 68, 111, 117, 98, 108, 101, 34, 58, 34] ++ x ++ [34, 125] : List Int), (0 : Int) ≤ z ∧ z ≤ 255) :
  Calls Tryz.prog 36 #[.agg #[.int .u8 1, v], .int .i64 n] w (StrN ([123, 34, 36, 110, 117, 109, 98, 101, 114, 68, 111, 117, 98, 108, 101, 34, 58, 34] ++ x ++ [34, 125]) n w) := by
 have HB1 : Hid (Below w.heap.size w (w.alloc (.cells #[.int .u8 1, v] 67))) := (Below.refl _ _).alloc (Nat.le_refl _) _
 obtain ⟨L, hL⟩ : ∃ L : List Int, ([123, 34, 36, 110, 117, 109, 98, 101, 114, 68, 111, 117, 98, 108, 101, 34, 58, 34] ++ x ++ [34, 125] : List Int) = L := ⟨_, rfl⟩
 rw [hL] at hr ⊢
 have hLl : L.length ≤ 100000000 := by rw [← hL]; first | omega | decide | (simp; omega)
 have HL := Lib.hid hL
 have HR := Lib.hid hr
 clear hL hr
 have HOK := Lib.hid hOK
 clear hOK
 have HF0 := Lib.hid hF0
 clear hF0
 go_enter Tryz.func36, Tryz.ntmps36
 go_upto_block 0 with fail
 go_cut [6] from 7 to 304 (fun s6 wx => ∃ u, s6 = .string u ∧ Hid (StrIs u L) ∧ Hid (Below w.heap.size w wx))
 case first =>
  go_wp2_with fail
  refine (HOK.out _ HB1.out).mono ?_
  rintro e w2 ⟨rfl, hw⟩
  have HB2 := Lib.hid (HB1.out.trans (hw.mono HB1.out.size))
  clear hw
  go_wp2_with fail
  refine (HF0.out _ HB2.out).mono ?_
  rintro e w3 ⟨⟨u0, rfl, hu0⟩, hw⟩
  have HB3 := Lib.hid (HB2.out.trans (hw.mono HB2.out.size))
  have HU0 := Lib.hid hu0
  have hs0 : u0.size ≤ 10000000 := by rw [hu0.size]; exact hl0
  clear hw hu0
  go_wp2_with fail
  go_meet
  exact ⟨_, rfl, by show StrIs _ _; rw [← HL.out]; exact (((StrIs.of [123, 34, 36, 110, 117, 109, 98, 101, 114, 68, 111, 117, 98, 108, 101, 34, 58, 34]).append HU0.out).append (StrIs.of [34, 125])), Lib.hid HB3.out⟩
 obtain ⟨u, rfl, HU, HB⟩ := hcut
 clear HL HB1 HOK HF0 hl0
 have hsz : u.size = L.length := HU.out.size
 have hus : u.size ≤ 100000000 := by rw [hsz]; exact hLl
 have HSZ := Lib.hid hsz
 clear hsz
 rcases hn with rfl | ⟨hn0, hn1⟩
 ·go_wp2_with fail
  go_ret2
  exact ⟨_, rfl, HU.out, HB.out⟩
 ·obtain ⟨N, rfl⟩ : ∃ N : Nat, n = N := ⟨n.toNat, by omega⟩
  have g0 : decide ((0 : Int) ≤ N) = true := decide_eq_true hn0
  have hn65 : N ≤ 65535 := by omega
  by_cases hc : N < u.size
  ·have g1 : decide (N < u.size) = true := decide_eq_true hc
   have hd : decide (0 ≤ (N : Int) ∧ (N : Int) < (L.length : Int)) = true := decide_eq_true ⟨hn0, by rw [← HSZ.out]; omega⟩
   have HD := Lib.hid hd
   have HT : Hid (∀ W, Calls Tryz.prog 33 #[.string u, .int .i64 N] W fun e w' => ∃ u', e = .returned (.string u') ∧ StrIs u' (cutL L N) ∧ w' = W) := fun W => Truncate_calls u L N HU.out HR.out hLl hn65 W
   clear hd hc hn0 hn1
   go_wp2_with fail
   refine (HT.out _).mono ?_
   rintro e w8 ⟨u', rfl, hu', rfl⟩
   have HU' := Lib.hid hu'
   clear hu'
   go_wp2_with fail
   go_ret2
   exact ⟨_, by rw [HD.out]; rfl, HU'.out.cast (by rw [if_neg (by omega)]; rfl), HB.out⟩
  ·have g1 : decide (N < u.size) = false := decide_eq_false hc
   have hd : decide (0 ≤ (N : Int) ∧ (N : Int) < (L.length : Int)) = false := decide_eq_false (fun h => hc (by have := HSZ.out; omega))
   have HD := Lib.hid hd
   have HC : Hid (L.length ≤ N) := by show _ ≤ _; rw [← HSZ.out]; omega
   clear hd hc hn0 hn1
   go_wp2_with fail
   go_ret2
   exact ⟨_, by rw [HD.out]; rfl, HU.out.cast (by rw [if_neg (by omega)]; exact (cutL_all HC.out).symm), HB.out⟩
theorem StringN_2 {s : ByteArray} {v : Value} {x : List Int} {w : World} (hOK : ∀ W, Below w.heap.size w W → Calls Tryz.prog 35 #[.agg #[.int .u8 2, v]] W (OkAns (.string s) W)) (hF0 : ∀ W, Below w.heap.size w W → Calls Tryz.prog 65 #[.string s] W (TxtIs x W)) (hl0 : x.length ≤ 10000000) (n : Int) (hn : n = -1 ∨ (0 ≤ n ∧ n ≤ 65535)) (hr : ∀ z ∈ (x : List Int), (0 : Int) ≤ z ∧ z ≤ 255) :
  Calls Tryz.prog 36 #[.agg #[.int .u8 2, v], .int .i64 n] w (StrN (x) n w) := by
 have HB1 : Hid (Below w.heap.size w (w.alloc (.cells #[.int .u8 2, v] 67))) := (Below.refl _ _).alloc (Nat.le_refl _) _
 obtain ⟨L, hL⟩ : ∃ L : List Int, (x : List Int) = L := ⟨_, rfl⟩
 rw [hL] at hr ⊢
 have hLl : L.length ≤ 100000000 := by rw [← hL]; first | omega | decide | (simp; omega)
 have HL := Lib.hid hL
 have HR := Lib.hid hr
 clear hL hr
 have HOK := Lib.hid hOK
 clear hOK
 have HF0 := Lib.hid hF0
 clear hF0
 go_enter Tryz.func36, Tryz.ntmps36
 go_upto_block 0 with fail
 go_cut [6] from 7 to 304 (fun s6 wx => ∃ u, s6 = .string u ∧ Hid (StrIs u L) ∧ Hid (Below w.heap.size w wx))
 case first =>
  go_wp2_with fail
  refine (HOK.out _ HB1.out).mono ?_
  rintro e w2 ⟨rfl, hw⟩
  have HB2 := Lib.hid (HB1.out.trans (hw.mono HB1.out.size))
  clear hw
  go_wp2_with fail
  refine (HF0.out _ HB2.out).mono ?_
  rintro e w3 ⟨⟨u0, rfl, hu0⟩, hw⟩
  have HB3 := Lib.hid (HB2.out.trans (hw.mono HB2.out.size))
  have HU0 := Lib.hid hu0
  have hs0 : u0.size ≤ 10000000 := by rw [hu0.size]; exact hl0
  clear hw hu0
  go_wp2_with fail
  go_meet
  exact ⟨_, rfl, by show StrIs _ _; rw [← HL.out]; exact HU0.out, Lib.hid HB3.out⟩
 obtain ⟨u, rfl, HU, HB⟩ := hcut
 clear HL HB1 HOK HF0 hl0
 have hsz : u.size = L.length := HU.out.size
 have hus : u.size ≤ 100000000 := by rw [hsz]; exact hLl
 have HSZ := Lib.hid hsz
 clear hsz
 rcases hn with rfl | ⟨hn0, hn1⟩
 ·go_wp2_with fail
  go_ret2
  exact ⟨_, rfl, HU.out, HB.out⟩
 ·obtain ⟨N, rfl⟩ : ∃ N : Nat, n = N := ⟨n.toNat, by omega⟩
  have g0 : decide ((0 : Int) ≤ N) = true := decide_eq_true hn0
  have hn65 : N ≤ 65535 := by omega
  by_cases hc : N < u.size
  ·have g1 : decide (N < u.size) = true := decide_eq_true hc
   have hd : decide (0 ≤ (N : Int) ∧ (N : Int) < (L.length : Int)) = true := decide_eq_true ⟨hn0, by rw [← HSZ.out]; omega⟩
   have HD := Lib.hid hd
   have HT : Hid (∀ W, Calls Tryz.prog 33 #[.string u, .int .i64 N] W fun e w' => ∃ u', e = .returned (.string u') ∧ StrIs u' (cutL L N) ∧ w' = W) := fun W => Truncate_calls u L N HU.out HR.out hLl hn65 W
   clear hd hc hn0 hn1
   go_wp2_with fail
   refine (HT.out _).mono ?_
   rintro e w8 ⟨u', rfl, hu', rfl⟩
   have HU' := Lib.hid hu'
   clear hu'
   go_wp2_with fail
   go_ret2
   exact ⟨_, by rw [HD.out]; rfl, HU'.out.cast (by rw [if_neg (by omega)]; rfl), HB.out⟩
  ·have g1 : decide (N < u.size) = false := decide_eq_false hc
   have hd : decide (0 ≤ (N : Int) ∧ (N : Int) < (L.length : Int)) = false := decide_eq_false (fun h => hc (by have := HSZ.out; omega))
   have HD := Lib.hid hd
   have HC : Hid (L.length ≤ N) := by show _ ≤ _; rw [← HSZ.out]; omega
   clear hd hc hn0 hn1
   go_wp2_with fail
   go_ret2
   exact ⟨_, by rw [HD.out]; rfl, HU.out.cast (by rw [if_neg (by omega)]; exact (cutL_all HC.out).symm), HB.out⟩
theorem StringN_13 {s : ByteArray} {v : Value} {x : List Int} {w : World} (hOK : ∀ W, Below w.heap.size w W → Calls Tryz.prog 81 #[.agg #[.int .u8 13, v]] W (OkAns (.string s) W)) (hF0 : ∀ W, Below w.heap.size w W → Calls Tryz.prog 65 #[.string s] W (TxtIs x W)) (hl0 : x.length ≤ 10000000) (n : Int) (hn : n = -1 ∨ (0 ≤ n ∧ n ≤ 65535)) (hr : ∀ z ∈ ([123, 34, 36, 99, 111, 100, 101, 34, 58] ++ x ++ [125] : List Int), (0 : Int) ≤ z ∧ z ≤ 255) :
  Calls Tryz.prog 36 #[.agg #[.int .u8 13, v], .int .i64 n] w (StrN ([123, 34, 36, 99, 111, 100, 101, 34, 58] ++ x ++ [125]) n w) := by
 have HB1 : Hid (Below w.heap.size w (w.alloc (.cells #[.int .u8 13, v] 67))) := (Below.refl _ _).alloc (Nat.le_refl _) _
 obtain ⟨L, hL⟩ : ∃ L : List Int, ([123, 34, 36, 99, 111, 100, 101, 34, 58] ++ x ++ [125] : List Int) = L := ⟨_, rfl⟩
 rw [hL] at hr ⊢
 have hLl : L.length ≤ 100000000 := by rw [← hL]; first | omega | decide | (simp; omega)
 have HL := Lib.hid hL
 have HR := Lib.hid hr
 clear hL hr
 have HOK := Lib.hid hOK
 clear hOK
 have HF0 := Lib.hid hF0
 clear hF0
 go_enter Tryz.func36, Tryz.ntmps36
 go_upto_block 0 with fail
 go_cut [6] from 7 to 304 (fun s6 wx => ∃ u, s6 = .string u ∧ Hid (StrIs u L) ∧ Hid (Below w.heap.size w wx))
 case first =>
  go_wp2_with fail
  refine (HOK.out _ HB1.out).mono ?_
  rintro e w2 ⟨rfl, hw⟩
  have HB2 := Lib.hid (HB1.out.trans (hw.mono HB1.out.size))
  clear hw
  go_wp2_with fail
  refine (HF0.out _ HB2.out).mono ?_
  rintro e w3 ⟨⟨u0, rfl, hu0⟩, hw⟩
  have HB3 := Lib.hid (HB2.out.trans (hw.mono HB2.out.size))
  have HU0 := Lib.hid hu0
  have hs0 : u0.size ≤ 10000000 := by rw [hu0.size]; exact hl0
  clear hw hu0
  go_wp2_with fail
  go_meet
  exact ⟨_, rfl, by show StrIs _ _; rw [← HL.out]; exact (((StrIs.of [123, 34, 36, 99, 111, 100, 101, 34, 58]).append HU0.out).append (StrIs.of [125])), Lib.hid HB3.out⟩
 obtain ⟨u, rfl, HU, HB⟩ := hcut
 clear HL HB1 HOK HF0 hl0
 have hsz : u.size = L.length := HU.out.size
 have hus : u.size ≤ 100000000 := by rw [hsz]; exact hLl
 have HSZ := Lib.hid hsz
 clear hsz
 rcases hn with rfl | ⟨hn0, hn1⟩
 ·go_wp2_with fail
  go_ret2
  exact ⟨_, rfl, HU.out, HB.out⟩
 ·obtain ⟨N, rfl⟩ : ∃ N : Nat, n = N := ⟨n.toNat, by omega⟩
  have g0 : decide ((0 : Int) ≤ N) = true := decide_eq_true hn0
  have hn65 : N ≤ 65535 := by omega
  by_cases hc : N < u.size
  ·have g1 : decide (N < u.size) = true := decide_eq_true hc
   have hd : decide (0 ≤ (N : Int) ∧ (N : Int) < (L.length : Int)) = true := decide_eq_true ⟨hn0, by rw [← HSZ.out]; omega⟩
   have HD := Lib.hid hd
   have HT : Hid (∀ W, Calls Tryz.prog 33 #[.string u, .int .i64 N] W fun e w' => ∃ u', e = .returned (.string u') ∧ StrIs u' (cutL L N) ∧ w' = W) := fun W => Truncate_calls u L N HU.out HR.out hLl hn65 W
   clear hd hc hn0 hn1
   go_wp2_with fail
   refine (HT.out _).mono ?_
   rintro e w8 ⟨u', rfl, hu', rfl⟩
   have HU' := Lib.hid hu'
   clear hu'
   go_wp2_with fail
   go_ret2
   exact ⟨_, by rw [HD.out]; rfl, HU'.out.cast (by rw [if_neg (by omega)]; rfl), HB.out⟩
  ·have g1 : decide (N < u.size) = false := decide_eq_false hc
   have hd : decide (0 ≤ (N : Int) ∧ (N : Int) < (L.length : Int)) = false := decide_eq_false (fun h => hc (by have := HSZ.out; omega))
   have HD := Lib.hid hd
   have HC : Hid (L.length ≤ N) := by show _ ≤ _; rw [← HSZ.out]; omega
   clear hd hc hn0 hn1
   go_wp2_with fail
   go_ret2
   exact ⟨_, by rw [HD.out]; rfl, HU.out.cast (by rw [if_neg (by omega)]; exact (cutL_all HC.out).symm), HB.out⟩
theorem StringN_14 {s : ByteArray} {v : Value} {x : List Int} {w : World} (hOK : ∀ W, Below w.heap.size w W → Calls Tryz.prog 82 #[.agg #[.int .u8 14, v]] W (OkAns (.string s) W)) (hF0 : ∀ W, Below w.heap.size w W → Calls Tryz.prog 65 #[.string s] W (TxtIs x W)) (hl0 : x.length ≤ 10000000) (n : Int) (hn : n = -1 ∨ (0 ≤ n ∧ n ≤ 65535)) (hr : ∀ z ∈ ([123, 34, 36, 115, 121, 109, 98, 111, 108, 34, 58] ++ x ++ [125] : List Int), (0 : Int) ≤ z ∧ z ≤ 255) :
  Calls Tryz.prog 36 #[.agg #[.int .u8 14, v], .int .i64 n] w (StrN ([123, 34, 36, 115, 121, 109, 98, 111, 108, 34, 58] ++ x ++ [125]) n w) := by
 have HB1 : Hid (Below w.heap.size w (w.alloc (.cells #[.int .u8 14, v] 67))) := (Below.refl _ _).alloc (Nat.le_refl _) _
 obtain ⟨L, hL⟩ : ∃ L : List Int, ([123, 34, 36, 115, 121, 109, 98, 111, 108, 34, 58] ++ x ++ [125] : List Int) = L := ⟨_, rfl⟩
 rw [hL] at hr ⊢
 have hLl : L.length ≤ 100000000 := by rw [← hL]; first | omega | decide | (simp; omega)
 have HL := Lib.hid hL
 have HR := Lib.hid hr
 clear hL hr
 have HOK := Lib.hid hOK
 clear hOK
 have HF0 := Lib.hid hF0
 clear hF0
 go_enter Tryz.func36, Tryz.ntmps36
 go_upto_block 0 with fail
 go_cut [6] from 7 to 304 (fun s6 wx => ∃ u, s6 = .string u ∧ Hid (StrIs u L) ∧ Hid (Below w.heap.size w wx))
 case first =>
  go_wp2_with fail
  refine (HOK.out _ HB1.out).mono ?_
  rintro e w2 ⟨rfl, hw⟩
  have HB2 := Lib.hid (HB1.out.trans (hw.mono HB1.out.size))
  clear hw
  go_wp2_with fail
  refine (HF0.out _ HB2.out).mono ?_
  rintro e w3 ⟨⟨u0, rfl, hu0⟩, hw⟩
  have HB3 := Lib.hid (HB2.out.trans (hw.mono HB2.out.size))
  have HU0 := Lib.hid hu0
  have hs0 : u0.size ≤ 10000000 := by rw [hu0.size]; exact hl0
  clear hw hu0
  go_wp2_with fail
  go_meet
  exact ⟨_, rfl, by show StrIs _ _; rw [← HL.out]; exact (((StrIs.of [123, 34, 36, 115, 121, 109, 98, 111, 108, 34, 58]).append HU0.out).append (StrIs.of [125])), Lib.hid HB3.out⟩
 obtain ⟨u, rfl, HU, HB⟩ := hcut
 clear HL HB1 HOK HF0 hl0
 have hsz : u.size = L.length := HU.out.size
 have hus : u.size ≤ 100000000 := by rw [hsz]; exact hLl
 have HSZ := Lib.hid hsz
 clear hsz
 rcases hn with rfl | ⟨hn0, hn1⟩
 ·go_wp2_with fail
  go_ret2
  exact ⟨_, rfl, HU.out, HB.out⟩
 ·obtain ⟨N, rfl⟩ : ∃ N : Nat, n = N := ⟨n.toNat, by omega⟩
  have g0 : decide ((0 : Int) ≤ N) = true := decide_eq_true hn0
  have hn65 : N ≤ 65535 := by omega
  by_cases hc : N < u.size
  ·have g1 : decide (N < u.size) = true := decide_eq_true hc
   have hd : decide (0 ≤ (N : Int) ∧ (N : Int) < (L.length : Int)) = true := decide_eq_true ⟨hn0, by rw [← HSZ.out]; omega⟩
   have HD := Lib.hid hd
   have HT : Hid (∀ W, Calls Tryz.prog 33 #[.string u, .int .i64 N] W fun e w' => ∃ u', e = .returned (.string u') ∧ StrIs u' (cutL L N) ∧ w' = W) := fun W => Truncate_calls u L N HU.out HR.out hLl hn65 W
   clear hd hc hn0 hn1
   go_wp2_with fail
   refine (HT.out _).mono ?_
   rintro e w8 ⟨u', rfl, hu', rfl⟩
   have HU' := Lib.hid hu'
   clear hu'
   go_wp2_with fail
   go_ret2
   exact ⟨_, by rw [HD.out]; rfl, HU'.out.cast (by rw [if_neg (by omega)]; rfl), HB.out⟩
  ·have g1 : decide (N < u.size) = false := decide_eq_false hc
   have hd : decide (0 ≤ (N : Int) ∧ (N : Int) < (L.length : Int)) = false := decide_eq_false (fun h => hc (by have := HSZ.out; omega))
   have HD := Lib.hid hd
   have HC : Hid (L.length ≤ N) := by show _ ≤ _; rw [← HSZ.out]; omega
   clear hd hc hn0 hn1
   go_wp2_with fail
   go_ret2
   exact ⟨_, by rw [HD.out]; rfl, HU.out.cast (by rw [if_neg (by omega)]; exact (cutL_all HC.out).symm), HB.out⟩
theorem StringN_5 {p : Int} {b0 o0 m : Nat} {v : Value} {x y : List Int} {w : World} (hOK : ∀ W, Below w.heap.size w W → Calls Tryz.prog 70 #[.agg #[.int .u8 5, v]] W fun e w' => ∃ o' C, e = .returned (.tuple #[.int .u8 p, .slice (some ⟨b0, o', none⟩) m C, .bool true]) ∧ (m = 0 ∨ o' = o0) ∧ m ≤ C ∧ C ≤ maxLen ∧ Below W.heap.size W w') (hF0 : ∀ W o' C, Below w.heap.size w W → (m = 0 ∨ o' = o0) → m ≤ C → C ≤ maxLen → Calls Tryz.prog 71 #[.slice (some ⟨b0, o', none⟩) m C] W (TxtIs x W)) (hl0 : x.length ≤ 10000000) (hF1 : ∀ W, Below w.heap.size w W → Calls Tryz.prog 72 #[.int .u8 p] W (TxtIs y W)) (hl1 : y.length ≤ 10000000) (n : Int) (hn : n = -1 ∨ (0 ≤ n ∧ n ≤ 65535)) (hr : ∀ z ∈ ([123, 34, 36, 98, 105, 110, 97, 114, 121, 34, 58, 123, 34, 98, 97, 115, 101, 54, 52, 34, 58, 34] ++ x ++ [34, 44, 34, 115, 117, 98, 84, 121, 112, 101, 34, 58, 34] ++ y ++ [34, 125, 125] : List Int), (0 : Int) ≤ z ∧ z ≤ 255) :
  Calls Tryz.prog 36 #[.agg #[.int .u8 5, v], .int .i64 n] w (StrN ([123, 34, 36, 98, 105, 110, 97, 114, 121, 34, 58, 123, 34, 98, 97, 115, 101, 54, 52, 34, 58, 34] ++ x ++ [34, 44, 34, 115, 117, 98, 84, 121, 112, 101, 34, 58, 34] ++ y ++ [34, 125, 125]) n w) := by
 have HB1 : Hid (Below w.heap.size w (w.alloc (.cells #[.int .u8 5, v] 67))) := (Below.refl _ _).alloc (Nat.le_refl _) _
 obtain ⟨L, hL⟩ : ∃ L : List Int, ([123, 34, 36, 98, 105, 110, 97, 114, 121, 34, 58, 123, 34, 98, 97, 115, 101, 54, 52, 34, 58, 34] ++ x ++ [34, 44, 34, 115, 117, 98, 84, 121, 112, 101, 34, 58, 34] ++ y ++ [34, 125, 125] : List Int) = L := ⟨_, rfl⟩
 rw [hL] at hr ⊢
 have hLl : L.length ≤ 100000000 := by rw [← hL]; first | omega | decide | (simp; omega)
 have HL := Lib.hid hL
 have HR := Lib.hid hr
 clear hL hr
 have HOK := Lib.hid hOK
 clear hOK
 have HF0 := Lib.hid hF0
 clear hF0
 have HF1 := Lib.hid hF1
 clear hF1
 go_enter Tryz.func36, Tryz.ntmps36
 go_upto_block 0 with fail
 go_cut [6] from 7 to 304 (fun s6 wx => ∃ u, s6 = .string u ∧ Hid (StrIs u L) ∧ Hid (Below w.heap.size w wx))
 case first =>
  go_wp2_with fail
  refine (HOK.out _ HB1.out).mono ?_
  rintro e w2 ⟨o', C, rfl, q1, q2, q3, hw⟩
  have HQ := Lib.hid (And.intro q1 (And.intro q2 q3))
  clear q1 q2 q3
  have HB2 := Lib.hid (HB1.out.trans (hw.mono HB1.out.size))
  clear hw
  go_wp2_with fail
  refine (HF0.out _ _ _ HB2.out HQ.out.1 HQ.out.2.1 HQ.out.2.2).mono ?_
  rintro e w3 ⟨⟨u0, rfl, hu0⟩, hw⟩
  have HB3 := Lib.hid (HB2.out.trans (hw.mono HB2.out.size))
  have HU0 := Lib.hid hu0
  have hs0 : u0.size ≤ 10000000 := by rw [hu0.size]; exact hl0
  clear hw hu0
  go_wp2_with fail
  refine (HF1.out _ HB3.out).mono ?_
  rintro e w4 ⟨⟨u1, rfl, hu1⟩, hw⟩
  have HB4 := Lib.hid (HB3.out.trans (hw.mono HB3.out.size))
  have HU1 := Lib.hid hu1
  have hs1 : u1.size ≤ 10000000 := by rw [hu1.size]; exact hl1
  clear hw hu1
  go_wp2_with fail
  go_meet
  exact ⟨_, rfl, by show StrIs _ _; rw [← HL.out]; exact (((((StrIs.of [123, 34, 36, 98, 105, 110, 97, 114, 121, 34, 58, 123, 34, 98, 97, 115, 101, 54, 52, 34, 58, 34]).append HU0.out).append (StrIs.of [34, 44, 34, 115, 117, 98, 84, 121, 112, 101, 34, 58, 34])).append HU1.out).append (StrIs.of [34, 125, 125])), Lib.hid HB4.out⟩
 obtain ⟨u, rfl, HU, HB⟩ := hcut
 clear HL HB1 HOK HF0 hl0 HF1 hl1
 have hsz : u.size = L.length := HU.out.size
 have hus : u.size ≤ 100000000 := by rw [hsz]; exact hLl
 have HSZ := Lib.hid hsz
 clear hsz
 rcases hn with rfl | ⟨hn0, hn1⟩
 ·go_wp2_with fail
  go_ret2
  exact ⟨_, rfl, HU.out, HB.out⟩
 ·obtain ⟨N, rfl⟩ : ∃ N : Nat, n = N := ⟨n.toNat, by omega⟩
  have g0 : decide ((0 : Int) ≤ N) = true := decide_eq_true hn0
  have hn65 : N ≤ 65535 := by omega
  by_cases hc : N < u.size
  ·have g1 : decide (N < u.size) = true := decide_eq_true hc
   have hd : decide (0 ≤ (N : Int) ∧ (N : Int) < (L.length : Int)) = true := decide_eq_true ⟨hn0, by rw [← HSZ.out]; omega⟩
   have HD := Lib.hid hd
   have HT : Hid (∀ W, Calls Tryz.prog 33 #[.string u, .int .i64 N] W fun e w' => ∃ u', e = .returned (.string u') ∧ StrIs u' (cutL L N) ∧ w' = W) := fun W => Truncate_calls u L N HU.out HR.out hLl hn65 W
   clear hd hc hn0 hn1
   go_wp2_with fail
   refine (HT.out _).mono ?_
   rintro e w8 ⟨u', rfl, hu', rfl⟩
   have HU' := Lib.hid hu'
   clear hu'
   go_wp2_with fail
   go_ret2
   exact ⟨_, by rw [HD.out]; rfl, HU'.out.cast (by rw [if_neg (by omega)]; rfl), HB.out⟩
  ·have g1 : decide (N < u.size) = false := decide_eq_false hc
   have hd : decide (0 ≤ (N : Int) ∧ (N : Int) < (L.length : Int)) = false := decide_eq_false (fun h => hc (by have := HSZ.out; omega))
   have HD := Lib.hid hd
   have HC : Hid (L.length ≤ N) := by show _ ≤ _; rw [← HSZ.out]; omega
   clear hd hc hn0 hn1
   go_wp2_with fail
   go_ret2
   exact ⟨_, by rw [HD.out]; rfl, HU.out.cast (by rw [if_neg (by omega)]; exact (cutL_all HC.out).symm), HB.out⟩
theorem StringN_7 {x0 x1 x2 x3 x4 x5 x6 x7 x8 x9 x10 x11 : Int} {v : Value} {x : List Int} {w : World} (hOK : ∀ W, Below w.heap.size w W → Calls Tryz.prog 73 #[.agg #[.int .u8 7, v]] W (OkAns (.agg #[.int .u8 x0, .int .u8 x1, .int .u8 x2, .int .u8 x3, .int .u8 x4, .int .u8 x5, .int .u8 x6, .int .u8 x7, .int .u8 x8, .int .u8 x9, .int .u8 x10, .int .u8 x11]) W)) (hF0 : ∀ W, Below w.heap.size w W → Calls Tryz.prog 74 #[.agg #[.int .u8 x0, .int .u8 x1, .int .u8 x2, .int .u8 x3, .int .u8 x4, .int .u8 x5, .int .u8 x6, .int .u8 x7, .int .u8 x8, .int .u8 x9, .int .u8 x10, .int .u8 x11]] W (TxtIs x W)) (hl0 : x.length ≤ 10000000) (n : Int) (hn : n = -1 ∨ (0 ≤ n ∧ n ≤ 65535)) (hr : ∀ z ∈ ([123, 34, 36, 111, 105, 100, 34, 58, 34] ++ x ++ [34, 125] : List Int), (0 : Int) ≤ z ∧ z ≤ 255) :
  Calls Tryz.prog 36 #[.agg #[.int .u8 7, v], .int .i64 n] w (StrN ([123, 34, 36, 111, 105, 100, 34, 58, 34] ++ x ++ [34, 125]) n w) := by
 have HB1 : Hid (Below w.heap.size w (w.alloc (.cells #[.int .u8 7, v] 67))) := (Below.refl _ _).alloc (Nat.le_refl _) _
 obtain ⟨L, hL⟩ : ∃ L : List Int, ([123, 34, 36, 111, 105, 100, 34, 58, 34] ++ x ++ [34, 125] : List Int) = L := ⟨_, rfl⟩
 rw [hL] at hr ⊢
 have hLl : L.length ≤ 100000000 := by rw [← hL]; first | omega | decide | (simp; omega)
 have HL := Lib.hid hL
 have HR := Lib.hid hr
 clear hL hr
 have HOK := Lib.hid hOK
 clear hOK
 have HF0 := Lib.hid hF0
 clear hF0
 go_enter Tryz.func36, Tryz.ntmps36
 go_upto_block 0 with fail
 go_cut [6] from 7 to 304 (fun s6 wx => ∃ u, s6 = .string u ∧ Hid (StrIs u L) ∧ Hid (Below w.heap.size w wx))
 case first =>
  go_wp2_with fail
  refine (HOK.out _ HB1.out).mono ?_
  rintro e w2 ⟨rfl, hw⟩
  have HB2 := Lib.hid (HB1.out.trans (hw.mono HB1.out.size))
  clear hw
  have HBA := fun o => HB2.out.alloc HB2.out.size o
  go_wp2_with fail
  refine (HF0.out _ (HBA _)).mono ?_
  rintro e w3 ⟨⟨u0, rfl, hu0⟩, hw⟩
  have HB3 := Lib.hid ((HBA _).trans (hw.mono (HBA _).size))
  have HU0 := Lib.hid hu0
  have hs0 : u0.size ≤ 10000000 := by rw [hu0.size]; exact hl0
  clear hw hu0
  go_wp2_with fail
  go_meet
  exact ⟨_, rfl, by show StrIs _ _; rw [← HL.out]; exact (((StrIs.of [123, 34, 36, 111, 105, 100, 34, 58, 34]).append HU0.out).append (StrIs.of [34, 125])), Lib.hid HB3.out⟩
 obtain ⟨u, rfl, HU, HB⟩ := hcut
 clear HL HB1 HOK HF0 hl0
 have hsz : u.size = L.length := HU.out.size
 have hus : u.size ≤ 100000000 := by rw [hsz]; exact hLl
 have HSZ := Lib.hid hsz
 clear hsz
 rcases hn with rfl | ⟨hn0, hn1⟩
 ·go_wp2_with fail
  go_ret2
  exact ⟨_, rfl, HU.out, HB.out⟩
 ·obtain ⟨N, rfl⟩ : ∃ N : Nat, n = N := ⟨n.toNat, by omega⟩
  have g0 : decide ((0 : Int) ≤ N) = true := decide_eq_true hn0
  have hn65 : N ≤ 65535 := by omega
  by_cases hc : N < u.size
  ·have g1 : decide (N < u.size) = true := decide_eq_true hc
   have hd : decide (0 ≤ (N : Int) ∧ (N : Int) < (L.length : Int)) = true := decide_eq_true ⟨hn0, by rw [← HSZ.out]; omega⟩
   have HD := Lib.hid hd
   have HT : Hid (∀ W, Calls Tryz.prog 33 #[.string u, .int .i64 N] W fun e w' => ∃ u', e = .returned (.string u') ∧ StrIs u' (cutL L N) ∧ w' = W) := fun W => Truncate_calls u L N HU.out HR.out hLl hn65 W
   clear hd hc hn0 hn1
   go_wp2_with fail
   refine (HT.out _).mono ?_
   rintro e w8 ⟨u', rfl, hu', rfl⟩
   have HU' := Lib.hid hu'
   clear hu'
   go_wp2_with fail
   go_ret2
   exact ⟨_, by rw [HD.out]; rfl, HU'.out.cast (by rw [if_neg (by omega)]; rfl), HB.out⟩
  ·have g1 : decide (N < u.size) = false := decide_eq_false hc
   have hd : decide (0 ≤ (N : Int) ∧ (N : Int) < (L.length : Int)) = false := decide_eq_false (fun h => hc (by have := HSZ.out; omega))
   have HD := Lib.hid hd
   have HC : Hid (L.length ≤ N) := by show _ ≤ _; rw [← HSZ.out]; omega
   clear hd hc hn0 hn1
   go_wp2_with fail
   go_ret2
   exact ⟨_, by rw [HD.out]; rfl, HU.out.cast (by rw [if_neg (by omega)]; exact (cutL_all HC.out).symm), HB.out⟩
end Go.Proofs.YtkeakdjbidbegaaGreatDoor
