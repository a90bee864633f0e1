/- A part of the proof that laws.FnTextElement returns true at every input: Numx, Open, Fd, Fdx, Ftoa, Ftoax, Dblx, Cut, Pd, Plan. -/
import Derived.Test.YtkeakdjbidbegaaGreatDoorB
import Derived.Test.YtkeakdjbidbegaaGreatDoorC
import Derived.Test.YtkeakdjbidbegaaGreatDoorA
import Derived.Test.YtkeakdjbidbegaaGreatDoorG
import Derived.Lib.AppendIntMem
import Derived.Lib.ItoaLen
import Derived.Lib.ItoaMem
import Derived.ProofKit
import Derived.OpenShut
import Derived.Test.YtkeakdjbidbegaaGreatDoorF
import Derived.BigQuiet
import Derived.Deep.RegionHeld3
import Derived.Deep.DeepMust
set_option linter.unusedSimpArgs false
set_option linter.unusedVariables false
set_option maxRecDepth 100000
set_option maxHeartbeats 8000000
namespace Go.Proofs.YtkeakdjbidbegaaGreatDoor
open Go.RowKit
open Go.Proofs.YtkeakdjbidbegaaGreatDoorW.PrintWords
abbrev Pow10W (w : World) : Prop := Lib.TabIs Tryz.prog w "internal/strconv.uint64pow10" .u64 Lib.pow10Tab
structure TxtIs (l : List Int) (w : World) (e : Ending) (w' : World) : Prop where
 out : ∃ u, e = .returned (.string u) ∧ StrIs u l
 below : Below w.heap.size w w'
theorem decDigits_digs (k : Nat) : ∀ n : Nat, n ≤ k → (Lib.decDigits n).map (fun b => (b.toNat : Int)) = digs n := by
 induction k with
 | zero =>
  intro n hn
  obtain rfl : n = 0 := by omega
  rw [Lib.decDigits_one (by omega), digs_small (by omega)]
  rfl
 | succ k ih =>
  intro n hn
  by_cases h : n < 10
  ·rw [Lib.decDigits_one h, digs_small h]
   show [((UInt8.ofNat (48 + n)).toNat : Int)] = _
   rw [UInt8.toNat_ofNat_of_lt' (by show _ < 256; omega)]
   simp
  ·rw [Lib.decDigits, dif_neg h, List.map_append, ih (n / 10) (by omega), digs_big (n := n) (by omega)]
   congr 1
   show [((UInt8.ofNat (48 + n % 10)).toNat : Int)] = _
   rw [UInt8.toNat_ofNat_of_lt' (by show _ < 256; omega)]
   simp
theorem strIs_arr (l : List UInt8) : StrIs ⟨l.toArray⟩ (l.map fun b => (b.toNat : Int)) := strIs_bytes ⟨l.toArray⟩
theorem strIs_digs (u : Nat) : StrIs ⟨(Lib.decDigits u).toArray⟩ (digs u) := (strIs_arr _).cast (decDigits_digs u u (Nat.le_refl _))
theorem itoa_numF (n : Int) : (Lib.itoa n).map (fun b => (b.toNat : Int)) = numF n := by
 unfold Lib.itoa numF
 by_cases h : n < 0
 ·rw [if_pos h, if_pos h, List.map_cons, decDigits_digs _ _ (Nat.le_refl _)]
  congr 2
  omega
 ·rw [if_neg h, if_neg h, decDigits_digs _ _ (Nat.le_refl _)]
theorem strIs_itoa (n : Int) : StrIs ⟨(Lib.itoa n).toArray⟩ (numF n) := (strIs_arr _).cast (itoa_numF n)
theorem FormatInt_calls (n : Int) (h0 : -9223372036854775808 ≤ n) (h1 : n ≤ 9223372036854775807) (w : World) (ht : Pow10W w) :
  Calls Tryz.prog 55 #[.int .i64 n, .int .i64 10] w (TxtIs (numF n) w) :=
 (Tryz.strconv_FormatInt_10 n h0 h1 w ht).mono fun e w' ⟨he, k, os, hw⟩ => ⟨⟨_, he, strIs_itoa n⟩, by subst hw; exact Lib.below_grow _ w (Nat.le_refl _) k os⟩
theorem iFormatUint_calls (u : Nat) (hu : u < 18446744073709551616) (w : World) (ht : Pow10W w) :
  Calls Tryz.prog 104 #[.int .u64 u, .int .i64 10] w (TxtIs (digs u) w) := by
 by_cases hs : u < 100
 ·have hw : IntKind.i64.wrap (u : Int) = u := by rw [IntKind.wrap_i64]; omega
  have hd : decide ((u : Int) < 100) = true := by simp; omega
  go_enter Tryz.func104, Tryz.ntmps104
  go_wp2_with fail
  refine (Tryz.internal_strconv_small u hs _).mono ?_
  rintro e w' ⟨rfl, rfl⟩
  go_wp2
  go_ret
  exact ⟨⟨_, rfl, strIs_digs u⟩, Below.refl _ _⟩
 ·have hd : decide ((u : Int) < 100) = false := by simp; omega
  have hu1 : 1 ≤ u := by omega
  have hnd20 : Lib.nDigits u ≤ 20 := by have := Lib.numDigits_eq u hu1 hu; split at this <;> omega
  have hH0 := Lib.holds_zero0 w 166 (Lib.nDigits u) (by omega)
  have hfmt := Tryz.internal_strconv_formatBase10 w.heap.size 0 24 u (Array.replicate (Lib.nDigits u) 0) (w.alloc (.cells Lib.zeros24 166)) hH0 (by rw [Array.size_replicate]; exact Lib.lt_pow_nDigits u) hu (by rw [Array.size_replicate]; omega)
  rw [Array.size_replicate] at hfmt
  have HH0 := Lib.hid hH0
  have HF := Lib.hid hfmt
  clear hH0 hfmt
  have hal : Tryz.prog.arrayLen 166 = 24 := by kernel_rfl
  have hsl : ∀ W, (Instr.sliceAt 166 (.pointer (some ⟨w.heap.size, 0, none⟩)) none (some (.int .i64 (Lib.nDigits u : Int))) none).run Tryz.prog W = .ok (.slice (some ⟨w.heap.size, 0, none⟩) (Lib.nDigits u) 24) W := fun W => by
   rw [run_sliceAt_array_h W 166 ⟨w.heap.size, 0, none⟩ (by kernel_rfl) .i64 (Lib.nDigits u : Int) (by omega) (by rw [hal]; omega)]
   go_simp
  clear hal
  have HT := Lib.hid ht
  clear ht
  obtain ⟨N, hN⟩ : ∃ N, N = Lib.nDigits u := ⟨_, rfl⟩
  have HNN := Lib.hid hN
  go_enter Tryz.func104, Tryz.ntmps104
  go_wp2_with fail
  refine (Tryz.internal_strconv_numDigits u hu1 hu _ (Lib.tabIs_alloc HT.out _)).mono ?_
  rintro e w' ⟨rfl, rfl⟩
  go_wp2_with fail
  refine HF.out.mono ?_
  rintro e w' ⟨rfl, k, v', dk, rfl, hF⟩
  have hcv : (convert 23 9 (.slice (some ⟨w.heap.size, 0, none⟩) (Lib.nDigits u) 24)).run Tryz.prog ((Sort.putRow (fun (b : UInt8) => Value.int .u8 (b.toNat : Int)) (w.alloc (.cells Lib.zeros24 166)) w.heap.size 0 dk).drewN k) = .ok (.string ⟨(Lib.decDigits u).toArray⟩) ((Sort.putRow (fun (b : UInt8) => Value.int .u8 (b.toNat : Int)) (w.alloc (.cells Lib.zeros24 166)) w.heap.size 0 dk).drewN k) := by
   have h := run_convert_bytes_back (P := Tryz.prog) ((Sort.putRow (fun (b : UInt8) => Value.int .u8 (b.toNat : Int)) (w.alloc (.cells Lib.zeros24 166)) w.heap.size 0 dk).drewN k) 23 9 5 ⟨w.heap.size, 0, none⟩ 24 (Lib.decDigits u) Tryz.underlying23 Tryz.underlying5 Tryz.underlying9 (fun j hj => by
    rw [Lib.row_is_numeral hF j hj, Lib.add_plain, World.cell?_drewN]
    have := Sort.cell?_putRow (fun (b : UInt8) => Value.int .u8 (b.toNat : Int)) _ w.heap.size 0 _ dk HH0.out (by rw [hF.size, Array.size_replicate]) j (by rw [hF.size]; rw [Lib.decDigits_length] at hj; exact hj)
    simpa using this)
   rw [Lib.decDigits_length] at h
   exact h
  have hlen := Lib.decDigits_length u
  go_wp2
  go_ret
  obtain ⟨os, eo⟩ := Lib.fin_at w (.cells Lib.zeros24 166) dk k 0
  exact ⟨⟨_, rfl, strIs_digs u⟩, by rw [eo]; exact Lib.below_grow _ w (Nat.le_refl _) k os⟩
theorem FormatUint_calls (u : Nat) (hu : u < 18446744073709551616) (w : World) (ht : Pow10W w) :
  Calls Tryz.prog 57 #[.int .u64 u, .int .i64 10] w (TxtIs (digs u) w) := by
 go_enter Tryz.func57, Tryz.ntmps57
 go_wp2_with fail
 refine (iFormatUint_calls u hu _ ht).mono ?_
 rintro e w1 ⟨⟨v, rfl, hv⟩, hb⟩
 go_wp2
 go_ret
 exact ⟨⟨_, rfl, hv⟩, hb⟩
end Go.Proofs.YtkeakdjbidbegaaGreatDoor
namespace Go.Proofs.YtkeakdjbidbegaaGreatDoor
open Go.RowKit Go.WideShapes
open Go.Proofs.YtkeakdjbidbegaaGreatDoorW.PrintWords
theorem list_of_all {α : Type} {Q : Nat → α → Prop} : ∀ n : Nat, (∀ i, i < n → ∃ y, Q i y) → ∃ l : List α, l.length = n ∧ ∀ i (h : i < l.length), Q i l[i]
 | 0, _ => ⟨[], rfl, fun i h => absurd h (by simp)⟩
 | n + 1, H => by
  obtain ⟨l, hl, hq⟩ := list_of_all n (fun i hi => H i (by omega))
  obtain ⟨y, hy⟩ := H n (by omega)
  refine ⟨l ++ [y], by simp [hl], fun i h => ?_⟩
  by_cases hi : i < l.length
  ·rw [List.getElem_append_left hi]; exact hq i hi
  ·have : i = n := by simp at h; omega
   subst this
   rw [List.getElem_append_right (by omega)]
   simpa [hl] using hy
theorem addr_add_add (a : Addr) (i j : Nat) : (a.add i).add j = a.add (i + j) := by
 unfold Addr.add
 by_cases hi : i = 0
 ·subst hi; simp
 ·by_cases hj : j = 0
  ·subst hj; simp
  ·simp only [hi, hj, if_false, if_neg, show ¬ (i + j = 0) by omega]
   simp [Nat.add_assoc]
theorem wf_i64 {n : Int} (h : (Lit.int .i64 n).wf = true) : -9223372036854775808 ≤ n ∧ n ≤ 9223372036854775807 := by
 simpa [Lit.wf, IntKind.min, IntKind.max, IntKind.bits, IntKind.signed] using h
theorem wf_u64 {n : Int} (h : (Lit.int .u64 n).wf = true) : 0 ≤ n ∧ n < 18446744073709551616 := by
 have : 0 ≤ n ∧ n ≤ 18446744073709551615 := by simpa [Lit.wf, IntKind.min, IntKind.max, IntKind.bits, IntKind.signed] using h
 omega
theorem wf_u8 {n : Int} (h : (Lit.int .u8 n).wf = true) : 0 ≤ n ∧ n ≤ 255 := by
 simpa [Lit.wf, IntKind.min, IntKind.max, IntKind.bits, IntKind.signed] using h
theorem open_u8s {H : Type} {enc : TypeId × Value → H} {W : World} {n : Nat} {c : Value} {x : DataW H × List MemPlace} (h : DataW.trod enc Tryz.prog W 0 (fun _ => true) true n 23 [c] = some x) :
  ∃ (A : Option Addr) (bs : List Int) (bc : Nat), c = .slice A bs.length bc ∧ ReadsInt W .u8 A bs.length bs ∧ bs.length ≤ bc ∧ bc ≤ maxLen ∧ ∀ x ∈ bs, 0 ≤ x ∧ x ≤ 255 := by
 rcases ChangeShapes.open_ints Tryz.underlying23 Tryz.underlying5 (by kernel_rfl) h with ⟨hc, _⟩ | ⟨a, len, cap, zs, hc, _, hl, hm, hz, _, hcell, hwf⟩
 ·injection hc with hc
  exact ⟨none, [], 0, hc, ⟨rfl, by simp, fun h => absurd h (by simp)⟩, by simp, by simp [maxLen], by simp⟩
 ·injection hc with hc
  simp only [if_true] at hz
  have hlen : (zs.take len).length = len := by rw [List.length_take]; omega
  have hm2 : cap ≤ 9223372036854775807 := by simpa [maxLen] using hm
  refine ⟨some a, zs.take len, cap, by rw [hlen]; exact hc, ⟨rfl, by omega, fun _ => ⟨a, rfl, fun j hj => ?_⟩⟩, by omega, hm, fun x hx => wf_u8 (hwf x (List.mem_of_mem_take hx))⟩
  rw [hcell j (by omega)]
  congr 2
  simp only [List.getD_eq_getElem?_getD]
  rw [List.getElem?_take_of_lt (by omega)]
theorem val_cells : Tryz.prog.cellsOf 26 = 8 := by kernel_rfl
theorem elem_cells : Tryz.prog.cellsOf 30 = 9 := by kernel_rfl
theorem one_cells : Tryz.prog.cellsOf 3 = 1 ∧ Tryz.prog.cellsOf 9 = 1 ∧ Tryz.prog.cellsOf 2 = 1 ∧ Tryz.prog.cellsOf 22 = 1 ∧ Tryz.prog.cellsOf 23 = 1 ∧ Tryz.prog.cellsOf 24 = 1 ∧ Tryz.prog.cellsOf 5 = 1 := ⟨by kernel_rfl, by kernel_rfl, by kernel_rfl, by kernel_rfl, by kernel_rfl, by kernel_rfl, by kernel_rfl⟩
theorem open_val {H : Type} {enc : TypeId × Value → H} (W : World) : ∀ (fuel : Nat) (cs : List Value) (x : DataW H × List MemPlace), DataW.trod enc Tryz.prog W 0 (fun _ => true) true fuel 26 cs = some x → ∃ t : VT, cs = t.cells ∧ ∀ d, VT.In W d t := by
 intro fuel
 induction fuel using Nat.strongRecOn with
 | _ fuel ih =>
  intro cs x h
  obtain ⟨xs, n, rfl, _, hl, hxl, hf⟩ := DataW.trod_struct Tryz.underlying26 h
  rw [val_cells] at hl
  have hx8 : xs.length = 8 := hxl
  obtain ⟨oi, os, oi64, ou64, ob, ok, _⟩ := one_cells
  have g : ∀ (i : Nat) (hi : i < 8), xs[i]? = some (xs[i]'(by omega)) := fun i hi => List.getElem?_eq_getElem _
  obtain ⟨c0, c1, c2, c3, c4, c5, c6, c7, rfl⟩ : ∃ c0 c1 c2 c3 c4 c5 c6 c7, cs = [c0, c1, c2, c3, c4, c5, c6, c7] := by
   match cs, hl with
   | [c0, c1, c2, c3, c4, c5, c6, c7], _ => exact ⟨_, _, _, _, _, _, _, _, rfl⟩
  have e0 : DataW.trod enc Tryz.prog W 0 (fun _ => true) true n 3 [c0] = some (xs[0]'(by omega)) := by have := hf 0 _ rfl; rw [g 0 (by omega)] at this; simpa [oi] using this
  have e1 : DataW.trod enc Tryz.prog W 0 (fun _ => true) true n 9 [c1] = some (xs[1]'(by omega)) := by have := hf 1 _ rfl; rw [g 1 (by omega)] at this; simpa [os] using this
  have e2 : DataW.trod enc Tryz.prog W 0 (fun _ => true) true n 9 [c2] = some (xs[2]'(by omega)) := by have := hf 2 _ rfl; rw [g 2 (by omega)] at this; simpa [os] using this
  have e3 : DataW.trod enc Tryz.prog W 0 (fun _ => true) true n 2 [c3] = some (xs[3]'(by omega)) := by have := hf 3 _ rfl; rw [g 3 (by omega)] at this; simpa [oi64] using this
  have e4 : DataW.trod enc Tryz.prog W 0 (fun _ => true) true n 22 [c4] = some (xs[4]'(by omega)) := by have := hf 4 _ rfl; rw [g 4 (by omega)] at this; simpa [ou64] using this
  have e5 : DataW.trod enc Tryz.prog W 0 (fun _ => true) true n 22 [c5] = some (xs[5]'(by omega)) := by have := hf 5 _ rfl; rw [g 5 (by omega)] at this; simpa [ou64] using this
  have e6 : DataW.trod enc Tryz.prog W 0 (fun _ => true) true n 23 [c6] = some (xs[6]'(by omega)) := by have := hf 6 _ rfl; rw [g 6 (by omega)] at this; simpa [ob] using this
  have e7 : DataW.trod enc Tryz.prog W 0 (fun _ => true) true n 24 [c7] = some (xs[7]'(by omega)) := by have := hf 7 _ rfl; rw [g 7 (by omega)] at this; simpa [ok] using this
  obtain ⟨k, h0, _, w0⟩ := DataW.trod_int Tryz.underlying3 e0
  obtain ⟨tx, h1, _, w1⟩ := DataW.trod_string Tryz.underlying9 e1
  obtain ⟨mo, h2, _, w2⟩ := DataW.trod_string Tryz.underlying9 e2
  obtain ⟨nn, h3, _, w3⟩ := DataW.trod_int Tryz.underlying2 e3
  obtain ⟨bi, h4, _, w4⟩ := DataW.trod_int Tryz.underlying22 e4
  obtain ⟨hi, h5, _, w5⟩ := DataW.trod_int Tryz.underlying22 e5
  obtain ⟨bA, bs, bc, h6, hR, hbl, hbm, hbr⟩ := open_u8s e6
  injection h0 with h0
  injection h1 with h1
  injection h2 with h2
  injection h3 with h3
  injection h4 with h4
  injection h5 with h5
  have hK : ∃ (kA : Option Addr) (kids : List (ByteArray × VT)) (kc : Nat), c7 = .slice kA kids.length kc ∧ kids.length ≤ kc ∧ kc ≤ maxLen ∧
    (0 < kids.length → ∃ ad, kA = some ad ∧ ∀ i (h : i < kids.length), W.cell? (ad.add (9 * i)) = some (.string kids[i].1) ∧ kids[i].1.size ≤ maxLen ∧
     (∀ j (hj : j < 8), W.cell? (ad.add (9 * i + 1 + j)) = some (kids[i].2.cells[j]'(by simpa [VT.cells] using hj))) ∧ ∀ d, VT.In W d kids[i].2) := by
   rcases DataW.trod_slice Tryz.underlying24 e7 with ⟨hc, _⟩ | ⟨a, len, cap, elems, rest, m, hfu, hc, _, _, hlc, hcm, hel, hE, _, _⟩
   ·injection hc with hc
    exact ⟨none, [], 0, hc, by simp, by simp [maxLen], fun h => absurd h (by simp)⟩
   ·injection hc with hc
    have hall : ∀ i, i < len → ∃ q : ByteArray × VT, W.cell? (a.add (9 * i)) = some (.string q.1) ∧ q.1.size ≤ maxLen ∧
      (∀ j (hj : j < 8), W.cell? (a.add (9 * i + 1 + j)) = some (q.2.cells[j]'(by simpa [VT.cells] using hj))) ∧ ∀ d, VT.In W d q.2 := by
     intro i hil
     have hb := hE i hil
     rw [elem_cells, List.getElem?_eq_getElem (by omega)] at hb
     obtain ⟨ci, hci, hti⟩ := Option.bind_eq_some_iff.1 hb
     obtain ⟨_, hcl, hcc⟩ := World.cells?_some hci
     obtain ⟨ys, m2, hm2, _, hl2, hyl, hf2⟩ := DataW.trod_struct Tryz.underlying30 hti
     have hy2 : ys.length = 2 := hyl
     obtain ⟨d0, d1, d2, d3, d4, d5, d6, d7, d8, rfl⟩ : ∃ d0 d1 d2 d3 d4 d5 d6 d7 d8, ci = [d0, d1, d2, d3, d4, d5, d6, d7, d8] := by
      match ci, hcl with
      | [d0, d1, d2, d3, d4, d5, d6, d7, d8], _ => exact ⟨_, _, _, _, _, _, _, _, _, rfl⟩
     have q0 : DataW.trod enc Tryz.prog W 0 (fun _ => true) true m2 9 [d0] = some (ys[0]'(by omega)) := by have := hf2 0 _ rfl; rw [List.getElem?_eq_getElem (by omega)] at this; simpa [os] using this
     have q1 : DataW.trod enc Tryz.prog W 0 (fun _ => true) true m2 26 [d1, d2, d3, d4, d5, d6, d7, d8] = some (ys[1]'(by omega)) := by have := hf2 1 _ rfl; rw [List.getElem?_eq_getElem (by omega)] at this; simpa [val_cells] using this
     obtain ⟨nm, g0, _, gs⟩ := DataW.trod_string Tryz.underlying9 q0
     injection g0 with g0
     obtain ⟨t, ht, hin⟩ := ih m2 (by omega) _ _ q1
     refine ⟨(nm, t), ?_, gs, fun j hj => ?_, hin⟩
     ·have := hcc 0 (by omega)
      rw [addr_add_add] at this
      rw [show 9 * i = i * 9 + 0 by omega, this, g0]
      rfl
     ·have := hcc (1 + j) (by omega)
      rw [addr_add_add] at this
      rw [show 9 * i + 1 + j = i * 9 + (1 + j) by omega, this]
      show ([d0, d1, d2, d3, d4, d5, d6, d7, d8] : List Value)[1 + j]? = _
      rw [show 1 + j = j + 1 by omega, List.getElem?_cons_succ, ht]
      exact List.getElem?_eq_getElem _
    obtain ⟨kids, hkl, hk⟩ := list_of_all len hall
    exact ⟨some a, kids, cap, by rw [hkl]; exact hc, by omega, hcm, fun _ => ⟨a, rfl, hk⟩⟩
  obtain ⟨kA, kids, kc, h7, hk1, hk2, hk3⟩ := hK
  refine ⟨VT.mk k tx mo nn bi hi bA bs bc kA kids kc, by rw [h0, h1, h2, h3, h4, h5, h6, h7]; rfl, fun d => ?_⟩
  cases d with
  | zero => trivial
  | succ d =>
   refine ⟨wf_i64 w0, wf_i64 w3, wf_u64 w4, wf_u64 w5, w1, w2, hR, hbl, hbr, hk1, hk2, fun h => ?_⟩
   obtain ⟨ad, ha, hc⟩ := hk3 h
   exact ⟨ad, ha, fun i hi => ⟨(hc i hi).1, (hc i hi).2.1, (hc i hi).2.2.1, (hc i hi).2.2.2 d⟩⟩
end Go.Proofs.YtkeakdjbidbegaaGreatDoor
namespace Go.Proofs.YtkeakdjbidbegaaGreatDoor
open Go.RowKit
open Go.Proofs.YtkeakdjbidbegaaGreatDoorW.PrintWords
def ndg (u : Nat) : Nat := if u = 0 then 0 else Lib.nDigits u
theorem ndg_le (u : Nat) (hu : u < 18446744073709551616) : ndg u ≤ 20 := by
 unfold ndg
 split
 ·omega
 ·have := Lib.numDigits_eq u (by omega) hu
  split at this <;> omega
theorem ndg_lt (u : Nat) : u < 10 ^ ndg u := by
 unfold ndg
 split
 ·rename_i h; subst h; simp
 ·exact Lib.lt_pow_nDigits u
theorem numDigits0_calls (w : World) (ht : Pow10W w) : Calls Tryz.prog 143 #[.int .u64 0] w fun e w' => e = .returned (.int .i64 0) ∧ w' = w := by
 have hL := Tryz.bits_Len64 0 w (by omega) (by omega)
 have hl := log10Pow2_calls 0 (by omega) (by omega) w
 have hc := ht.cell (show Tryz.prog.globalNamed "internal/strconv.uint64pow10" = some 4 by kernel_rfl) 0 (by decide)
 rw [show Lib.pow10Tab.getD 0 0 = 1 by decide] at hc
 have HL := Lib.hid hL
 have Hl := Lib.hid hl
 clear hL hl
 go_enter Tryz.func143, Tryz.ntmps143
 go_wp2_with fail
 refine HL.out.mono ?_
 rintro e w1 ⟨rfl, rfl⟩
 rw [show Lib.bitLen (Int.toNat 0) = 0 by decide]
 go_wp2_with fail
 refine Hl.out.mono ?_
 rintro e w1 ⟨rfl, rfl⟩
 go_wp2_with fail
 refine (Tryz.internal_strconv_bool2_int false _).mono ?_
 rintro e w1 ⟨rfl, rfl⟩
 go_wp2_with fail
 go_ret
 exact ⟨rfl, rfl⟩
theorem numDigits_calls (u : Nat) (hu : u < 18446744073709551616) (w : World) (ht : Pow10W w) : Calls Tryz.prog 143 #[.int .u64 u] w fun e w' => e = .returned (.int .i64 (ndg u)) ∧ w' = w := by
 unfold ndg
 by_cases h : u = 0
 ·subst h
  exact numDigits0_calls w ht
 ·rw [if_neg h]
  exact Tryz.internal_strconv_numDigits u (by omega) hu w ht
theorem keeps_putRow {α : Type} [Inhabited α] (enc : α → Value) (w : World) (B blk off : Nat) (d : Array α) : Keeps B [blk] w (Sort.putRow enc w blk off d) := by
 refine ⟨rfl, rfl, rfl, by simp [Sort.putRow, Sort.mapBlock], fun k hk hn => ?_⟩
 have : k ≠ blk := by simpa using hn
 simp [Sort.putRow, Sort.mapBlock, Array.getElem?_modify, Ne.symm this]
def setL (u N : Nat) : List Int := (List.range 32).map fun j => if j < N then ((Lib.dg u (N - 1 - j)).toNat : Int) else 0
def trimN (l : List Int) : Nat → Nat
 | 0 => 0
 | k + 1 => if rn l k = 48 then trimN l k else k + 1
theorem trimN_succ (l : List Int) (k : Nat) : trimN l (k + 1) = if rn l k = 48 then trimN l k else k + 1 := rfl
theorem trimN_le (l : List Int) : ∀ k, trimN l k ≤ k
 | 0 => Nat.le_refl 0
 | k + 1 => by
  unfold trimN
  split
  ·have := trimN_le l k; omega
  ·omega
theorem setL_rn (u N j : Nat) (hj : j < 32) : rn (setL u N) j = if j < N then ((Lib.dg u (N - 1 - j)).toNat : Int) else 0 := by
 unfold rn setL
 rw [List.getD_eq_getElem?_getD, List.getElem?_map, List.getElem?_range hj]
 rfl
structure SetX (U : Nat) (u N : Nat) (p : Int) (w : World) (e : Ending) (w' : World) : Prop where
 out : e = .returned (.tuple #[.int .i64 (N + p), .int .i64 (trimN (setL u N) N)])
 keeps : Keeps w.heap.size [U] w w'
 reads : ReadsInt w' .u8 (some ⟨U, 0, none⟩) 32 (setL u N)
theorem setDigits_exact (U : Nat) (u : Nat) (hu : u < 18446744073709551616) (p : Int) (p0 : -400 ≤ p) (p1 : p ≤ 400) (w : World) (hz : ∀ j, j < 32 → w.cell? ⟨U, j, none⟩ = some (.int .u8 0)) (hf : ∀ j, w.frozen? ⟨U, j, none⟩ = false) (hU : U < w.heap.size) :
  Calls Tryz.prog 189 #[.slice (some ⟨U, 0, none⟩) 32 32, .int .u64 u, .int .i64 p, .int .i64 (ndg u)] w (SetX U u (ndg u) p w) := by
 have hnd := ndg_le u hu
 have hH : Sort.Holds (fun (b : UInt8) => Value.int .u8 (b.toNat : Int)) w U 0 (Array.replicate (ndg u) (0 : UInt8)) := fun j hj => by
  have hj' : j < ndg u := by simpa using hj
  refine ⟨?_, by simpa using hf j⟩
  rw [Nat.zero_add, hz j (by omega), getElem!_pos _ j hj]
  simp
 have hfmt := Tryz.internal_strconv_formatBase10 U 0 32 u (Array.replicate (ndg u) 0) w hH (by rw [Array.size_replicate]; exact ndg_lt u) hu (by rw [Array.size_replicate]; omega)
 rw [Array.size_replicate] at hfmt
 have HH := Lib.hid hH
 have HF := Lib.hid hfmt
 have HZ := Lib.hid hz
 clear hH hfmt hz
 obtain ⟨N, hN⟩ : ∃ N, N = ndg u := ⟨_, rfl⟩
 rw [← hN] at HH HF hnd ⊢
 clear hN
 go_enter Tryz.func189, Tryz.ntmps189
 go_wp2_with fail
 refine HF.out.mono ?_
 rintro e w' ⟨rfl, k, v', dk, rfl, hF⟩
 obtain ⟨W, hW⟩ : ∃ W, W = (Sort.putRow (fun (b : UInt8) => Value.int .u8 (b.toNat : Int)) w U 0 dk).drewN k := ⟨_, rfl⟩
 rw [← hW]
 have hsz : dk.size = (Array.replicate N (0 : UInt8)).size := by rw [hF.size, Array.size_replicate]
 have hsz2 : dk.size = N := hF.size
 have hcell : ∀ j, j < 32 → W.cell? ⟨U, j, none⟩ = some (.int .u8 (rn (setL u N) j)) := fun j hj => by
  rw [hW, World.cell?_drewN, setL_rn u N j hj]
  by_cases hjN : j < dk.size
  ·have := Sort.cell?_putRow (fun (b : UInt8) => Value.int .u8 (b.toNat : Int)) w U 0 _ dk HH.out hsz j hjN
   rw [Nat.zero_add] at this
   rw [this, if_pos (by omega), ← hF.done j (by omega) (by omega)]
  ·rw [Sort.cell?_putRow_other _ _ _ _ _ _ (Or.inr (Or.inr (by show 0 + dk.size ≤ j; omega))), if_neg (by omega)]
   exact HZ.out j hj
 have hkeep : Keeps w.heap.size [U] w W := by
  rw [hW]
  exact (keeps_putRow _ w _ U 0 dk).drewN k
 have hreads : ReadsInt W .u8 (some ⟨U, 0, none⟩) 32 (setL u N) := by
  refine ⟨by simp [setL], by omega, fun _ => ⟨⟨U, 0, none⟩, rfl, fun j hj => ?_⟩⟩
  rw [add_plain, hcell j (by omega)]
  rfl
 have HRD := Lib.hid hreads
 have HC := Lib.hid hcell
 have HK := Lib.hid hkeep
 clear hW hsz hsz2 hF hcell hkeep HF HH HZ hreads
 obtain ⟨L, hL⟩ : ∃ L, setL u N = L := ⟨_, rfl⟩
 have HL := Lib.hid hL
 rw [hL] at HRD HC
 clear hL
 go_wp2_with fail
 go_loopw [3] (fun q wr => ∃ k : Nat, k ≤ N ∧ q = .int .i64 k ∧ Hid (trimN L k = trimN L N) ∧ wr = W) (fun q _ => (intOf q).toNat)
 case atStart => exact ⟨N, by omega, rfl, rfl, rfl⟩
 case round =>
  obtain ⟨k, hk, rfl, HT, rfl⟩ := hrel
  by_cases h0 : k = 0
  ·subst h0
   go_wp2
   go_ret2
   exact ⟨by rw [HL.out, ← HT.out]; rfl, HK.out, by rw [HL.out]; exact HRD.out⟩
  ·have hx := HC.out (k - 1) (by omega)
   obtain ⟨m, rfl⟩ : ∃ m, k = m + 1 := ⟨k - 1, by omega⟩
   rw [Nat.add_sub_cancel] at hx
   have d1 : decide (0 < m + 1) = true := decide_eq_true (by omega)
   have d2 : decide ((0 : Int) < ((m + 1 : Nat) : Int)) = true := decide_eq_true (by omega)
   have e1 : (((m + 1 : Nat) : Int) - 1).toNat = m := by omega
   obtain ⟨x, hxe⟩ : ∃ x, rn L m = x := ⟨_, rfl⟩
   have HXE := Lib.hid hxe
   rw [hxe] at hx
   clear hxe
   by_cases hx48 : x = 48
   ·have HT2 : Hid (trimN L m = trimN L N) := by
     have := HT.out
     rw [trimN_succ, HXE.out, if_pos hx48] at this
     exact this
    subst hx48
    go_wp2
    exact ⟨⟨m, by omega, by first | rfl | (congr 1; omega), HT2, trivial⟩, by simp [intOf] <;> omega⟩
   ·have hxb : (x == 48) = false := beq_eq_false_iff_ne.2 hx48
    have HT2 : Hid (m + 1 = trimN L N) := by
     have := HT.out
     show m + 1 = trimN L N
     rw [← this, trimN_succ, HXE.out, if_neg hx48]
    go_wp2
    go_ret2
    exact ⟨by rw [HL.out, ← HT2.out]; rfl, HK.out, by rw [HL.out]; exact HRD.out⟩
theorem and_exp (n : Nat) : bits .and .i64 ((n : Int) / 4503599627370496) 2047 = ((n / 4503599627370496 % 2048 : Nat) : Int) ∨ 1152921504606846976 ≤ n / 4503599627370496 := by
 by_cases h : 1152921504606846976 ≤ n / 4503599627370496
 ·exact .inr h
 ·left
  have e : ((n : Int) / 4503599627370496) = ((n / 4503599627370496 : Nat) : Int) := by omega
  rw [e]
  have := and_mask 11 (by decide) ((n / 4503599627370496 : Nat) : Int) (by omega) (by omega)
  rw [show (2 : Int) ^ 11 - 1 = 2047 by decide, show (2 : Int) ^ 11 = 2048 by decide] at this
  rw [this]
  omega
theorem and_mant (n : Nat) (hn : n < 18446744073709551616) : bits .and .u64 (n : Int) 4503599627370495 = ((n % 4503599627370496 : Nat) : Int) := by
 have := bits_and_u64_nat n 4503599627370495 hn (by omega)
 rw [show ((4503599627370495 : Nat) : Int) = 4503599627370495 by rfl] at this
 rw [this]
 have h := Nat.and_two_pow_sub_one_eq_mod n 52
 rw [show 2 ^ 52 - 1 = 4503599627370495 by decide, show 2 ^ 52 = 4503599627370496 by decide] at h
 rw [h]
theorem or_mant (m : Nat) (hm : m < 4503599627370496) : ∃ x : Nat, bits .or .u64 (m : Int) 4503599627370496 = (x : Int) ∧ 4503599627370496 ≤ x ∧ x < 9007199254740992 := by
 have := bits_or_u64_nat m 4503599627370496 (by omega) (by omega)
 rw [show ((4503599627370496 : Nat) : Int) = 4503599627370496 by rfl] at this
 refine ⟨_, this, Nat.right_le_or, ?_⟩
 have := Nat.or_lt_two_pow (x := m) (y := 4503599627370496) (n := 53) (by omega) (by omega)
 omega
theorem len_norm (x : Nat) (h0 : 4503599627370496 ≤ x) (h1 : x < 9007199254740992) : Lib.bitLen x = 53 := by
 obtain ⟨_, h2, h3⟩ := Lib.bitLenAux_bounds 64 x (by omega) (by omega)
 show Lib.bitLenAux 64 x = 53
 generalize Lib.bitLenAux 64 x = L at *
 by_cases a : L ≤ 52
 ·have := Nat.pow_le_pow_right (n := 2) (by omega) a
  have e : 2 ^ 52 = 4503599627370496 := by decide
  omega
 ·by_cases b : 54 ≤ L
  ·have := Nat.pow_le_pow_right (n := 2) (by omega) (show 53 ≤ L - 1 by omega)
   have e : 2 ^ 53 = 9007199254740992 := by decide
   omega
  ·omega
theorem len_den (x : Nat) (h0 : 1 ≤ x) (h1 : x < 4503599627370496) : 1 ≤ Lib.bitLen x ∧ Lib.bitLen x ≤ 52 := by
 obtain ⟨h4, h2, h3⟩ := Lib.bitLenAux_bounds 64 x (by omega) (by omega)
 show 1 ≤ Lib.bitLenAux 64 x ∧ Lib.bitLenAux 64 x ≤ 52
 generalize Lib.bitLenAux 64 x = L at *
 refine ⟨h4, ?_⟩
 by_cases b : 53 ≤ L
 ·have := Nat.pow_le_pow_right (n := 2) (by omega) (show 52 ≤ L - 1 by omega)
  have e : 2 ^ 52 = 4503599627370496 := by decide
  omega
 ·omega
structure FEnv (hi lo : Nat → Int) (w0 : World) : Prop where
 hr : ∀ i, 0 ≤ hi i ∧ hi i < 18446744073709551616
 lr : ∀ i, 0 ≤ lo i ∧ lo i < 18446744073709551616
 tab : ∀ w', Below w0.heap.size w0 w' → TabW hi lo w' ∧ Pow10W w'
theorem zeros32 (j : Nat) (hj : j < 32) : (#[.int .u8 0, .int .u8 0, .int .u8 0, .int .u8 0, .int .u8 0, .int .u8 0, .int .u8 0, .int .u8 0, .int .u8 0, .int .u8 0, .int .u8 0, .int .u8 0, .int .u8 0, .int .u8 0, .int .u8 0, .int .u8 0, .int .u8 0, .int .u8 0, .int .u8 0, .int .u8 0, .int .u8 0, .int .u8 0, .int .u8 0, .int .u8 0, .int .u8 0, .int .u8 0, .int .u8 0, .int .u8 0, .int .u8 0, .int .u8 0, .int .u8 0, .int .u8 0] : Array Value)[j]? = some (.int .u8 0) := by
 rw [show (#[.int .u8 0, .int .u8 0, .int .u8 0, .int .u8 0, .int .u8 0, .int .u8 0, .int .u8 0, .int .u8 0, .int .u8 0, .int .u8 0, .int .u8 0, .int .u8 0, .int .u8 0, .int .u8 0, .int .u8 0, .int .u8 0, .int .u8 0, .int .u8 0, .int .u8 0, .int .u8 0, .int .u8 0, .int .u8 0, .int .u8 0, .int .u8 0, .int .u8 0, .int .u8 0, .int .u8 0, .int .u8 0, .int .u8 0, .int .u8 0, .int .u8 0, .int .u8 0] : Array Value) = Array.replicate 32 (.int .u8 0) from rfl, Array.getElem?_replicate, if_pos hj]
theorem signL_low (neg : Bool) : Low (signL neg) := by
 cases neg
 ·exact Low.nil
 ·exact Low.cons (by decide) (by decide) Low.nil
theorem expL_low {x : Int} (h0 : 0 ≤ x) (h1 : x < 1000) : Low (expL x) := by
 unfold expL
 split
 ·exact Low.cons (by omega) (by omega) (Low.cons (by omega) (by omega) Low.nil)
 ·split
  ·exact Low.cons (by omega) (by omega) (Low.cons (by omega) (by omega) Low.nil)
  ·exact Low.cons (by omega) (by omega) (Low.cons (by omega) (by omega) (Low.cons (by omega) (by omega) Low.nil))
theorem expS_low {x : Int} (h0 : -1000 < x) (h1 : x < 1000) : Low (expS x) := by
 unfold expS
 split
 ·exact Low.cons (by omega) (by omega) (expL_low (by omega) (by omega))
 ·exact Low.cons (by omega) (by omega) (expL_low (by omega) (by omega))
theorem fmtGL_low (neg : Bool) {l : List Int} (nd : Nat) {dp : Int} (hl : Low l) (h0 : -900 ≤ dp) (h1 : dp ≤ 900) : Low (fmtGL neg l nd dp) := by
 have hr : 0 ≤ rd l 0 ∧ rd l 0 < 128 := by
  unfold rd
  rw [List.getD_eq_getElem?_getD]
  cases h : l[(0 : Int).toNat]? with
  | none => simp
  | some x => exact hl x (List.mem_of_getElem? h)
 unfold fmtGL
 split
 ·unfold fmtEL
  refine (((signL_low neg).append ?_).append ?_).append (Low.cons (by omega) (by omega) (expS_low ?_ ?_))
  ·split
   ·exact Low.cons (by omega) (by omega) Low.nil
   ·exact Low.cons hr.1 hr.2 Low.nil
  ·split
   ·exact Low.cons (by omega) (by omega) ((hl.take nd).drop 1)
   ·exact Low.nil
  ·split <;> omega
  ·split <;> omega
 ·unfold fmtNL
  refine ((signL_low neg).append ?_).append ?_
  ·split
   ·exact (hl.take _).append (Low.replicate _)
   ·exact Low.cons (by omega) (by omega) Low.nil
  ·split
   ·exact Low.cons (by omega) (by omega) ((Low.replicate _).append ((hl.take nd).drop _))
   ·exact Low.nil
theorem setL_low (u N : Nat) : Low (setL u N) := fun x hx => by
 unfold setL at hx
 obtain ⟨j, _, rfl⟩ := List.mem_map.1 hx
 split
 ·generalize N - 1 - j = k
  have : (Lib.dg u k).toNat < 128 := by
   unfold Lib.dg
   have h10 := Nat.mod_lt (u / 10 ^ k) (show 0 < 10 by decide)
   rw [UInt8.toNat_ofNat_of_lt' (by show _ < 256; omega)]
   omega
  omega
 ·omega
theorem fmtSet_length (sg : Bool) (u N nd : Nat) (dp : Int) : (fmtGL sg (setL u N) nd dp).length ≤ 300 := by
 have h1 := fmtGL_length sg (setL u N) nd dp
 have h2 : (setL u N).length = 32 := by simp [setL]
 omega
structure FtAnsX (ys : List Int) (base : Nat) (w : World) (e : Ending) (w' : World) : Prop where
 out : ∃ v, e = .returned v ∧ Own w' base v ys
 below : Below base w w'
theorem ftoax_nan (E M : Int) (sg : Bool) (E1 : E = 2047) (M0 : M ≠ 0) (n : Nat) (hn : n < 18446744073709551616) {hi lo : Nat → Int} {w0 : World} (FE : FEnv hi lo w0) (fE : bits .and .i64 ((n : Int) / 4503599627370496) 2047 = E) (fM : bits .and .u64 (n : Int) 4503599627370495 = M) (fS : ((n : Int) / 9223372036854775808 != 0) = sg) :
  ∃ ys : List Int, (ys.length ≤ 300 ∧ Low ys) ∧ ∀ (w : World) (h0 : Below w0.heap.size w0 w) (base : Nat) (A : Option Addr) (c : Nat) (hO : Own w base (.slice A 0 c) []) (hb : base ≤ w.heap.size) (hb0 : w0.heap.size ≤ base), Calls Tryz.prog 162 #[.slice A 0 c, .float .f64 n, .int .u8 71, .int .i64 (-1)] w (FtAnsX ys base w) := by
 refine ⟨bytesOf ⟨#[78, 97, 78]⟩, ⟨by rw [bytesOf_length]; decide, by unfold Low; decide⟩, fun w h0 base A c hO hb hb0 => ?_⟩
 have HO := Lib.hid hO
 have hsb := sbits_run n
 subst E1
 have d1 : (M != 0) = true := bne_iff_ne.2 M0
 clear hO
 go_enter Tryz.func162, Tryz.ntmps162
 go_wp2_with fail
 go_quiet (fail)
 go_wp2_with (first | (at_builtin; refine append_str (w0 := w) base rfl (.tmp 70) (.const (.string ⟨#[78, 97, 78]⟩)) rfl _ [] _ rfl rfl HO.out (pw_below_drewN (Below.refl _ _) _) hb (by decide) ?_; intro v1 w1 n0 n1 n2; obtain ⟨A1, c1, hv1, hr1⟩ := own_reads n0; subst hv1; clear hr1; have N0 := Lib.hid n0; have N1 := Lib.hid n1; clear n0 n1 n2) | (at_builtin; refine append_str (w0 := w) base rfl (.tmp 73) (.const (.string ⟨#[45, 73, 110, 102]⟩)) rfl _ [] _ rfl rfl HO.out (pw_below_drewN (Below.refl _ _) _) hb (by decide) ?_; intro v1 w1 n0 n1 n2; obtain ⟨A1, c1, hv1, hr1⟩ := own_reads n0; subst hv1; clear hr1; have N0 := Lib.hid n0; have N1 := Lib.hid n1; clear n0 n1 n2) | (at_builtin; refine append_str (w0 := w) base rfl (.tmp 75) (.const (.string ⟨#[43, 73, 110, 102]⟩)) rfl _ [] _ rfl rfl HO.out (pw_below_drewN (Below.refl _ _) _) hb (by decide) ?_; intro v1 w1 n0 n1 n2; obtain ⟨A1, c1, hv1, hr1⟩ := own_reads n0; subst hv1; clear hr1; have N0 := Lib.hid n0; have N1 := Lib.hid n1; clear n0 n1 n2))
 go_ret
 exact ⟨⟨_, rfl, N0.out⟩, N1.out⟩
theorem ftoax_ninf (E M : Int) (sg : Bool) (E1 : E = 2047) (M0 : M = 0) (n : Nat) (hn : n < 18446744073709551616) {hi lo : Nat → Int} {w0 : World} (FE : FEnv hi lo w0) (fE : bits .and .i64 ((n : Int) / 4503599627370496) 2047 = E) (fM : bits .and .u64 (n : Int) 4503599627370495 = M) (fS : ((n : Int) / 9223372036854775808 != 0) = true) :
  ∃ ys : List Int, (ys.length ≤ 300 ∧ Low ys) ∧ ∀ (w : World) (h0 : Below w0.heap.size w0 w) (base : Nat) (A : Option Addr) (c : Nat) (hO : Own w base (.slice A 0 c) []) (hb : base ≤ w.heap.size) (hb0 : w0.heap.size ≤ base), Calls Tryz.prog 162 #[.slice A 0 c, .float .f64 n, .int .u8 71, .int .i64 (-1)] w (FtAnsX ys base w) := by
 refine ⟨bytesOf ⟨#[45, 73, 110, 102]⟩, ⟨by rw [bytesOf_length]; decide, by unfold Low; decide⟩, fun w h0 base A c hO hb hb0 => ?_⟩
 have HO := Lib.hid hO
 have hsb := sbits_run n
 subst E1
 subst M0
 clear hO
 go_enter Tryz.func162, Tryz.ntmps162
 go_wp2_with fail
 go_quiet (fail)
 go_wp2_with (first | (at_builtin; refine append_str (w0 := w) base rfl (.tmp 70) (.const (.string ⟨#[78, 97, 78]⟩)) rfl _ [] _ rfl rfl HO.out (pw_below_drewN (Below.refl _ _) _) hb (by decide) ?_; intro v1 w1 n0 n1 n2; obtain ⟨A1, c1, hv1, hr1⟩ := own_reads n0; subst hv1; clear hr1; have N0 := Lib.hid n0; have N1 := Lib.hid n1; clear n0 n1 n2) | (at_builtin; refine append_str (w0 := w) base rfl (.tmp 73) (.const (.string ⟨#[45, 73, 110, 102]⟩)) rfl _ [] _ rfl rfl HO.out (pw_below_drewN (Below.refl _ _) _) hb (by decide) ?_; intro v1 w1 n0 n1 n2; obtain ⟨A1, c1, hv1, hr1⟩ := own_reads n0; subst hv1; clear hr1; have N0 := Lib.hid n0; have N1 := Lib.hid n1; clear n0 n1 n2) | (at_builtin; refine append_str (w0 := w) base rfl (.tmp 75) (.const (.string ⟨#[43, 73, 110, 102]⟩)) rfl _ [] _ rfl rfl HO.out (pw_below_drewN (Below.refl _ _) _) hb (by decide) ?_; intro v1 w1 n0 n1 n2; obtain ⟨A1, c1, hv1, hr1⟩ := own_reads n0; subst hv1; clear hr1; have N0 := Lib.hid n0; have N1 := Lib.hid n1; clear n0 n1 n2))
 go_ret
 exact ⟨⟨_, rfl, N0.out⟩, N1.out⟩
theorem ftoax_pinf (E M : Int) (sg : Bool) (E1 : E = 2047) (M0 : M = 0) (n : Nat) (hn : n < 18446744073709551616) {hi lo : Nat → Int} {w0 : World} (FE : FEnv hi lo w0) (fE : bits .and .i64 ((n : Int) / 4503599627370496) 2047 = E) (fM : bits .and .u64 (n : Int) 4503599627370495 = M) (fS : ((n : Int) / 9223372036854775808 != 0) = false) :
  ∃ ys : List Int, (ys.length ≤ 300 ∧ Low ys) ∧ ∀ (w : World) (h0 : Below w0.heap.size w0 w) (base : Nat) (A : Option Addr) (c : Nat) (hO : Own w base (.slice A 0 c) []) (hb : base ≤ w.heap.size) (hb0 : w0.heap.size ≤ base), Calls Tryz.prog 162 #[.slice A 0 c, .float .f64 n, .int .u8 71, .int .i64 (-1)] w (FtAnsX ys base w) := by
 refine ⟨bytesOf ⟨#[43, 73, 110, 102]⟩, ⟨by rw [bytesOf_length]; decide, by unfold Low; decide⟩, fun w h0 base A c hO hb hb0 => ?_⟩
 have HO := Lib.hid hO
 have hsb := sbits_run n
 subst E1
 subst M0
 clear hO
 go_enter Tryz.func162, Tryz.ntmps162
 go_wp2_with fail
 go_quiet (fail)
 go_wp2_with (first | (at_builtin; refine append_str (w0 := w) base rfl (.tmp 70) (.const (.string ⟨#[78, 97, 78]⟩)) rfl _ [] _ rfl rfl HO.out (pw_below_drewN (Below.refl _ _) _) hb (by decide) ?_; intro v1 w1 n0 n1 n2; obtain ⟨A1, c1, hv1, hr1⟩ := own_reads n0; subst hv1; clear hr1; have N0 := Lib.hid n0; have N1 := Lib.hid n1; clear n0 n1 n2) | (at_builtin; refine append_str (w0 := w) base rfl (.tmp 73) (.const (.string ⟨#[45, 73, 110, 102]⟩)) rfl _ [] _ rfl rfl HO.out (pw_below_drewN (Below.refl _ _) _) hb (by decide) ?_; intro v1 w1 n0 n1 n2; obtain ⟨A1, c1, hv1, hr1⟩ := own_reads n0; subst hv1; clear hr1; have N0 := Lib.hid n0; have N1 := Lib.hid n1; clear n0 n1 n2) | (at_builtin; refine append_str (w0 := w) base rfl (.tmp 75) (.const (.string ⟨#[43, 73, 110, 102]⟩)) rfl _ [] _ rfl rfl HO.out (pw_below_drewN (Below.refl _ _) _) hb (by decide) ?_; intro v1 w1 n0 n1 n2; obtain ⟨A1, c1, hv1, hr1⟩ := own_reads n0; subst hv1; clear hr1; have N0 := Lib.hid n0; have N1 := Lib.hid n1; clear n0 n1 n2))
 go_ret
 exact ⟨⟨_, rfl, N0.out⟩, N1.out⟩
theorem ftoax_zero_true (E M : Int) (E1 : E = 0) (M0 : M = 0) (n : Nat) (hn : n < 18446744073709551616) {hi lo : Nat → Int} {w0 : World} (FE : FEnv hi lo w0) (fE : bits .and .i64 ((n : Int) / 4503599627370496) 2047 = E) (fM : bits .and .u64 (n : Int) 4503599627370495 = M) (fS : ((n : Int) / 9223372036854775808 != 0) = true) :
  ∃ ys : List Int, (ys.length ≤ 300 ∧ Low ys) ∧ ∀ (w : World) (h0 : Below w0.heap.size w0 w) (base : Nat) (A : Option Addr) (c : Nat) (hO : Own w base (.slice A 0 c) []) (hb : base ≤ w.heap.size) (hb0 : w0.heap.size ≤ base), Calls Tryz.prog 162 #[.slice A 0 c, .float .f64 n, .int .u8 71, .int .i64 (-1)] w (FtAnsX ys base w) := by
 refine ⟨signL true ++ [48], ⟨by decide, (signL_low _).append (Low.cons (by decide) (by decide) Low.nil)⟩, fun w h0 base A c hO hb hb0 => ?_⟩
 have HO := Lib.hid hO
 have hsb := sbits_run n
 subst E1
 subst M0
 clear hO
 go_enter Tryz.func162, Tryz.ntmps162
 go_wp2_with fail
 go_quiet (fail)
 go_wp2_with fail
 refine Calls.mono (fmtZ_true _ base _ [] (by simp) HO.out hb) ?_
 rintro e w1 ⟨v1, rfl, hd⟩
 obtain ⟨A1, c1, hv1, hr1⟩ := own_reads hd.own
 subst hv1
 have HD := Lib.hid hd
 clear hd hr1
 go_wp2
 go_ret
 exact ⟨⟨_, rfl, HD.out.own⟩, (pw_below_drewN (Below.refl _ _) _).trans HD.out.below⟩
theorem ftoax_zero_false (E M : Int) (E1 : E = 0) (M0 : M = 0) (n : Nat) (hn : n < 18446744073709551616) {hi lo : Nat → Int} {w0 : World} (FE : FEnv hi lo w0) (fE : bits .and .i64 ((n : Int) / 4503599627370496) 2047 = E) (fM : bits .and .u64 (n : Int) 4503599627370495 = M) (fS : ((n : Int) / 9223372036854775808 != 0) = false) :
  ∃ ys : List Int, (ys.length ≤ 300 ∧ Low ys) ∧ ∀ (w : World) (h0 : Below w0.heap.size w0 w) (base : Nat) (A : Option Addr) (c : Nat) (hO : Own w base (.slice A 0 c) []) (hb : base ≤ w.heap.size) (hb0 : w0.heap.size ≤ base), Calls Tryz.prog 162 #[.slice A 0 c, .float .f64 n, .int .u8 71, .int .i64 (-1)] w (FtAnsX ys base w) := by
 refine ⟨signL false ++ [48], ⟨by decide, (signL_low _).append (Low.cons (by decide) (by decide) Low.nil)⟩, fun w h0 base A c hO hb hb0 => ?_⟩
 have HO := Lib.hid hO
 have hsb := sbits_run n
 subst E1
 subst M0
 clear hO
 go_enter Tryz.func162, Tryz.ntmps162
 go_wp2_with fail
 go_quiet (fail)
 go_wp2_with fail
 refine Calls.mono (fmtZ_false _ base _ [] (by simp) HO.out hb) ?_
 rintro e w1 ⟨v1, rfl, hd⟩
 obtain ⟨A1, c1, hv1, hr1⟩ := own_reads hd.own
 subst hv1
 have HD := Lib.hid hd
 clear hd hr1
 go_wp2
 go_ret
 exact ⟨⟨_, rfl, HD.out.own⟩, (pw_below_drewN (Below.refl _ _) _).trans HD.out.below⟩
theorem ftoax_norm (E M : Int) (sg : Bool) (E0 : 1 ≤ E) (E1 : E ≤ 2046) (x : Nat) (X0 : 4503599627370496 ≤ x) (X1 : x < 9007199254740992) (n : Nat) (hn : n < 18446744073709551616) {hi lo : Nat → Int} {w0 : World} (FE : FEnv hi lo w0) (fE : bits .and .i64 ((n : Int) / 4503599627370496) 2047 = E) (fM : bits .and .u64 (n : Int) 4503599627370495 = M) (fM2 : bits .or .u64 M 4503599627370496 = x) (fS : ((n : Int) / 9223372036854775808 != 0) = sg) :
  ∃ ys : List Int, (ys.length ≤ 300 ∧ Low ys) ∧ ∀ (w : World) (h0 : Below w0.heap.size w0 w) (base : Nat) (A : Option Addr) (c : Nat) (hO : Own w base (.slice A 0 c) []) (hb : base ≤ w.heap.size) (hb0 : w0.heap.size ≤ base), Calls Tryz.prog 162 #[.slice A 0 c, .float .f64 n, .int .u8 71, .int .i64 (-1)] w (FtAnsX ys base w) := by
 obtain ⟨d, p, hd, hp, U⟩ := shortFloat_calls hi lo FE.hr FE.lr ((x : Int) * 2048) (E + -1023 - 11 - 52) (by omega) (by omega) (by omega) (by omega)
 have HU := Lib.hid U
 clear U
 obtain ⟨u, hu⟩ : ∃ u : Nat, d = u := ⟨d.toNat, by omega⟩
 subst hu
 have hu2 : u < 18446744073709551616 := by omega
 clear hd
 refine ⟨fmtGL sg (setL u (ndg u)) (trimN (setL u (ndg u)) (ndg u)) (ndg u + p), ⟨fmtSet_length _ _ _ _ _, fmtGL_low sg _ (setL_low _ _) (by have := ndg_le u hu2; omega) (by have := ndg_le u hu2; omega)⟩, fun w h0 base A c hO hb hb0 => ?_⟩
 have HO := Lib.hid hO
 have hsb := sbits_run n
 have d1 : (E == 2047) = false := beq_eq_false_iff_ne.2 (by omega)
 have d2 : (E == 0) = false := beq_eq_false_iff_ne.2 (by omega)
 have d3 : (x == 0) = false := beq_eq_false_iff_ne.2 (by omega)
 have d4 : ((x : Int) == 0) = false := beq_eq_false_iff_ne.2 (by omega)
 clear hO
 go_enter Tryz.func162, Tryz.ntmps162
 go_wp2_with fail
 go_quiet (fail)
 go_wp2_with fail
 generalize hw1 : (w.drewN nq).alloc _ = w1
 have HB1 : Hid (Below w0.heap.size w0 w1) := by rw [← hw1]; exact (h0.trans (pw_below_drewN (Below.refl _ _) nq)).alloc h0.size _
 have HW1 : Hid (Below w.heap.size w w1) := by rw [← hw1]; exact (pw_below_drewN (Below.refl _ _) nq).alloc (Nat.le_refl _) _
 have HS1 := Lib.hid (show w.heap.size < w1.heap.size by rw [← hw1]; simp)
 have HZ1 : Hid (∀ j, j < 32 → w1.cell? ⟨w.heap.size, j, none⟩ = some (.int .u8 0)) := fun j hj => by
  rw [← hw1, show w.heap.size = (w.drewN nq).heap.size from rfl, World.cell?_alloc_new]
  exact zeros32 j hj
 have HF1 : Hid (∀ j, w1.frozen? ⟨w.heap.size, j, none⟩ = false) := fun j => by
  rw [← hw1, show w.heap.size = (w.drewN nq).heap.size from rfl]
  exact World.frozen?_alloc_new _ _ _ _
 clear hw1
 refine (Tryz.bits_Len64 x _ (by omega) (by omega)).mono ?_
 rintro e w3 ⟨rfl, rfl⟩
 have hbl : ((Lib.bitLen (x : Int).toNat : Nat) : Int) = 53 := by rw [show (x : Int).toNat = x by omega, len_norm x X0 X1]; rfl
 rw [hbl]
 clear hbl
 go_wp2_with fail
 refine (HU.out _ (FE.tab _ HB1.out).1).mono ?_
 rintro e w2 ⟨rfl, hb2⟩
 have HB2 : Hid (Below w0.heap.size w0 w2) := HB1.out.trans (hb2.mono HB1.out.size)
 have HW2 : Hid (Below w.heap.size w w2) := HW1.out.trans (hb2.mono HW1.out.size)
 have HZ2 : Hid (∀ j, j < 32 → w2.cell? ⟨w.heap.size, j, none⟩ = some (.int .u8 0)) := fun j hj => (hb2.cell (p := ⟨w.heap.size, j, none⟩) HS1.out).trans (HZ1.out j hj)
 have HF2 : Hid (∀ j, w2.frozen? ⟨w.heap.size, j, none⟩ = false) := fun j => (hb2.frozen (p := ⟨w.heap.size, j, none⟩) HS1.out).trans (HF1.out j)
 have HS2 : Hid (w.heap.size < w2.heap.size) := Nat.lt_of_lt_of_le HS1.out hb2.size
 have HPW : Hid (∀ w', Keeps w2.heap.size [w.heap.size] w2 w' → Pow10W w') := fun w' k => (FE.tab _ (HB2.out.trans (k.below HB2.out.size (by have := h0.size; intro s hs; simp at hs; omega)))).2
 have HND := Lib.hid (ndg_le u hu2)
 clear hb2
 go_wp2_with fail
 first | (go_must (go_region_held3 (fun w' => Keeps w2.heap.size [w.heap.size] w2 w') (first | assumption | exact Keeps.refl _ _ _ | exact (Keeps.refl _ _ _).drew | exact HP.out | exact HP.out.drew) (first | (go_at_call 143; go_must (refine Calls.mono (numDigits_calls u hu2 _ (HPW.out _ (by assumption))) ?_; rintro e w6 ⟨rfl, rfl⟩)) | (go_at_call 189; go_must (refine Calls.mono (setDigits_exact w.heap.size u hu2 p (by omega) (by omega) _ (fun j hj => HZ2.out j hj) (fun j => HF2.out j) HS2.out) ?_; rintro e w7 ⟨rfl, hk, hr⟩; have HP : Hid (Keeps w2.heap.size [w.heap.size] w2 w7) := (Keeps.refl _ _ _).drew.trans hk; have HR := Lib.hid hr; clear hk hr))))) | skip
 go_wp2_with fail
 have hl := HR.out
 have hk : Keeps w.heap.size [] w w7 := (Keeps.ofBelow HW2.out).trans (HP.out.mono HW2.out.size (fun s hs hlt => by simp at hs; omega))
 have hO7 : Own w7 base (.slice A 0 c) [] := hk.owns HO.out (fun g e => ⟨(HO.out.lt g e).2, by simp⟩)
 have hz7 := HP.out.size
 have hz2 := HS2.out
 have hn7 := trimN_le (setL u (ndg u)) (ndg u)
 have hnd20 := HND.out
 refine Calls.mono (fmtG_calls sg 32 32 w.heap.size (setL u (ndg u)) (ndg u + p) (trimN (setL u (ndg u)) (ndg u)) (by omega) (by omega) (by omega) _ base _ [] (by simp) hO7 (by omega) hl (by omega) (fun e => by have := (HO.out.lt _ e.symm).2; omega) (by omega) (by omega)) ?_
 rintro e w8 ⟨v1, rfl, hd⟩
 obtain ⟨A1, c1, hv1, hr1⟩ := own_reads hd.own
 subst hv1
 have HD := Lib.hid hd
 have HK := Lib.hid (hk.below hb (by simp))
 clear hd hr1 hk hO7 hl hz7 hz2 hn7 hnd20
 go_wp2
 go_ret
 exact ⟨⟨_, rfl, HD.out.own⟩, HK.out.trans HD.out.below⟩
theorem ftoax_den (E : Int) (sg : Bool) (E1 : E = 0) (x : Nat) (X0 : 1 ≤ x) (X1 : x < 4503599627370496) (n : Nat) (hn : n < 18446744073709551616) {hi lo : Nat → Int} {w0 : World} (FE : FEnv hi lo w0) (fE : bits .and .i64 ((n : Int) / 4503599627370496) 2047 = E) (fM : bits .and .u64 (n : Int) 4503599627370495 = x) (fS : ((n : Int) / 9223372036854775808 != 0) = sg) :
  ∃ ys : List Int, (ys.length ≤ 300 ∧ Low ys) ∧ ∀ (w : World) (h0 : Below w0.heap.size w0 w) (base : Nat) (A : Option Addr) (c : Nat) (hO : Own w base (.slice A 0 c) []) (hb : base ≤ w.heap.size) (hb0 : w0.heap.size ≤ base), Calls Tryz.prog 162 #[.slice A 0 c, .float .f64 n, .int .u8 71, .int .i64 (-1)] w (FtAnsX ys base w) := by
 obtain ⟨g0, g1⟩ := len_den x X0 X1
 obtain ⟨Ln, hLn⟩ : ∃ Ln, Lib.bitLen x = Ln := ⟨_, rfl⟩
 rw [hLn] at g0 g1
 have HLn := Lib.hid hLn
 clear hLn
 obtain ⟨m, hm⟩ : ∃ m, IntKind.u64.wrap (x * 2 ^ (64 - Ln)) = m := ⟨_, rfl⟩
 have hmr : 0 ≤ m ∧ m < 18446744073709551616 := hm ▸ u64_range _
 obtain ⟨d, p, hd, hp, U⟩ := shortFloat_calls hi lo FE.hr FE.lr (m) (-1022 - (64 - (Ln : Int)) - 52) (by omega) (by omega) (by omega) (by omega)
 have HU := Lib.hid U
 clear U
 obtain ⟨u, hu⟩ : ∃ u : Nat, d = u := ⟨d.toNat, by omega⟩
 subst hu
 have hu2 : u < 18446744073709551616 := by omega
 clear hd
 refine ⟨fmtGL sg (setL u (ndg u)) (trimN (setL u (ndg u)) (ndg u)) (ndg u + p), ⟨fmtSet_length _ _ _ _ _, fmtGL_low sg _ (setL_low _ _) (by have := ndg_le u hu2; omega) (by have := ndg_le u hu2; omega)⟩, fun w h0 base A c hO hb hb0 => ?_⟩
 have HO := Lib.hid hO
 have hsb := sbits_run n
 subst E1
 have d3 : (x == 0) = false := beq_eq_false_iff_ne.2 (by omega)
 have d4 : ((x : Int) == 0) = false := beq_eq_false_iff_ne.2 (by omega)
 clear hO
 go_enter Tryz.func162, Tryz.ntmps162
 go_wp2_with fail
 go_quiet (fail)
 go_wp2_with fail
 generalize hw1 : (w.drewN nq).alloc _ = w1
 have HB1 : Hid (Below w0.heap.size w0 w1) := by rw [← hw1]; exact (h0.trans (pw_below_drewN (Below.refl _ _) nq)).alloc h0.size _
 have HW1 : Hid (Below w.heap.size w w1) := by rw [← hw1]; exact (pw_below_drewN (Below.refl _ _) nq).alloc (Nat.le_refl _) _
 have HS1 := Lib.hid (show w.heap.size < w1.heap.size by rw [← hw1]; simp)
 have HZ1 : Hid (∀ j, j < 32 → w1.cell? ⟨w.heap.size, j, none⟩ = some (.int .u8 0)) := fun j hj => by
  rw [← hw1, show w.heap.size = (w.drewN nq).heap.size from rfl, World.cell?_alloc_new]
  exact zeros32 j hj
 have HF1 : Hid (∀ j, w1.frozen? ⟨w.heap.size, j, none⟩ = false) := fun j => by
  rw [← hw1, show w.heap.size = (w.drewN nq).heap.size from rfl]
  exact World.frozen?_alloc_new _ _ _ _
 clear hw1
 refine (Tryz.bits_Len64 x _ (by omega) (by omega)).mono ?_
 rintro e w3 ⟨rfl, rfl⟩
 rw [show (x : Int).toNat = x by omega, HLn.out]
 go_wp2_with fail
 try rw [hm]
 refine (HU.out _ (FE.tab _ HB1.out).1).mono ?_
 rintro e w2 ⟨rfl, hb2⟩
 have HB2 : Hid (Below w0.heap.size w0 w2) := HB1.out.trans (hb2.mono HB1.out.size)
 have HW2 : Hid (Below w.heap.size w w2) := HW1.out.trans (hb2.mono HW1.out.size)
 have HZ2 : Hid (∀ j, j < 32 → w2.cell? ⟨w.heap.size, j, none⟩ = some (.int .u8 0)) := fun j hj => (hb2.cell (p := ⟨w.heap.size, j, none⟩) HS1.out).trans (HZ1.out j hj)
 have HF2 : Hid (∀ j, w2.frozen? ⟨w.heap.size, j, none⟩ = false) := fun j => (hb2.frozen (p := ⟨w.heap.size, j, none⟩) HS1.out).trans (HF1.out j)
 have HS2 : Hid (w.heap.size < w2.heap.size) := Nat.lt_of_lt_of_le HS1.out hb2.size
 have HPW : Hid (∀ w', Keeps w2.heap.size [w.heap.size] w2 w' → Pow10W w') := fun w' k => (FE.tab _ (HB2.out.trans (k.below HB2.out.size (by have := h0.size; intro s hs; simp at hs; omega)))).2
 have HND := Lib.hid (ndg_le u hu2)
 clear hb2
 go_wp2_with fail
 first | (go_must (go_region_held3 (fun w' => Keeps w2.heap.size [w.heap.size] w2 w') (first | assumption | exact Keeps.refl _ _ _ | exact (Keeps.refl _ _ _).drew | exact HP.out | exact HP.out.drew) (first | (go_at_call 143; go_must (refine Calls.mono (numDigits_calls u hu2 _ (HPW.out _ (by assumption))) ?_; rintro e w6 ⟨rfl, rfl⟩)) | (go_at_call 189; go_must (refine Calls.mono (setDigits_exact w.heap.size u hu2 p (by omega) (by omega) _ (fun j hj => HZ2.out j hj) (fun j => HF2.out j) HS2.out) ?_; rintro e w7 ⟨rfl, hk, hr⟩; have HP : Hid (Keeps w2.heap.size [w.heap.size] w2 w7) := (Keeps.refl _ _ _).drew.trans hk; have HR := Lib.hid hr; clear hk hr))))) | skip
 go_wp2_with fail
 have hl := HR.out
 have hk : Keeps w.heap.size [] w w7 := (Keeps.ofBelow HW2.out).trans (HP.out.mono HW2.out.size (fun s hs hlt => by simp at hs; omega))
 have hO7 : Own w7 base (.slice A 0 c) [] := hk.owns HO.out (fun g e => ⟨(HO.out.lt g e).2, by simp⟩)
 have hz7 := HP.out.size
 have hz2 := HS2.out
 have hn7 := trimN_le (setL u (ndg u)) (ndg u)
 have hnd20 := HND.out
 refine Calls.mono (fmtG_calls sg 32 32 w.heap.size (setL u (ndg u)) (ndg u + p) (trimN (setL u (ndg u)) (ndg u)) (by omega) (by omega) (by omega) _ base _ [] (by simp) hO7 (by omega) hl (by omega) (fun e => by have := (HO.out.lt _ e.symm).2; omega) (by omega) (by omega)) ?_
 rintro e w8 ⟨v1, rfl, hd⟩
 obtain ⟨A1, c1, hv1, hr1⟩ := own_reads hd.own
 subst hv1
 have HD := Lib.hid hd
 have HK := Lib.hid (hk.below hb (by simp))
 clear hd hr1 hk hO7 hl hz7 hz2 hn7 hnd20
 go_wp2
 go_ret
 exact ⟨⟨_, rfl, HD.out.own⟩, HK.out.trans HD.out.below⟩
theorem ftoa64_exact (n : Nat) (hn : n < 18446744073709551616) {hi lo : Nat → Int} {w0 : World} (FE : FEnv hi lo w0) : ∃ ys : List Int, (ys.length ≤ 300 ∧ Low ys) ∧ ∀ (w : World) (h0 : Below w0.heap.size w0 w) (base : Nat) (A : Option Addr) (c : Nat) (hO : Own w base (.slice A 0 c) []) (hb : base ≤ w.heap.size) (hb0 : w0.heap.size ≤ base), Calls Tryz.prog 162 #[.slice A 0 c, .float .f64 n, .int .u8 71, .int .i64 (-1)] w (FtAnsX ys base w) := by
 obtain ⟨M, hM⟩ : ∃ M, M = n % 4503599627370496 := ⟨_, rfl⟩
 obtain ⟨E, hE⟩ : ∃ E, E = n / 4503599627370496 % 2048 := ⟨_, rfl⟩
 have fM := and_mant n hn
 rw [← hM] at fM
 have fE := (and_exp n).resolve_right (by omega)
 rw [← hE] at fE
 have M1 : M < 4503599627370496 := by rw [hM]; exact Nat.mod_lt _ (by omega)
 have E1 : E < 2048 := by rw [hE]; exact Nat.mod_lt _ (by omega)
 clear hM hE
 generalize hsg : ((n : Int) / 9223372036854775808 != 0) = sg
 by_cases e1 : E = 2047
 ·by_cases m0 : M = 0
  ·cases sg
   ·exact ftoax_pinf E M false (by omega) (by omega) n hn FE fE fM hsg
   ·exact ftoax_ninf E M true (by omega) (by omega) n hn FE fE fM hsg
  ·exact ftoax_nan E M sg (by omega) (by omega) n hn FE fE fM hsg
 ·by_cases e0 : E = 0
  ·by_cases m0 : M = 0
   ·cases sg
    ·exact ftoax_zero_false E M (by omega) (by omega) n hn FE fE fM hsg
    ·exact ftoax_zero_true E M (by omega) (by omega) n hn FE fE fM hsg
   ·exact ftoax_den E sg (by omega) M (by omega) (by omega) n hn FE fE fM hsg
  ·obtain ⟨x, hx, x0, x1⟩ := or_mant M M1
   exact ftoax_norm E M sg (by omega) (by omega) x x0 x1 n hn FE fE fM hx hsg
theorem made_24x : ∃ cur : Array Value, cur.size = 24 ∧ ∀ W : World, (Instr.makeSlice 23 (.int .i64 0) (.int .i64 24)).run Tryz.prog W = .ok (.slice (some ⟨W.heap.size, 0, none⟩) 0 24) (W.alloc (.cells cur 5)) := by
 refine ⟨madeCells #[.int .u8 0] 24, by rw [size_madeCells], fun W => ?_⟩
 obtain ⟨i, hi, hzz⟩ := Option.map_eq_some_iff.1 info_u8
 simp only [Prod.mk.injEq] at hzz
 obtain ⟨hz, hs, hb⟩ := hzz
 have := run_make (P := Tryz.prog) W 23 5 i (.int .u8 0) Tryz.underlying23 hi hz .i64 .i64 0 24 (by omega) (by omega) (by rw [hb]; omega) (by omega)
 rw [hs] at this
 exact this
def TextIs (l : List Int) (w : World) (e : Ending) (w' : World) : Prop := e = .returned (.string (strOfNums l)) ∧ Below w.heap.size w w'
theorem iFormatFloat_exact (n : Nat) (hn : n < 18446744073709551616) {hi lo : Nat → Int} {w0 : World} (FE : FEnv hi lo w0) :
  ∃ ys : List Int, (ys.length ≤ 300 ∧ Low ys) ∧ ∀ (w : World) (h0 : Below w0.heap.size w0 w), Calls Tryz.prog 141 #[.float .f64 n, .int .u8 71, .int .i64 (-1), .int .i64 64] w (TextIs ys w) := by
 obtain ⟨cur, hcur, hmk⟩ := made_24x
 obtain ⟨ys, hys, HX⟩ := ftoa64_exact n hn FE
 refine ⟨ys, hys, fun w h0 => ?_⟩
 have hO : Own (w.alloc (.cells cur 5)) w.heap.size (.slice (some ⟨w.heap.size, 0, none⟩) 0 24) [] := World.ownsRow_made w cur 24 (Nat.le_refl _) (by simp [maxLen]) (by rw [hcur])
 have hb1 : Below w.heap.size w (w.alloc (.cells cur 5)) := (Below.refl _ _).alloc (Nat.le_refl _) _
 have HC := Lib.hid (HX (w.alloc (.cells cur 5)) (h0.trans (hb1.mono h0.size)) w.heap.size (some ⟨w.heap.size, 0, none⟩) 24 hO (by simp) h0.size)
 have HB := Lib.hid hb1
 have hmx : max (3 : Int) 24 = 24 := by decide
 clear hO hb1 HX
 go_enter Tryz.func141, Tryz.ntmps141
 go_wp2_with fail
 refine HC.out.mono ?_
 rintro e w1 ⟨⟨v, rfl, ho⟩, hw⟩
 have hcv := own_str ho
 have HW := Lib.hid (HB.out.trans hw)
 clear ho hw
 go_wp2_with fail
 go_ret
 exact ⟨rfl, HW.out⟩
theorem FormatFloat_exact (n : Nat) (hn : n < 18446744073709551616) {hi lo : Nat → Int} {w0 : World} (FE : FEnv hi lo w0) :
  ∃ ys : List Int, (ys.length ≤ 300 ∧ Low ys) ∧ ∀ (w : World) (h0 : Below w0.heap.size w0 w), Calls Tryz.prog 101 #[.float .f64 n, .int .u8 71, .int .i64 (-1), .int .i64 64] w (TextIs ys w) := by
 obtain ⟨ys, hys, HX⟩ := iFormatFloat_exact n hn FE
 refine ⟨ys, hys, fun w h0 => ?_⟩
 have HC := Lib.hid (HX w h0)
 clear HX
 go_enter Tryz.func101, Tryz.ntmps101
 go_wp2_with fail
 refine HC.out.mono ?_
 rintro e w1 ⟨rfl, hw⟩
 have HW := Lib.hid hw
 clear hw
 go_wp2
 go_ret
 exact ⟨rfl, HW.out⟩
def dotL : List Int → List Int → List Int
 | all, [] => all ++ [46, 48]
 | all, x :: r => if x = 46 ∨ x = 69 then all else dotL all r
theorem dotL_drop (all : List Int) : ∀ k, k < all.length → dotL all (all.drop k) = if rn all k = 46 ∨ rn all k = 69 then all else dotL all (all.drop (k + 1)) := by
 intro k hk
 rw [List.drop_eq_getElem_cons hk, rn_lt hk]
 rfl
theorem dotL_or (all : List Int) : ∀ l, dotL all l = all ∨ dotL all l = all ++ [46, 48]
 | [] => .inr rfl
 | x :: r => by
  unfold dotL
  split
  ·exact .inl rfl
  ·exact dotL_or all r
theorem dotL_point (all : List Int) : ∀ l, (∀ x ∈ l, x ≠ 69) → dotL all l = if 46 ∈ l then all else all ++ [46, 48]
 | [], _ => by simp [dotL]
 | x :: r, h => by
  have hx := h x (List.mem_cons_self ..)
  have ih := dotL_point all r fun y hy => h y (List.mem_cons_of_mem _ hy)
  unfold dotL
  by_cases h4 : x = 46
  ·subst h4; simp
  ·rw [if_neg (by omega), ih]
   have : (46 ∈ x :: r) ↔ 46 ∈ r := by simp [Ne.symm h4]
   simp only [this]
theorem ExtDouble_exact (n : Nat) (hn : n < 18446744073709551616) {hi lo : Nat → Int} {w0 : World} (FE : FEnv hi lo w0) :
  ∃ (ys : List Int) (bU bD : Bool), (ys.length ≤ 300 ∧ Low ys) ∧ (∀ (w : World) (h0 : Below w0.heap.size w0 w), Calls Tryz.prog 101 #[.float .f64 n, .int .u8 71, .int .i64 (-1), .int .i64 64] w (TextIs ys w)) ∧
   (∀ w, Calls Tryz.prog 51 #[.float .f64 n, .int .i64 1] w fun e w' => e = .returned (.bool bU) ∧ w' = w) ∧ (∀ w, Calls Tryz.prog 51 #[.float .f64 n, .int .i64 (-1)] w fun e w' => e = .returned (.bool bD) ∧ w' = w) ∧
   ∀ (w : World) (h0 : Below w0.heap.size w0 w), Calls Tryz.prog 49 #[.float .f64 n] w (TextIs (if isNaNF n then [78, 97, 78] else if bU then [73, 110, 102, 105, 110, 105, 116, 121] else if bD then [45, 73, 110, 102, 105, 110, 105, 116, 121] else dotL ys ys) w) := by
 obtain ⟨ys, hys, HX⟩ := FormatFloat_exact n hn FE
 obtain ⟨bU, hU⟩ := IsInf_up n
 obtain ⟨bD, hD⟩ := IsInf_down n
 refine ⟨ys, bU, bD, hys, HX, hU, hD, fun w h0 => ?_⟩
 have HC := Lib.hid (HX w h0)
 have HU := Lib.hid (hU w)
 have HD := Lib.hid (hD w)
 have HN := Lib.hid (IsNaN_calls n w)
 clear hU hD h0 HX
 generalize isNaNF n = bN at HN ⊢
 generalize hT : (if bN = true then ([78, 97, 78] : List Int) else if bU = true then [73, 110, 102, 105, 110, 105, 116, 121] else if bD = true then [45, 73, 110, 102, 105, 110, 105, 116, 121] else dotL ys ys) = T
 have HT := Lib.hid hT
 clear hT
 go_enter Tryz.func49, Tryz.ntmps49
 go_wp2_with fail
 refine HN.out.mono ?_
 rintro e w1 ⟨rfl, rfl⟩
 cases bN with
 | true =>
  go_wp2_with fail
  go_ret
  exact ⟨by rw [← HT.out]; rfl, Below.refl _ _⟩
 | false =>
  go_wp2_with fail
  refine HU.out.mono ?_
  rintro e w1 ⟨rfl, rfl⟩
  cases bU with
  | true =>
   go_wp2_with fail
   go_ret
   exact ⟨by rw [← HT.out]; rfl, Below.refl _ _⟩
  | false =>
   go_wp2_with fail
   refine HD.out.mono ?_
   rintro e w1 ⟨rfl, rfl⟩
   cases bD with
   | true =>
    go_wp2_with fail
    go_ret
    exact ⟨by rw [← HT.out]; rfl, Below.refl _ _⟩
   | false =>
    go_wp2_with fail
    refine HC.out.mono ?_
    rintro e w2 ⟨rfl, hw⟩
    have HW := Lib.hid hw
    clear hw
    obtain ⟨u, hu⟩ : ∃ u, strOfNums ys = u := ⟨_, rfl⟩
    have hus : u.size = ys.length := by rw [← hu, strOfNums_size]
    have HU2 := Lib.hid hu
    rw [hu]
    clear hu
    have HBT : Hid (∀ k, k < ys.length → (bt u k = 46 ∨ bt u k = 69 ↔ rn ys k = 46 ∨ rn ys k = 69)) := fun k hk => by
     have e := StrIs.bt (u := u) (l := ys) ⟨HU2.out.symm⟩ (fun x hx => by have := hys.2 x hx; omega) k hk
     have e2 : rd ys (k : Int) = rn ys k := rfl
     rw [e, e2]
    go_wp2_with fail
    go_loopw [4] (fun q wr => ∃ k : Nat, k ≤ u.size ∧ q = .int .i64 k ∧ Hid (dotL ys (ys.drop k) = dotL ys ys) ∧ wr = w2) (fun q _ => u.size - (intOf q).toNat)
    case atStart => exact ⟨0, by omega, rfl, rfl, rfl⟩
    case round =>
     obtain ⟨k, hk, rfl, HQ, rfl⟩ := hrel
     by_cases hlt : k < u.size
     ·have hd : decide ((k : Int) < u.size) = true := by simp; omega
      have hb := bt_at u k hlt
      have hq := HQ.out
      rw [dotL_drop ys k (by omega)] at hq
      by_cases z0 : rn ys k = 46 ∨ rn ys k = 69
      ·rw [if_pos z0] at hq
       have HQ2 := Lib.hid hq
       clear hq HQ
       have z0' := (HBT.out k (by omega)).2 z0
       by_cases z1 : bt u k = 46
       ·go_wp2
        go_ret
        exact ⟨by rw [← HU2.out, ← HT.out, ← HQ2.out]; rfl, HW.out⟩
       ·have z1b : (bt u k == 46) = false := beq_eq_false_iff_ne.2 z1
        have z2 : bt u k = 69 := by omega
        clear z1 z0 z0'
        go_wp2
        go_ret
        exact ⟨by rw [← HU2.out, ← HT.out, ← HQ2.out]; rfl, HW.out⟩
      ·rw [if_neg z0] at hq
       have HQ2 := Lib.hid hq
       clear hq HQ
       have z0' : ¬ (bt u k = 46 ∨ bt u k = 69) := fun h => z0 ((HBT.out k (by omega)).1 h)
       have z1b : (bt u k == 46) = false := beq_eq_false_iff_ne.2 (by omega)
       have z2b : (bt u k == 69) = false := beq_eq_false_iff_ne.2 (by omega)
       clear z0 z0'
       go_wp2
       exact ⟨⟨k + 1, by omega, by first | rfl | (congr 1; omega), HQ2.out, trivial⟩, by simp [intOf] <;> omega⟩
     ·obtain rfl : k = u.size := by omega
      have hq : dotL ys ys = ys ++ [46, 48] := by
       rw [← HQ.out, List.drop_of_length_le (by omega)]
       rfl
      have HQ2 := Lib.hid hq
      clear hq HQ
      go_wp2
      go_ret
      exact ⟨by rw [← HT.out, ← HU2.out, if_neg (by decide), if_neg (by decide), if_neg (by decide), HQ2.out, ← strOfNums_append]; rfl, HW.out⟩
theorem strIs_fn {s : ByteArray} {l : List Int} (h : StrIs s l) (hr : ∀ x ∈ l, 0 ≤ x ∧ x ≤ 255) : bt s = rn l := by
 funext j
 by_cases hj : j < l.length
 ·rw [StrIs.bt h hr j hj]
  rfl
 ·unfold bt rn
  rw [dif_neg (by rw [h.size]; exact hj), List.getD_eq_getElem?_getD, List.getElem?_eq_none (by omega)]
  rfl
theorem strIs_pre {s : ByteArray} {l : List Int} (h : StrIs s l) (k : Nat) : StrIs (s.extract 0 k) (l.take k) := (h.extract 0 k).cast (by simp)
theorem ExtCut_calls (s : ByteArray) (l : List Int) (n : Nat) (hs : StrIs s l) (hu : U8 l) (hl : l.length ≤ 100000000) (hn : n ≤ 65535) (w : World) :
  Calls Tryz.prog 10 #[.string s, .int .i64 n] w fun e w' => ∃ u, e = .returned (.string u) ∧ StrIs u (cutL l n) ∧ w' = w := by
 have hf := Lib.hid (strIs_fn hs hu.range)
 have HSZ := Lib.hid (show s.size = l.length from hs.size)
 have hsl : s.size ≤ 100000000 := by rw [HSZ.out]; exact hl
 have HS := Lib.hid hs
 clear hs
 go_enter Tryz.func10, Tryz.ntmps10
 go_wp2
 go_loopw [5] (fun i wr => ∃ k : Nat, k ≤ s.size ∧ k ≤ n ∧ i = .int .i64 k ∧ Hid (U8 (l.drop k)) ∧ wr = w) (fun i _ => s.size - (intOf i).toNat)
 case atStart => exact ⟨0, by omega, by omega, rfl, by rw [List.drop_zero]; exact hu, rfl⟩
 case round =>
  obtain ⟨k, hk, hkn, rfl, HU, rfl⟩ := hrel
  by_cases hlt : k < s.size
  ·have hd' : decide ((k : Int) < s.size) = true := decide_eq_true (by omega)
   obtain ⟨q, q1, q2, q3, q4, q5, q6, q7⟩ := HU.out.first (by intro h0; have := congrArg List.length h0; rw [List.length_drop, ← HSZ.out] at this; simp at this; omega)
   rw [List.length_drop, ← HSZ.out] at q3 q4
   have hz := size_suffix s k hk
   have hb := bt_suffix s k hk
   have hq : (runeF (bt (s.extract k s.size)) (s.extract k s.size).size).1 = q := by
    rw [hz, hb, hf.out, ← q4]
    congr 2
    funext j
    rw [rn_drop]
   have HZ := Lib.hid hz
   have HQ := Lib.hid hq
   have H5 : Hid (U8 (l.drop (k + q))) := by rw [List.drop_drop] at q5; exact q5
   have H6 : Hid (rn l k / 64 ≠ 2) := by rw [rn_drop, Nat.add_zero] at q6; exact q6
   have H7 : Hid (∀ j, 1 ≤ j → j < q → rn l (k + j) / 64 = 2) := fun j a b => by have := q7 j a b; rwa [rn_drop] at this
   clear q4 q5 q6 q7 hq hb hz
   go_wp2_with fail
   refine (extRune_calls (s.extract k s.size) (by rw [HZ.out]; unfold maxLen; omega) _).mono ?_
   rintro e w1 ⟨rfl, rfl⟩
   obtain ⟨rc, hrc⟩ : ∃ rc, (runeF (bt (s.extract k s.size)) (s.extract k s.size).size).2 = rc := ⟨_, rfl⟩
   rw [HQ.out, hrc]
   clear hrc
   have d1 : ((q : Int) == 0) = false := beq_eq_false_iff_ne.2 (by omega)
   by_cases hc : n < k + q
   ·have d2 : decide ((n : Int) < (k : Int) + q) = true := decide_eq_true (by omega)
    go_wp2
    go_ret
    refine ⟨_, rfl, (strIs_pre HS.out k).cast ?_, rfl⟩
    unfold cutL
    rw [if_neg (by have := HSZ.out; omega), cutAt_eq (k := k) (.inr H6.out) n hkn fun j a b => by have := H7.out (j - k) (by omega) (by omega); rwa [show k + (j - k) = j by omega] at this]
   ·have d2 : decide ((n : Int) < (k : Int) + q) = false := decide_eq_false (by omega)
    go_wp2
    exact ⟨⟨k + q, by omega, by omega, by first | rfl | (congr 1; omega), H5.out, trivial⟩, by simp [intOf] <;> omega⟩
  ·obtain rfl : k = s.size := by omega
   go_wp2
   go_ret
   exact ⟨_, rfl, HS.out.cast (by unfold cutL; rw [if_pos (by have := HSZ.out; omega)]), rfl⟩
theorem Truncate_calls (s : ByteArray) (l : List Int) (n : Nat) (hs : StrIs s l) (hr : ∀ x ∈ l, 0 ≤ x ∧ x ≤ 255) (hl : l.length ≤ 100000000) (hn : n ≤ 65535) (w : World) :
  Calls Tryz.prog 33 #[.string s, .int .i64 n] w fun e w' => ∃ u, e = .returned (.string u) ∧ StrIs u (cutL l n) ∧ w' = w := by
 have HF := Lib.hid (strIs_fn hs hr)
 have HSZ := Lib.hid (show s.size = l.length from hs.size)
 have hsl : s.size ≤ 100000000 := by rw [HSZ.out]; exact hl
 have HS := Lib.hid hs
 clear hs
 by_cases h0 : n = 0
 ·subst h0
  go_enter Tryz.func33, Tryz.ntmps33
  go_wp2
  go_ret
  refine ⟨_, rfl, ⟨?_⟩, rfl⟩
  unfold cutL
  split
  ·rename_i h; rw [List.eq_nil_of_length_eq_zero (l := l) (by omega)]; rfl
  ·rfl
 have d0 : decide ((n : Int) ≤ 0) = false := decide_eq_false (by omega)
 by_cases h1 : s.size ≤ n
 ·have d1 : decide ((s.size : Int) ≤ n) = true := decide_eq_true (by omega)
  go_enter Tryz.func33, Tryz.ntmps33
  go_wp2
  go_ret
  exact ⟨_, rfl, HS.out.cast (by unfold cutL; rw [if_pos (by have := HSZ.out; omega)]), rfl⟩
 have d1 : decide ((s.size : Int) ≤ n) = false := decide_eq_false (by omega)
 have hat : ∀ k (h : k < s.size), ((s[k]'h).toNat : Int) = rn l k := fun k h => by rw [bt_at s k h, HF.out]
 have hrg : ∀ k, 0 ≤ rn l k ∧ rn l k ≤ 255 := fun k => by rw [← HF.out]; exact bt_range s k
 have hcut : cutL l n = l.take (cutAt (rn l) n) := by unfold cutL; rw [if_neg (by have := HSZ.out; omega)]
 have HCUT := Lib.hid hcut
 clear hcut
 have hrs : ∀ x, Lib.runeStart x = (x / 64 != 2) := fun x => rfl
 have HAT := Lib.hid hat
 have HRG := Lib.hid hrg
 have HRS := Lib.hid hrs
 clear hat hrg hrs
 have ha := HAT.out n (by omega)
 have hg := HRG.out n
 obtain ⟨x, hx⟩ : ∃ x, rn l n = x := ⟨_, rfl⟩
 have HX := Lib.hid hx
 rw [hx] at ha hg
 clear hx
 have hC := Lib.hid (Tryz.utf8_RuneStart x w hg.1 (by omega))
 by_cases h2 : x / 64 = 2
 ·have hC2 : Hid (Lib.runeStart x = false) := by show _ = _; rw [HRS.out]; simp [h2]
  go_enter Tryz.func33, Tryz.ntmps33
  go_wp2_with fail
  refine hC.out.mono ?_
  rintro e w1 ⟨rfl, rfl⟩
  rw [hC2.out]
  go_wp2_with fail
  go_loopw [5] (fun i wr => ∃ k : Nat, k ≤ n ∧ i = .int .i64 k ∧ Hid (cutAt (rn l) k = cutAt (rn l) n) ∧ wr = w1) (fun i _ => (intOf i).toNat)
  case atStart => exact ⟨n, by omega, rfl, rfl, rfl⟩
  case round =>
   obtain ⟨k, hk, rfl, HK, rfl⟩ := hrel
   by_cases hk0 : k = 0
   ·subst hk0
    go_wp2
    go_ret
    refine ⟨_, rfl, ?_, rfl⟩
    rw [HCUT.out, ← HK.out]
    exact ⟨rfl⟩
   ·obtain ⟨m, rfl⟩ : ∃ m, k = m + 1 := ⟨k - 1, by omega⟩
    have e1 : decide (0 < ((m + 1 : Nat) : Int)) = true := decide_eq_true (by omega)
    have ha2 := HAT.out (m + 1) (by omega)
    have hg2 := HRG.out (m + 1)
    obtain ⟨y, hy⟩ : ∃ y, rn l (m + 1) = y := ⟨_, rfl⟩
    have HY := Lib.hid hy
    rw [hy] at ha2 hg2
    clear hy
    have hE := Lib.hid (fun W => Tryz.utf8_RuneStart y W hg2.1 (by omega))
    by_cases h3 : y / 64 = 2
    ·have hC3 : Hid (Lib.runeStart y = false) := by show _ = _; rw [HRS.out]; simp [h3]
     have hk2 : Hid (cutAt (rn l) m = cutAt (rn l) n) := by
      show _ = _
      rw [← HK.out]
      show _ = if rn l (m + 1) / 64 = 2 then cutAt (rn l) m else m + 1
      rw [HY.out, if_pos h3]
     go_wp2_with fail
     refine (hE.out _).mono ?_
     rintro e w9 ⟨rfl, rfl⟩
     rw [hC3.out]
     go_wp2_with fail
     exact ⟨⟨m, by omega, by first | rfl | (congr 1; omega), hk2.out, trivial⟩, by simp [intOf] <;> omega⟩
    ·have hC3 : Hid (Lib.runeStart y = true) := by show _ = _; rw [HRS.out]; simp [h3]
     have hk2 : Hid (cutAt (rn l) n = m + 1) := by
      show _ = _
      rw [← HK.out]
      show (if rn l (m + 1) / 64 = 2 then cutAt (rn l) m else m + 1) = _
      rw [HY.out, if_neg h3]
     go_wp2_with fail
     refine (hE.out _).mono ?_
     rintro e w9 ⟨rfl, rfl⟩
     rw [hC3.out]
     go_wp2_with fail
     go_ret
     exact ⟨_, rfl, (strIs_pre HS.out (m + 1)).cast (by rw [HCUT.out, hk2.out]), rfl⟩
 ·have hC2 : Hid (Lib.runeStart x = true) := by show _ = _; rw [HRS.out]; simp [h2]
  go_enter Tryz.func33, Tryz.ntmps33
  go_wp2_with fail
  refine hC.out.mono ?_
  rintro e w9 ⟨rfl, rfl⟩
  rw [hC2.out]
  go_wp2_with fail
  go_ret
  exact ⟨_, rfl, (strIs_pre HS.out n).cast (by rw [HCUT.out, cutAt_eq (k := n) (.inr (by rw [HX.out]; exact h2)) n (Nat.le_refl _) (fun j a b => by omega)]), rfl⟩
def pdig (N : Nat) : Nat → List Int
 | 0 => []
 | t + 1 => (48 + (N / 10 ^ t % 10 : Nat) : Int) :: pdig N t
theorem pdig_length (N : Nat) : ∀ t, (pdig N t).length = t
 | 0 => rfl
 | t + 1 => by simp [pdig, pdig_length N t]
theorem pdig_snoc (N : Nat) : ∀ t, pdig N (t + 1) = pdig (N / 10) t ++ [(48 + (N % 10 : Nat) : Int)]
 | 0 => by simp [pdig]
 | t + 1 => by
  show (48 + (N / 10 ^ (t + 1) % 10 : Nat) : Int) :: pdig N (t + 1) = (48 + (N / 10 / 10 ^ t % 10 : Nat) : Int) :: pdig (N / 10) t ++ _
  rw [pdig_snoc N t, Nat.div_div_eq_div_mul, Nat.pow_succ, Nat.mul_comm 10]
  rfl
theorem digs0_pdig (k : Nat) : ∀ n, n ≤ k → digs0 n = pdig n (digs0 n).length := by
  induction k with
  | zero => intro n hn; have : n = 0 := by omega
            subst this; rw [digs0_zero]; rfl
  | succ k ih =>
    intro n hn
    by_cases h : n = 0
    · subst h; rw [digs0_zero]; rfl
    · have e := ih (n / 10) (by omega)
      rw [digs0_pos h, List.length_append, List.length_singleton, pdig_snoc, ← e]
theorem digs_pdig (n : Nat) : digs n = pdig n (digs n).length := by
 unfold digs
 split
 ·rename_i h; subst h; rfl
 ·exact digs0_pdig n n (Nat.le_refl _)
theorem digs0_pow (k : Nat) : ∀ n, n ≤ k → n < 10 ^ (digs0 n).length ∧ (n ≠ 0 → 1 ≤ (digs0 n).length ∧ 10 ^ ((digs0 n).length - 1) ≤ n) := by
  induction k with
  | zero => intro n hn; have : n = 0 := by omega
            subst this; rw [digs0_zero]; simp
  | succ k ih =>
    intro n hn
    by_cases h : n = 0
    · subst h; rw [digs0_zero]; simp
    · obtain ⟨h1, h2⟩ := ih (n / 10) (by omega)
      rw [digs0_pos h, List.length_append, List.length_singleton]
      refine ⟨?_, fun _ => ⟨by omega, ?_⟩⟩
      · rw [Nat.pow_succ]; omega
      · rw [Nat.add_sub_cancel]
        by_cases h3 : n / 10 = 0
        · rw [h3, digs0_zero]; simp; omega
        · obtain ⟨h4, h5⟩ := h2 h3
          obtain ⟨m, hm⟩ : ∃ m, (digs0 (n / 10)).length = m + 1 := ⟨(digs0 (n / 10)).length - 1, by omega⟩
          rw [hm] at h5 ⊢
          rw [Nat.add_sub_cancel] at h5
          rw [Nat.pow_succ]
          omega
theorem digs_div {n t : Nat} (ht : 1 ≤ t) : n / 10 ^ t = 0 ↔ (digs n).length ≤ t := by
 by_cases h : n = 0
 ·subst h
  constructor
  ·intro _; show 1 ≤ t; exact ht
  ·intro _; exact Nat.zero_div _
 ·obtain ⟨h1, h2⟩ := digs0_pow n n (Nat.le_refl _)
  obtain ⟨h3, h4⟩ := h2 h
  have e : digs n = digs0 n := by unfold digs; rw [if_neg h]
  rw [e, Nat.div_eq_zero_iff]
  have hp : 0 < 10 ^ t := Nat.pow_pos (by omega)
  constructor
  ·intro h5
   rcases h5 with h5 | h5
   ·omega
   ·by_cases hc : (digs0 n).length ≤ t
    ·exact hc
    ·have : 10 ^ t ≤ 10 ^ ((digs0 n).length - 1) := Nat.pow_le_pow_right (by omega) (by omega)
     omega
  ·intro h5
   exact .inr (Nat.lt_of_lt_of_le h1 (Nat.pow_le_pow_right (by omega) h5))
theorem pdig_pad (n : Nat) : ∀ d, pdig n ((digs n).length + d) = List.replicate d 48 ++ digs n
 | 0 => by rw [Nat.add_zero, ← digs_pdig]; rfl
 | d + 1 => by
  have hl : 1 ≤ (digs n).length := by
   unfold digs
   split
   ·exact Nat.le_refl 1
   ·rename_i h; exact ((digs0_pow n n (Nat.le_refl _)).2 h).1
  show (48 + (n / 10 ^ ((digs n).length + d) % 10 : Nat) : Int) :: pdig n ((digs n).length + d) = _
  rw [(digs_div (n := n) (t := (digs n).length + d) (by omega)).2 (by omega), pdig_pad n d, List.replicate_succ]
  rfl
theorem pdig_drop (N : Nat) (t p : Nat) (h : p ≤ t) : (pdig N t).drop (t - p) = pdig N p := by
  induction t with
  | zero => have : p = 0 := by omega
            subst this; rfl
  | succ t ih =>
    by_cases hp : p = t + 1
    · subst hp; rw [Nat.sub_self, List.drop_zero]
    · rw [show t + 1 - p = (t - p) + 1 by omega]
      exact ih (by omega)
def ptxt (N : Nat) (t p : Nat) : List Int := (pdig N t).take (t - p) ++ 46 :: pdig N p
theorem ptxt_succ (N : Nat) {t p : Nat} (h : p ≤ t) : ptxt N (t + 1) p = (48 + (N / 10 ^ t % 10 : Nat) : Int) :: ptxt N t p := by
 unfold ptxt
 rw [show t + 1 - p = (t - p) + 1 by omega]
 rfl
theorem ptxt_same (N p : Nat) : ptxt N p p = 46 :: pdig N p := by unfold ptxt; rw [Nat.sub_self, List.take_zero]; rfl
theorem decBody_sci {n : Nat} {e : Int} (h : 0 < e ∨ e + (digs n).length - 1 < -6) :
  decBody (digs n) e = (if (digs n).length = 1 then digs n else ptxt n (digs n).length ((digs n).length - 1)) ++ (if 0 ≤ e + (digs n).length - 1 then [69, 43] else [69]) ++ numF (e + (digs n).length - 1) := by
 have hl : 1 ≤ (digs n).length := by
  unfold digs
  split
  ·exact Nat.le_refl 1
  ·rename_i h; exact ((digs0_pow n n (Nat.le_refl _)).2 h).1
 unfold decBody
 rw [if_pos h]
 congr 2
 by_cases h1 : (digs n).length = 1
 ·rw [if_pos h1, if_neg (by omega), List.append_nil, List.take_of_length_le (by omega)]
 ·rw [if_neg h1, if_pos (by omega)]
  unfold ptxt
  rw [← digs_pdig, show (digs n).length - ((digs n).length - 1) = 1 by omega]
  congr 2
  have := pdig_drop n (digs n).length ((digs n).length - 1) (by omega)
  rw [show (digs n).length - ((digs n).length - 1) = 1 by omega, ← digs_pdig] at this
  exact this
theorem decBody_plain {n : Nat} (h : ¬ ((digs n).length : Int) - 1 < -6) : decBody (digs n) 0 = digs n := by
 unfold decBody
 rw [if_neg (by omega), if_pos rfl]
theorem decBody_fix {n p : Nat} (hp : 1 ≤ p) (h : ¬ -(p : Int) + (digs n).length - 1 < -6) : decBody (digs n) (-(p : Int)) = ptxt n (max (digs n).length (p + 1)) p := by
 unfold decBody
 rw [if_neg (by omega), if_neg (by omega)]
 unfold decFixed
 have e1 : (- -(p : Int) + 1 - (digs n).length).toNat = p + 1 - (digs n).length := by omega
 have e2 : List.replicate (p + 1 - (digs n).length) (48 : Int) ++ digs n = pdig n (max (digs n).length (p + 1)) := by
  rw [show max (digs n).length (p + 1) = (digs n).length + (p + 1 - (digs n).length) by omega, pdig_pad]
 rw [e1, e2, pdig_length]
 have e3 : ((max (digs n).length (p + 1) : Nat) + -(p : Int)).toNat = max (digs n).length (p + 1) - p := by omega
 rw [e3, pdig_drop n _ p (by omega)]
 rfl
structure DPlan (nd : Nat) (e : Int) (hd : Bool) (q T : Nat) (E : Int) : Prop where
 T1 : 1 ≤ T
 T41 : T ≤ 41
 qT : hd = true → 1 ≤ q ∧ q < T
 EE : E = if hd then e + q else e
 pre : ∀ t : Nat, t < T → ¬ (hd = true ∧ q < t) → ((1 ≤ t ∧ (e = -t ∨ (nd = t + 1 ∧ (e < -t - 6 ∨ 0 < e)))) ↔ (hd = true ∧ t = q))
 pre2 : ∀ t : Nat, t < T → hd = true → q < t → ¬ (nd = t + 1 ∧ 0 < E)
 post : ∀ t : Nat, t < T → ¬ (hd = true ∧ q ≤ t) → (((nd ≤ t + 1 ∧ t = 0 ∧ (e < -6 ∨ 0 < e)) ∨ (-(t : Int) - 1 < e ∧ nd ≤ t + 1)) ↔ t + 1 = T)
 post2 : ∀ t : Nat, t < T → hd = true → q ≤ t → (nd ≤ t + 1 ↔ t + 1 = T)
 last : (hd = true ∧ T = q + 1) ∨ (T = nd ∧ (nd = 1 → e = 0 ∨ e < -6 ∨ 0 < e))
theorem plan_of (n : Nat) (e : Int) (hl : (digs n).length ≤ 34) (h0 : -100000 ≤ e) (h1 : e ≤ 100000) : ∃ hd q T E, DPlan (digs n).length e hd q T E ∧
  decBody (digs n) e = (if hd then ptxt n T q else pdig n T) ++ (if 0 < E then [69, 43] ++ numF E else if E < 0 then [69] ++ numF E else []) := by
 have hp : 1 ≤ (digs n).length := by
  unfold digs
  split
  ·exact Nat.le_refl 1
  ·rename_i h; exact ((digs0_pow n n (Nat.le_refl _)).2 h).1
 obtain ⟨nd, hnd⟩ : ∃ k, (digs n).length = k := ⟨_, rfl⟩
 have hpd := digs_pdig n
 rw [hnd] at hl hp hpd ⊢
 by_cases hs : 0 < e ∨ e + nd - 1 < -6
 ·have hb := decBody_sci (n := n) (e := e) (by rw [hnd]; exact hs)
  rw [hnd] at hb
  by_cases hn1 : nd = 1
  ·subst hn1
   refine ⟨false, 0, 1, e, ⟨by omega, by omega, ?_, ?_, ?_, ?_, ?_, ?_, ?_⟩, ?_⟩
   ·intro h; cases h
   ·rfl
   ·intro t ht _
    refine ⟨fun h => by omega, fun h => ?_⟩
    exact absurd h.1 (by decide)
   ·intro t ht h; cases h
   ·intro t ht _
    omega
   ·intro t ht h; cases h
   ·right
    exact ⟨rfl, fun _ => by omega⟩
   ·rw [hb, if_pos rfl]
    have e1 : e + ((1 : Nat) : Int) - 1 = e := by omega
    rw [e1]
    rcases hs with h | h
    ·have a1 : 0 ≤ e := by omega
     simp [a1, h, ← hpd]
    ·have a1 : ¬ 0 ≤ e := by omega
     have a2 : ¬ 0 < e := by omega
     have a3 : e < 0 := by omega
     simp [a1, a2, a3, ← hpd]
  ·refine ⟨true, nd - 1, nd, e + nd - 1, ⟨by omega, by omega, ?_, ?_, ?_, ?_, ?_, ?_, ?_⟩, ?_⟩
   ·intro _; omega
   ·simp; omega
   ·intro t ht h
    refine ⟨fun h2 => ⟨rfl, by omega⟩, fun h2 => ?_⟩
    have := h2.2
    omega
   ·intro t ht _ h
    omega
   ·intro t ht h
    have h3 : ¬ (nd - 1 ≤ t) := fun h3 => h ⟨rfl, h3⟩
    omega
   ·intro t ht _ h
    omega
   ·left
    exact ⟨rfl, by omega⟩
   ·rw [hb, if_neg hn1]
    have hs2 : 1 ≤ e + nd - 1 ∨ e + nd - 1 < -6 := by omega
    generalize e + (nd : Int) - 1 = E at hs2 ⊢
    rcases hs2 with h | h
    ·have a1 : 0 ≤ E := by omega
     have a2 : 0 < E := by omega
     simp [a1, a2]
    ·have a1 : ¬ 0 ≤ E := by omega
     have a2 : ¬ 0 < E := by omega
     have a3 : E < 0 := by omega
     simp [a1, a2, a3]
 ·by_cases he : e = 0
  ·subst he
   refine ⟨false, 0, nd, 0, ⟨by omega, by omega, ?_, ?_, ?_, ?_, ?_, ?_, ?_⟩, ?_⟩
   ·intro h; cases h
   ·rfl
   ·intro t ht _
    refine ⟨fun h => by omega, fun h => ?_⟩
    exact absurd h.1 (by decide)
   ·intro t ht h; cases h
   ·intro t ht _
    omega
   ·intro t ht h; cases h
   ·right
    exact ⟨rfl, fun _ => .inl rfl⟩
   ·rw [decBody_plain (by rw [hnd]; omega)]
    simp
    exact hpd
  ·obtain ⟨p, hpe⟩ : ∃ p : Nat, e = -(p : Int) := ⟨(-e).toNat, by omega⟩
   subst hpe
   refine ⟨true, p, max nd (p + 1), 0, ⟨by omega, by omega, ?_, ?_, ?_, ?_, ?_, ?_, ?_⟩, ?_⟩
   ·intro _; omega
   ·simp; omega
   ·intro t ht h
    refine ⟨fun h2 => ⟨rfl, by omega⟩, fun h2 => ?_⟩
    have := h2.2
    omega
   ·intro t ht _ h
    omega
   ·intro t ht h
    have h3 : ¬ (p ≤ t) := fun h3 => h ⟨rfl, h3⟩
    omega
   ·intro t ht _ h
    omega
   ·by_cases hc : nd ≤ p + 1
    ·exact .inl ⟨rfl, by omega⟩
    ·exact .inr ⟨by omega, fun _ => by omega⟩
   ·rw [decBody_fix (by omega) (by rw [hnd]; omega), hnd]
    simp
theorem digs_zero (n t : Nat) (ht : 1 ≤ t) : n / 10 ^ t = 0 ↔ (digs n).length ≤ t := digs_div ht
end Go.Proofs.YtkeakdjbidbegaaGreatDoor
