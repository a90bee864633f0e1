/- A part of the proof that laws.FnExtKind returns true at every input: Open, Fd, Ftoa, Dbl. -/
import Derived.Test.YtlgmlfhalgnppaaGreatDoorA
import Derived.ProofKit
import Derived.OpenShut
import Derived.Test.YtlgmlfhalgnppaaGreatDoorG
import Derived.Test.YtlgmlfhalgnppaaGreatDoorI
import Derived.Test.YtlgmlfhalgnppaaGreatDoorF
import Derived.BigQuiet
import Derived.Deep.RegionHeld3
import Derived.Deep.DeepMust
/-! impl.Val out of the data that came in. -/
set_option linter.unusedSimpArgs false
set_option linter.unusedVariables false
namespace Go.Proofs.YtlgmlfhalgnppaaGreatDoor
open Go.RowKit Go.WideShapes
open Go.Proofs.YtlgmlfhalgnppaaGreatDoorW.PrintWords hiding bt bt_at bt_range
theorem list_of_all {α : Type} {Q : Nat → α → Prop} : ∀ n : Nat, (∀ i, i < n → ∃ y, Q i y) → ∃ l : List α, l.length = n ∧ ∀ i (h : i < l.length), Q i l[i]
  | 0, _ => ⟨[], rfl, fun i h => absurd h (by simp)⟩
  | n + 1, H => by
    obtain ⟨l, hl, hq⟩ := list_of_all n (fun i hi => H i (by omega))
    obtain ⟨y, hy⟩ := H n (by omega)
    refine ⟨l ++ [y], by simp [hl], fun i h => ?_⟩
    by_cases hi : i < l.length
    · rw [List.getElem_append_left hi]; exact hq i hi
    · have : i = n := by simp at h; omega
      subst this
      rw [List.getElem_append_right (by omega)]
      simpa [hl] using hy
theorem addr_add_add (a : Addr) (i j : Nat) : (a.add i).add j = a.add (i + j) := by
  unfold Addr.add
  by_cases hi : i = 0
  · subst hi; simp
  · by_cases hj : j = 0
    · subst hj; simp
    · simp only [hi, hj, if_false, if_neg, show ¬ (i + j = 0) by omega]
      simp [Nat.add_assoc]
theorem wf_i64 {n : Int} (h : (Lit.int .i64 n).wf = true) : -9223372036854775808 ≤ n ∧ n ≤ 9223372036854775807 := by
  simpa [Lit.wf, IntKind.min, IntKind.max, IntKind.bits, IntKind.signed] using h
theorem wf_u64 {n : Int} (h : (Lit.int .u64 n).wf = true) : 0 ≤ n ∧ n < 18446744073709551616 := by
  have : 0 ≤ n ∧ n ≤ 18446744073709551615 := by simpa [Lit.wf, IntKind.min, IntKind.max, IntKind.bits, IntKind.signed] using h
  omega
theorem wf_u8 {n : Int} (h : (Lit.int .u8 n).wf = true) : 0 ≤ n ∧ n ≤ 255 := by
  simpa [Lit.wf, IntKind.min, IntKind.max, IntKind.bits, IntKind.signed] using h
/-- A slice of bytes that came in. -/
theorem open_u8s {H : Type} {enc : TypeId × Value → H} {W : World} {n : Nat} {c : Value} {x : DataW H × List MemPlace} (h : DataW.trod enc Tryz.prog W 0 (fun _ => true) true n 23 [c] = some x) :
    ∃ (A : Option Addr) (bs : List Int) (bc : Nat), c = .slice A bs.length bc ∧ ReadsInt W .u8 A bs.length bs ∧ bs.length ≤ bc ∧ bc ≤ maxLen ∧ ∀ x ∈ bs, 0 ≤ x ∧ x ≤ 255 := by
  rcases ChangeShapes.open_ints Tryz.underlying23 Tryz.underlying5 (by kernel_rfl) h with ⟨hc, _⟩ | ⟨a, len, cap, zs, hc, _, hl, hm, hz, _, hcell, hwf⟩
  · injection hc with hc
    exact ⟨none, [], 0, hc, ⟨rfl, by simp, fun h => absurd h (by simp)⟩, by simp, by simp [maxLen], by simp⟩
  · injection hc with hc
    simp only [if_true] at hz
    have hlen : (zs.take len).length = len := by rw [List.length_take]; omega
    have hm2 : cap ≤ 9223372036854775807 := by simpa [maxLen] using hm
    refine ⟨some a, zs.take len, cap, by rw [hlen]; exact hc, ⟨rfl, by omega, fun _ => ⟨a, rfl, fun j hj => ?_⟩⟩, by omega, hm, fun x hx => wf_u8 (hwf x (List.mem_of_mem_take hx))⟩
    rw [hcell j (by omega)]
    congr 2
    simp only [List.getD_eq_getElem?_getD]
    rw [List.getElem?_take_of_lt (by omega)]
theorem val_cells : Tryz.prog.cellsOf 26 = 8 := by kernel_rfl
theorem elem_cells : Tryz.prog.cellsOf 32 = 9 := by kernel_rfl
theorem one_cells : Tryz.prog.cellsOf 3 = 1 ∧ Tryz.prog.cellsOf 9 = 1 ∧ Tryz.prog.cellsOf 2 = 1 ∧ Tryz.prog.cellsOf 22 = 1 ∧ Tryz.prog.cellsOf 23 = 1 ∧ Tryz.prog.cellsOf 24 = 1 ∧ Tryz.prog.cellsOf 5 = 1 := ⟨by kernel_rfl, by kernel_rfl, by kernel_rfl, by kernel_rfl, by kernel_rfl, by kernel_rfl, by kernel_rfl⟩
set_option maxRecDepth 100000 in
theorem open_val {H : Type} {enc : TypeId × Value → H} (W : World) : ∀ (fuel : Nat) (cs : List Value) (x : DataW H × List MemPlace), DataW.trod enc Tryz.prog W 0 (fun _ => true) true fuel 26 cs = some x → ∃ t : VT, cs = t.cells ∧ ∀ d, VT.In W d t := by
  intro fuel
  induction fuel using Nat.strongRecOn with
  | _ fuel ih =>
    intro cs x h
    obtain ⟨xs, n, rfl, _, hl, hxl, hf⟩ := DataW.trod_struct Tryz.underlying26 h
    rw [val_cells] at hl
    have hx8 : xs.length = 8 := hxl
    obtain ⟨oi, os, oi64, ou64, ob, ok, _⟩ := one_cells
    have g : ∀ (i : Nat) (hi : i < 8), xs[i]? = some (xs[i]'(by omega)) := fun i hi => List.getElem?_eq_getElem _
    obtain ⟨c0, c1, c2, c3, c4, c5, c6, c7, rfl⟩ : ∃ c0 c1 c2 c3 c4 c5 c6 c7, cs = [c0, c1, c2, c3, c4, c5, c6, c7] := by
      match cs, hl with
      | [c0, c1, c2, c3, c4, c5, c6, c7], _ => exact ⟨_, _, _, _, _, _, _, _, rfl⟩
    have e0 : DataW.trod enc Tryz.prog W 0 (fun _ => true) true n 3 [c0] = some (xs[0]'(by omega)) := by have := hf 0 _ rfl; rw [g 0 (by omega)] at this; simpa [oi] using this
    have e1 : DataW.trod enc Tryz.prog W 0 (fun _ => true) true n 9 [c1] = some (xs[1]'(by omega)) := by have := hf 1 _ rfl; rw [g 1 (by omega)] at this; simpa [os] using this
    have e2 : DataW.trod enc Tryz.prog W 0 (fun _ => true) true n 9 [c2] = some (xs[2]'(by omega)) := by have := hf 2 _ rfl; rw [g 2 (by omega)] at this; simpa [os] using this
    have e3 : DataW.trod enc Tryz.prog W 0 (fun _ => true) true n 2 [c3] = some (xs[3]'(by omega)) := by have := hf 3 _ rfl; rw [g 3 (by omega)] at this; simpa [oi64] using this
    have e4 : DataW.trod enc Tryz.prog W 0 (fun _ => true) true n 22 [c4] = some (xs[4]'(by omega)) := by have := hf 4 _ rfl; rw [g 4 (by omega)] at this; simpa [ou64] using this
    have e5 : DataW.trod enc Tryz.prog W 0 (fun _ => true) true n 22 [c5] = some (xs[5]'(by omega)) := by have := hf 5 _ rfl; rw [g 5 (by omega)] at this; simpa [ou64] using this
    have e6 : DataW.trod enc Tryz.prog W 0 (fun _ => true) true n 23 [c6] = some (xs[6]'(by omega)) := by have := hf 6 _ rfl; rw [g 6 (by omega)] at this; simpa [ob] using this
    have e7 : DataW.trod enc Tryz.prog W 0 (fun _ => true) true n 24 [c7] = some (xs[7]'(by omega)) := by have := hf 7 _ rfl; rw [g 7 (by omega)] at this; simpa [ok] using this
    obtain ⟨k, h0, _, w0⟩ := DataW.trod_int Tryz.underlying3 e0
    obtain ⟨tx, h1, _, w1⟩ := DataW.trod_string Tryz.underlying9 e1
    obtain ⟨mo, h2, _, w2⟩ := DataW.trod_string Tryz.underlying9 e2
    obtain ⟨nn, h3, _, w3⟩ := DataW.trod_int Tryz.underlying2 e3
    obtain ⟨bi, h4, _, w4⟩ := DataW.trod_int Tryz.underlying22 e4
    obtain ⟨hi, h5, _, w5⟩ := DataW.trod_int Tryz.underlying22 e5
    obtain ⟨bA, bs, bc, h6, hR, hbl, hbm, hbr⟩ := open_u8s e6
    injection h0 with h0
    injection h1 with h1
    injection h2 with h2
    injection h3 with h3
    injection h4 with h4
    injection h5 with h5
    have hK : ∃ (kA : Option Addr) (kids : List (ByteArray × VT)) (kc : Nat), c7 = .slice kA kids.length kc ∧ kids.length ≤ kc ∧ kc ≤ maxLen ∧
        (0 < kids.length → ∃ ad, kA = some ad ∧ ∀ i (h : i < kids.length), W.cell? (ad.add (9 * i)) = some (.string kids[i].1) ∧ kids[i].1.size ≤ maxLen ∧
          (∀ j (hj : j < 8), W.cell? (ad.add (9 * i + 1 + j)) = some (kids[i].2.cells[j]'(by simpa [VT.cells] using hj))) ∧ ∀ d, VT.In W d kids[i].2) := by
      rcases DataW.trod_slice Tryz.underlying24 e7 with ⟨hc, _⟩ | ⟨a, len, cap, elems, rest, m, hfu, hc, _, _, hlc, hcm, hel, hE, _, _⟩
      · injection hc with hc
        exact ⟨none, [], 0, hc, by simp, by simp [maxLen], fun h => absurd h (by simp)⟩
      · injection hc with hc
        have hall : ∀ i, i < len → ∃ q : ByteArray × VT, W.cell? (a.add (9 * i)) = some (.string q.1) ∧ q.1.size ≤ maxLen ∧
            (∀ j (hj : j < 8), W.cell? (a.add (9 * i + 1 + j)) = some (q.2.cells[j]'(by simpa [VT.cells] using hj))) ∧ ∀ d, VT.In W d q.2 := by
          intro i hil
          have hb := hE i hil
          rw [elem_cells, List.getElem?_eq_getElem (by omega)] at hb
          obtain ⟨ci, hci, hti⟩ := Option.bind_eq_some_iff.1 hb
          obtain ⟨_, hcl, hcc⟩ := World.cells?_some hci
          obtain ⟨ys, m2, hm2, _, hl2, hyl, hf2⟩ := DataW.trod_struct Tryz.underlying32 hti
          have hy2 : ys.length = 2 := hyl
          obtain ⟨d0, d1, d2, d3, d4, d5, d6, d7, d8, rfl⟩ : ∃ d0 d1 d2 d3 d4 d5 d6 d7 d8, ci = [d0, d1, d2, d3, d4, d5, d6, d7, d8] := by
            match ci, hcl with
            | [d0, d1, d2, d3, d4, d5, d6, d7, d8], _ => exact ⟨_, _, _, _, _, _, _, _, _, rfl⟩
          have q0 : DataW.trod enc Tryz.prog W 0 (fun _ => true) true m2 9 [d0] = some (ys[0]'(by omega)) := by have := hf2 0 _ rfl; rw [List.getElem?_eq_getElem (by omega)] at this; simpa [os] using this
          have q1 : DataW.trod enc Tryz.prog W 0 (fun _ => true) true m2 26 [d1, d2, d3, d4, d5, d6, d7, d8] = some (ys[1]'(by omega)) := by have := hf2 1 _ rfl; rw [List.getElem?_eq_getElem (by omega)] at this; simpa [val_cells] using this
          obtain ⟨nm, g0, _, gs⟩ := DataW.trod_string Tryz.underlying9 q0
          injection g0 with g0
          obtain ⟨t, ht, hin⟩ := ih m2 (by omega) _ _ q1
          refine ⟨(nm, t), ?_, gs, fun j hj => ?_, hin⟩
          · have := hcc 0 (by omega)
            rw [addr_add_add] at this
            rw [show 9 * i = i * 9 + 0 by omega, this, g0]
            rfl
          · have := hcc (1 + j) (by omega)
            rw [addr_add_add] at this
            rw [show 9 * i + 1 + j = i * 9 + (1 + j) by omega, this]
            show ([d0, d1, d2, d3, d4, d5, d6, d7, d8] : List Value)[1 + j]? = _
            rw [show 1 + j = j + 1 by omega, List.getElem?_cons_succ, ht]
            exact List.getElem?_eq_getElem _
        obtain ⟨kids, hkl, hk⟩ := list_of_all len hall
        exact ⟨some a, kids, cap, by rw [hkl]; exact hc, by omega, hcm, fun _ => ⟨a, rfl, hk⟩⟩
    obtain ⟨kA, kids, kc, h7, hk1, hk2, hk3⟩ := hK
    refine ⟨VT.mk k tx mo nn bi hi bA bs bc kA kids kc, by rw [h0, h1, h2, h3, h4, h5, h6, h7]; rfl, fun d => ?_⟩
    cases d with
    | zero => trivial
    | succ d =>
      refine ⟨wf_i64 w0, wf_i64 w3, wf_u64 w4, wf_u64 w5, w1, w2, hR, hbl, hbr, hk1, hk2, fun h => ?_⟩
      obtain ⟨ad, ha, hc⟩ := hk3 h
      exact ⟨ad, ha, fun i hi => ⟨(hc i hi).1, (hc i hi).2.1, (hc i hi).2.2.1, (hc i hi).2.2.2 d⟩⟩
end Go.Proofs.YtlgmlfhalgnppaaGreatDoor
/-! internal/strconv.numDigits of any number, setDigits. -/
set_option linter.unusedSimpArgs false
set_option linter.unusedVariables false
namespace Go.Proofs.YtlgmlfhalgnppaaGreatDoor
open Go.RowKit
open Go.Proofs.YtlgmlfhalgnppaaGreatDoorW.PrintWords hiding bt bt_at bt_range
/-- How many digits are formatted. -/
def ndg (u : Nat) : Nat := if u = 0 then 0 else Lib.nDigits u
theorem ndg_le (u : Nat) (hu : u < 18446744073709551616) : ndg u ≤ 20 := by
  unfold ndg
  split
  · omega
  · have := Lib.numDigits_eq u (by omega) hu
    split at this <;> omega
theorem ndg_lt (u : Nat) : u < 10 ^ ndg u := by
  unfold ndg
  split
  · rename_i h; subst h; simp
  · exact Lib.lt_pow_nDigits u
set_option maxRecDepth 100000 in
theorem numDigits0_calls (w : World) (ht : Pow10W w) : Calls Tryz.prog 63 #[.int .u64 0] w fun e w' => e = .returned (.int .i64 0) ∧ w' = w := by
  have hL := Tryz.bits_Len64 0 w (by omega) (by omega)
  have hl := log10Pow2_calls 0 (by omega) (by omega) w
  have hc := ht.cell (show Tryz.prog.globalNamed "internal/strconv.uint64pow10" = some 2 by kernel_rfl) 0 (by decide)
  rw [show Lib.pow10Tab.getD 0 0 = 1 by decide] at hc
  have HL := Lib.hid hL
  have Hl := Lib.hid hl
  clear hL hl
  go_enter Tryz.func63, Tryz.ntmps63
  go_wp2_with fail
  refine HL.out.mono ?_
  rintro e w1 ⟨rfl, rfl⟩
  rw [show Lib.bitLen (Int.toNat 0) = 0 by decide]
  go_wp2_with fail
  refine Hl.out.mono ?_
  rintro e w1 ⟨rfl, rfl⟩
  go_wp2_with fail
  refine (Tryz.internal_strconv_bool2_int false _).mono ?_
  rintro e w1 ⟨rfl, rfl⟩
  go_wp2_with fail
  go_ret
  exact ⟨rfl, rfl⟩
theorem numDigits_calls (u : Nat) (hu : u < 18446744073709551616) (w : World) (ht : Pow10W w) : Calls Tryz.prog 63 #[.int .u64 u] w fun e w' => e = .returned (.int .i64 (ndg u)) ∧ w' = w := by
  unfold ndg
  by_cases h : u = 0
  · subst h
    exact numDigits0_calls w ht
  · rw [if_neg h]
    exact Tryz.internal_strconv_numDigits u (by omega) hu w ht
theorem keeps_putRow {α : Type} [Inhabited α] (enc : α → Value) (w : World) (B blk off : Nat) (d : Array α) : Keeps B [blk] w (Sort.putRow enc w blk off d) := by
  refine ⟨rfl, rfl, rfl, by simp [Sort.putRow, Sort.mapBlock], fun k hk hn => ?_⟩
  have : k ≠ blk := by simpa using hn
  simp [Sort.putRow, Sort.mapBlock, Array.getElem?_modify, Ne.symm this]
/-- What setDigits leaves: the places of the digits, how many there are, and the bytes of the row. -/
structure SetD (U : Nat) (N : Nat) (p : Int) (w : World) (e : Ending) (w' : World) : Prop where
  out : ∃ nd : Nat, nd ≤ N ∧ e = .returned (.tuple #[.int .i64 (N + p), .int .i64 nd])
  keeps : Keeps w.heap.size [U] w w'
  reads : ∃ l, ReadsInt w' .u8 (some ⟨U, 0, none⟩) 32 l
set_option maxRecDepth 100000 in
set_option maxHeartbeats 1000000 in
theorem setDigits_calls (U : Nat) (u : Nat) (hu : u < 18446744073709551616) (p : Int) (p0 : -400 ≤ p) (p1 : p ≤ 400) (w : World) (hz : ∀ j, j < 32 → w.cell? ⟨U, j, none⟩ = some (.int .u8 0)) (hf : ∀ j, w.frozen? ⟨U, j, none⟩ = false) (hU : U < w.heap.size) :
    Calls Tryz.prog 88 #[.slice (some ⟨U, 0, none⟩) 32 32, .int .u64 u, .int .i64 p, .int .i64 (ndg u)] w (SetD U (ndg u) p w) := by
  have hnd := ndg_le u hu
  have hH : Sort.Holds (fun (b : UInt8) => Value.int .u8 (b.toNat : Int)) w U 0 (Array.replicate (ndg u) (0 : UInt8)) := fun j hj => by
    have hj' : j < ndg u := by simpa using hj
    refine ⟨?_, by simpa using hf j⟩
    rw [Nat.zero_add, hz j (by omega), getElem!_pos _ j hj]
    simp
  have hfmt := Tryz.internal_strconv_formatBase10 U 0 32 u (Array.replicate (ndg u) 0) w hH (by rw [Array.size_replicate]; exact ndg_lt u) hu (by rw [Array.size_replicate]; omega)
  rw [Array.size_replicate] at hfmt
  have HH := Lib.hid hH
  have HF := Lib.hid hfmt
  have HZ := Lib.hid hz
  clear hH hfmt hz
  obtain ⟨N, hN⟩ : ∃ N, N = ndg u := ⟨_, rfl⟩
  rw [← hN] at HH HF hnd ⊢
  clear hN
  go_enter Tryz.func88, Tryz.ntmps88
  go_wp2_with fail
  refine HF.out.mono ?_
  rintro e w' ⟨rfl, k, v', dk, rfl, hF⟩
  obtain ⟨W, hW⟩ : ∃ W, W = (Sort.putRow (fun (b : UInt8) => Value.int .u8 (b.toNat : Int)) w U 0 dk).drewN k := ⟨_, rfl⟩
  rw [← hW]
  have hsz : dk.size = (Array.replicate N (0 : UInt8)).size := by rw [hF.size, Array.size_replicate]
  have hsz2 : dk.size = N := hF.size
  have hcell : ∀ j, j < 32 → ∃ x : Int, W.cell? ⟨U, j, none⟩ = some (.int .u8 x) := fun j hj => by
    rw [hW, World.cell?_drewN]
    by_cases hjN : j < dk.size
    · have := Sort.cell?_putRow (fun (b : UInt8) => Value.int .u8 (b.toNat : Int)) w U 0 _ dk HH.out hsz j hjN
      rw [Nat.zero_add] at this
      exact ⟨_, this⟩
    · rw [Sort.cell?_putRow_other _ _ _ _ _ _ (Or.inr (Or.inr (by show 0 + dk.size ≤ j; omega)))]
      exact ⟨0, HZ.out j hj⟩
  have hkeep : Keeps w.heap.size [U] w W := by
    rw [hW]
    exact (keeps_putRow _ w _ U 0 dk).drewN k
  have hreads : ∃ l, ReadsInt W .u8 (some ⟨U, 0, none⟩) 32 l := by
    obtain ⟨l, hl, hq⟩ := list_of_all (Q := fun j (x : Int) => W.cell? ⟨U, j, none⟩ = some (.int .u8 x)) 32 hcell
    refine ⟨l, hl, by omega, fun _ => ⟨⟨U, 0, none⟩, rfl, fun j hj => ?_⟩⟩
    rw [add_plain, hq j (by omega), List.getD_eq_getElem?_getD, List.getElem?_eq_getElem (by omega)]
    rfl
  have HRD := Lib.hid hreads
  have HC := Lib.hid hcell
  have HK := Lib.hid hkeep
  clear hW hsz hsz2 hF hcell hkeep HF HH HZ hreads
  go_wp2_with fail
  go_loopw [3] (fun q wr => ∃ k : Nat, k ≤ N ∧ q = .int .i64 k ∧ wr = W) (fun q _ => (intOf q).toNat)
  case atStart => exact ⟨N, by omega, rfl, rfl⟩
  case round =>
    obtain ⟨k, hk, rfl, rfl⟩ := hrel
    by_cases h0 : k = 0
    · subst h0
      go_wp2
      go_ret2
      exact ⟨⟨0, by omega, rfl⟩, HK.out, HRD.out⟩
    · obtain ⟨x, hx⟩ := HC.out (k - 1) (by omega)
      have d1 : decide (0 < k) = true := by simp; omega
      have d2 : decide ((0 : Int) < (k : Int)) = true := by simp; omega
      have e1 : ((k : Int) - 1).toNat = k - 1 := by omega
      by_cases hx48 : x = 48
      · subst hx48
        go_wp2
        exact ⟨⟨k - 1, by omega, by congr 1; omega, trivial⟩, by simp [intOf] <;> omega⟩
      · have hxb : (x == 48) = false := beq_eq_false_iff_ne.2 hx48
        go_wp2
        go_ret2
        exact ⟨⟨k, by omega, rfl⟩, HK.out, HRD.out⟩
end Go.Proofs.YtlgmlfhalgnppaaGreatDoor
/-! internal/strconv.ftoa64 at 'G', the shortest form. -/
set_option linter.unusedSimpArgs false
set_option linter.unusedVariables false
namespace Go.Proofs.YtlgmlfhalgnppaaGreatDoor
open Go.RowKit
open Go.Proofs.YtlgmlfhalgnppaaGreatDoorW.PrintWords hiding bt bt_at bt_range
theorem and_exp (n : Nat) : bits .and .i64 ((n : Int) / 4503599627370496) 2047 = ((n / 4503599627370496 % 2048 : Nat) : Int) ∨ 1152921504606846976 ≤ n / 4503599627370496 := by
  by_cases h : 1152921504606846976 ≤ n / 4503599627370496
  · exact .inr h
  · left
    have e : ((n : Int) / 4503599627370496) = ((n / 4503599627370496 : Nat) : Int) := by omega
    rw [e]
    have := and_mask 11 (by decide) ((n / 4503599627370496 : Nat) : Int) (by omega) (by omega)
    rw [show (2 : Int) ^ 11 - 1 = 2047 by decide, show (2 : Int) ^ 11 = 2048 by decide] at this
    rw [this]
    omega
theorem and_mant (n : Nat) (hn : n < 18446744073709551616) : bits .and .u64 (n : Int) 4503599627370495 = ((n % 4503599627370496 : Nat) : Int) := by
  have := bits_and_u64_nat n 4503599627370495 hn (by omega)
  rw [show ((4503599627370495 : Nat) : Int) = 4503599627370495 by rfl] at this
  rw [this]
  have h := Nat.and_two_pow_sub_one_eq_mod n 52
  rw [show 2 ^ 52 - 1 = 4503599627370495 by decide, show 2 ^ 52 = 4503599627370496 by decide] at h
  rw [h]
theorem or_mant (m : Nat) (hm : m < 4503599627370496) : ∃ x : Nat, bits .or .u64 (m : Int) 4503599627370496 = (x : Int) ∧ 4503599627370496 ≤ x ∧ x < 9007199254740992 := by
  have := bits_or_u64_nat m 4503599627370496 (by omega) (by omega)
  rw [show ((4503599627370496 : Nat) : Int) = 4503599627370496 by rfl] at this
  refine ⟨_, this, Nat.right_le_or, ?_⟩
  have := Nat.or_lt_two_pow (x := m) (y := 4503599627370496) (n := 53) (by omega) (by omega)
  omega
theorem len_norm (x : Nat) (h0 : 4503599627370496 ≤ x) (h1 : x < 9007199254740992) : Lib.bitLen x = 53 := by
  obtain ⟨_, h2, h3⟩ := Lib.bitLenAux_bounds 64 x (by omega) (by omega)
  show Lib.bitLenAux 64 x = 53
  generalize Lib.bitLenAux 64 x = L at *
  by_cases a : L ≤ 52
  · have := Nat.pow_le_pow_right (n := 2) (by omega) a
    have e : 2 ^ 52 = 4503599627370496 := by decide
    omega
  · by_cases b : 54 ≤ L
    · have := Nat.pow_le_pow_right (n := 2) (by omega) (show 53 ≤ L - 1 by omega)
      have e : 2 ^ 53 = 9007199254740992 := by decide
      omega
    · omega
theorem len_den (x : Nat) (h0 : 1 ≤ x) (h1 : x < 4503599627370496) : 1 ≤ Lib.bitLen x ∧ Lib.bitLen x ≤ 52 := by
  obtain ⟨h4, h2, h3⟩ := Lib.bitLenAux_bounds 64 x (by omega) (by omega)
  show 1 ≤ Lib.bitLenAux 64 x ∧ Lib.bitLenAux 64 x ≤ 52
  generalize Lib.bitLenAux 64 x = L at *
  refine ⟨h4, ?_⟩
  by_cases b : 53 ≤ L
  · have := Nat.pow_le_pow_right (n := 2) (by omega) (show 52 ≤ L - 1 by omega)
    have e : 2 ^ 52 = 4503599627370496 := by decide
    omega
  · omega
/-- The tables of the library, in every world that is w0 and new blocks. -/
structure FEnv (hi lo : Nat → Int) (w0 : World) : Prop where
  hr : ∀ i, 0 ≤ hi i ∧ hi i < 18446744073709551616
  lr : ∀ i, 0 ≤ lo i ∧ lo i < 18446744073709551616
  tab : ∀ w', Below w0.heap.size w0 w' → TabW hi lo w' ∧ Pow10W w'
structure FtAns (base : Nat) (w : World) (e : Ending) (w' : World) : Prop where
  out : ∃ v ys, e = .returned v ∧ ys.length ≤ 300 ∧ Own w' base v ys
  below : Below base w w'
set_option maxRecDepth 100000 in
set_option maxHeartbeats 4000000 in
theorem ftoa_nan (E M : Int) (sg : Bool) (E1 : E = 2047) (M0 : M ≠ 0) (n : Nat) (hn : n < 18446744073709551616) {hi lo : Nat → Int} {w0 : World} (FE : FEnv hi lo w0) (w : World) (h0 : Below w0.heap.size w0 w) (base : Nat) (A : Option Addr) (c : Nat) (hO : Own w base (.slice A 0 c) []) (hb : base ≤ w.heap.size) (hb0 : w0.heap.size ≤ base) (fE : bits .and .i64 ((n : Int) / 4503599627370496) 2047 = E) (fM : bits .and .u64 (n : Int) 4503599627370495 = M) (fS : ((n : Int) / 9223372036854775808 != 0) = sg) :
    Calls Tryz.prog 71 #[.slice A 0 c, .float .f64 n, .int .u8 71, .int .i64 (-1)] w (FtAns base w) := by
  have HO := Lib.hid hO
  have hsb := sbits_run n
  subst E1
  have d1 : (M != 0) = true := bne_iff_ne.2 M0
  clear hO
  go_enter Tryz.func71, Tryz.ntmps71
  go_wp2_with fail
  go_quiet (fail)
  go_wp2_with (first | (at_builtin; refine append_str (w0 := w) base rfl (.tmp 70) (.const (.string ⟨#[78, 97, 78]⟩)) rfl _ [] _ rfl rfl HO.out (pw_below_drewN (Below.refl _ _) _) hb (by decide) ?_; intro v1 w1 n0 n1 n2; obtain ⟨A1, c1, hv1, hr1⟩ := own_reads n0; subst hv1; clear hr1; have N0 := Lib.hid n0; have N1 := Lib.hid n1; clear n0 n1 n2) | (at_builtin; refine append_str (w0 := w) base rfl (.tmp 73) (.const (.string ⟨#[45, 73, 110, 102]⟩)) rfl _ [] _ rfl rfl HO.out (pw_below_drewN (Below.refl _ _) _) hb (by decide) ?_; intro v1 w1 n0 n1 n2; obtain ⟨A1, c1, hv1, hr1⟩ := own_reads n0; subst hv1; clear hr1; have N0 := Lib.hid n0; have N1 := Lib.hid n1; clear n0 n1 n2) | (at_builtin; refine append_str (w0 := w) base rfl (.tmp 75) (.const (.string ⟨#[43, 73, 110, 102]⟩)) rfl _ [] _ rfl rfl HO.out (pw_below_drewN (Below.refl _ _) _) hb (by decide) ?_; intro v1 w1 n0 n1 n2; obtain ⟨A1, c1, hv1, hr1⟩ := own_reads n0; subst hv1; clear hr1; have N0 := Lib.hid n0; have N1 := Lib.hid n1; clear n0 n1 n2))
  go_ret
  exact ⟨⟨_, _, rfl, by simp [bytesOf], N0.out⟩, N1.out⟩
set_option maxRecDepth 100000 in
set_option maxHeartbeats 4000000 in
theorem ftoa_ninf (E M : Int) (sg : Bool) (E1 : E = 2047) (M0 : M = 0) (n : Nat) (hn : n < 18446744073709551616) {hi lo : Nat → Int} {w0 : World} (FE : FEnv hi lo w0) (w : World) (h0 : Below w0.heap.size w0 w) (base : Nat) (A : Option Addr) (c : Nat) (hO : Own w base (.slice A 0 c) []) (hb : base ≤ w.heap.size) (hb0 : w0.heap.size ≤ base) (fE : bits .and .i64 ((n : Int) / 4503599627370496) 2047 = E) (fM : bits .and .u64 (n : Int) 4503599627370495 = M) (fS : ((n : Int) / 9223372036854775808 != 0) = true) :
    Calls Tryz.prog 71 #[.slice A 0 c, .float .f64 n, .int .u8 71, .int .i64 (-1)] w (FtAns base w) := by
  have HO := Lib.hid hO
  have hsb := sbits_run n
  subst E1
  subst M0
  clear hO
  go_enter Tryz.func71, Tryz.ntmps71
  go_wp2_with fail
  go_quiet (fail)
  go_wp2_with (first | (at_builtin; refine append_str (w0 := w) base rfl (.tmp 70) (.const (.string ⟨#[78, 97, 78]⟩)) rfl _ [] _ rfl rfl HO.out (pw_below_drewN (Below.refl _ _) _) hb (by decide) ?_; intro v1 w1 n0 n1 n2; obtain ⟨A1, c1, hv1, hr1⟩ := own_reads n0; subst hv1; clear hr1; have N0 := Lib.hid n0; have N1 := Lib.hid n1; clear n0 n1 n2) | (at_builtin; refine append_str (w0 := w) base rfl (.tmp 73) (.const (.string ⟨#[45, 73, 110, 102]⟩)) rfl _ [] _ rfl rfl HO.out (pw_below_drewN (Below.refl _ _) _) hb (by decide) ?_; intro v1 w1 n0 n1 n2; obtain ⟨A1, c1, hv1, hr1⟩ := own_reads n0; subst hv1; clear hr1; have N0 := Lib.hid n0; have N1 := Lib.hid n1; clear n0 n1 n2) | (at_builtin; refine append_str (w0 := w) base rfl (.tmp 75) (.const (.string ⟨#[43, 73, 110, 102]⟩)) rfl _ [] _ rfl rfl HO.out (pw_below_drewN (Below.refl _ _) _) hb (by decide) ?_; intro v1 w1 n0 n1 n2; obtain ⟨A1, c1, hv1, hr1⟩ := own_reads n0; subst hv1; clear hr1; have N0 := Lib.hid n0; have N1 := Lib.hid n1; clear n0 n1 n2))
  go_ret
  exact ⟨⟨_, _, rfl, by simp [bytesOf], N0.out⟩, N1.out⟩
set_option maxRecDepth 100000 in
set_option maxHeartbeats 4000000 in
theorem ftoa_pinf (E M : Int) (sg : Bool) (E1 : E = 2047) (M0 : M = 0) (n : Nat) (hn : n < 18446744073709551616) {hi lo : Nat → Int} {w0 : World} (FE : FEnv hi lo w0) (w : World) (h0 : Below w0.heap.size w0 w) (base : Nat) (A : Option Addr) (c : Nat) (hO : Own w base (.slice A 0 c) []) (hb : base ≤ w.heap.size) (hb0 : w0.heap.size ≤ base) (fE : bits .and .i64 ((n : Int) / 4503599627370496) 2047 = E) (fM : bits .and .u64 (n : Int) 4503599627370495 = M) (fS : ((n : Int) / 9223372036854775808 != 0) = false) :
    Calls Tryz.prog 71 #[.slice A 0 c, .float .f64 n, .int .u8 71, .int .i64 (-1)] w (FtAns base w) := by
  have HO := Lib.hid hO
  have hsb := sbits_run n
  subst E1
  subst M0
  clear hO
  go_enter Tryz.func71, Tryz.ntmps71
  go_wp2_with fail
  go_quiet (fail)
  go_wp2_with (first | (at_builtin; refine append_str (w0 := w) base rfl (.tmp 70) (.const (.string ⟨#[78, 97, 78]⟩)) rfl _ [] _ rfl rfl HO.out (pw_below_drewN (Below.refl _ _) _) hb (by decide) ?_; intro v1 w1 n0 n1 n2; obtain ⟨A1, c1, hv1, hr1⟩ := own_reads n0; subst hv1; clear hr1; have N0 := Lib.hid n0; have N1 := Lib.hid n1; clear n0 n1 n2) | (at_builtin; refine append_str (w0 := w) base rfl (.tmp 73) (.const (.string ⟨#[45, 73, 110, 102]⟩)) rfl _ [] _ rfl rfl HO.out (pw_below_drewN (Below.refl _ _) _) hb (by decide) ?_; intro v1 w1 n0 n1 n2; obtain ⟨A1, c1, hv1, hr1⟩ := own_reads n0; subst hv1; clear hr1; have N0 := Lib.hid n0; have N1 := Lib.hid n1; clear n0 n1 n2) | (at_builtin; refine append_str (w0 := w) base rfl (.tmp 75) (.const (.string ⟨#[43, 73, 110, 102]⟩)) rfl _ [] _ rfl rfl HO.out (pw_below_drewN (Below.refl _ _) _) hb (by decide) ?_; intro v1 w1 n0 n1 n2; obtain ⟨A1, c1, hv1, hr1⟩ := own_reads n0; subst hv1; clear hr1; have N0 := Lib.hid n0; have N1 := Lib.hid n1; clear n0 n1 n2))
  go_ret
  exact ⟨⟨_, _, rfl, by simp [bytesOf], N0.out⟩, N1.out⟩
set_option maxRecDepth 100000 in
set_option maxHeartbeats 4000000 in
theorem ftoa_zero_true (E M : Int) (E1 : E = 0) (M0 : M = 0) (n : Nat) (hn : n < 18446744073709551616) {hi lo : Nat → Int} {w0 : World} (FE : FEnv hi lo w0) (w : World) (h0 : Below w0.heap.size w0 w) (base : Nat) (A : Option Addr) (c : Nat) (hO : Own w base (.slice A 0 c) []) (hb : base ≤ w.heap.size) (hb0 : w0.heap.size ≤ base) (fE : bits .and .i64 ((n : Int) / 4503599627370496) 2047 = E) (fM : bits .and .u64 (n : Int) 4503599627370495 = M) (fS : ((n : Int) / 9223372036854775808 != 0) = true) :
    Calls Tryz.prog 71 #[.slice A 0 c, .float .f64 n, .int .u8 71, .int .i64 (-1)] w (FtAns base w) := by
  have HO := Lib.hid hO
  have hsb := sbits_run n
  subst E1
  subst M0
  clear hO
  go_enter Tryz.func71, Tryz.ntmps71
  go_wp2_with fail
  go_quiet (fail)
  go_wp2_with fail
  refine Calls.mono (fmtZ_true _ base _ [] (by simp) HO.out hb) ?_
  rintro e w1 ⟨v1, rfl, hd⟩
  obtain ⟨A1, c1, hv1, hr1⟩ := own_reads hd.own
  subst hv1
  have HD := Lib.hid hd
  clear hd hr1
  go_wp2
  go_ret
  exact ⟨⟨_, _, rfl, by simp [signL], HD.out.own⟩, (pw_below_drewN (Below.refl _ _) _).trans HD.out.below⟩
set_option maxRecDepth 100000 in
set_option maxHeartbeats 4000000 in
theorem ftoa_zero_false (E M : Int) (E1 : E = 0) (M0 : M = 0) (n : Nat) (hn : n < 18446744073709551616) {hi lo : Nat → Int} {w0 : World} (FE : FEnv hi lo w0) (w : World) (h0 : Below w0.heap.size w0 w) (base : Nat) (A : Option Addr) (c : Nat) (hO : Own w base (.slice A 0 c) []) (hb : base ≤ w.heap.size) (hb0 : w0.heap.size ≤ base) (fE : bits .and .i64 ((n : Int) / 4503599627370496) 2047 = E) (fM : bits .and .u64 (n : Int) 4503599627370495 = M) (fS : ((n : Int) / 9223372036854775808 != 0) = false) :
    Calls Tryz.prog 71 #[.slice A 0 c, .float .f64 n, .int .u8 71, .int .i64 (-1)] w (FtAns base w) := by
  have HO := Lib.hid hO
  have hsb := sbits_run n
  subst E1
  subst M0
  clear hO
  go_enter Tryz.func71, Tryz.ntmps71
  go_wp2_with fail
  go_quiet (fail)
  go_wp2_with fail
  refine Calls.mono (fmtZ_false _ base _ [] (by simp) HO.out hb) ?_
  rintro e w1 ⟨v1, rfl, hd⟩
  obtain ⟨A1, c1, hv1, hr1⟩ := own_reads hd.own
  subst hv1
  have HD := Lib.hid hd
  clear hd hr1
  go_wp2
  go_ret
  exact ⟨⟨_, _, rfl, by simp [signL], HD.out.own⟩, (pw_below_drewN (Below.refl _ _) _).trans HD.out.below⟩
theorem zeros32 (j : Nat) (hj : j < 32) : (#[.int .u8 0, .int .u8 0, .int .u8 0, .int .u8 0, .int .u8 0, .int .u8 0, .int .u8 0, .int .u8 0, .int .u8 0, .int .u8 0, .int .u8 0, .int .u8 0, .int .u8 0, .int .u8 0, .int .u8 0, .int .u8 0, .int .u8 0, .int .u8 0, .int .u8 0, .int .u8 0, .int .u8 0, .int .u8 0, .int .u8 0, .int .u8 0, .int .u8 0, .int .u8 0, .int .u8 0, .int .u8 0, .int .u8 0, .int .u8 0, .int .u8 0, .int .u8 0] : Array Value)[j]? = some (.int .u8 0) := by
  rw [show (#[.int .u8 0, .int .u8 0, .int .u8 0, .int .u8 0, .int .u8 0, .int .u8 0, .int .u8 0, .int .u8 0, .int .u8 0, .int .u8 0, .int .u8 0, .int .u8 0, .int .u8 0, .int .u8 0, .int .u8 0, .int .u8 0, .int .u8 0, .int .u8 0, .int .u8 0, .int .u8 0, .int .u8 0, .int .u8 0, .int .u8 0, .int .u8 0, .int .u8 0, .int .u8 0, .int .u8 0, .int .u8 0, .int .u8 0, .int .u8 0, .int .u8 0, .int .u8 0] : Array Value) = Array.replicate 32 (.int .u8 0) from rfl, Array.getElem?_replicate, if_pos hj]
set_option maxRecDepth 100000 in
set_option maxHeartbeats 4000000 in
theorem ftoa_norm (E M : Int) (sg : Bool) (E0 : 1 ≤ E) (E1 : E ≤ 2046) (x : Nat) (X0 : 4503599627370496 ≤ x) (X1 : x < 9007199254740992) (n : Nat) (hn : n < 18446744073709551616) {hi lo : Nat → Int} {w0 : World} (FE : FEnv hi lo w0) (w : World) (h0 : Below w0.heap.size w0 w) (base : Nat) (A : Option Addr) (c : Nat) (hO : Own w base (.slice A 0 c) []) (hb : base ≤ w.heap.size) (hb0 : w0.heap.size ≤ base) (fE : bits .and .i64 ((n : Int) / 4503599627370496) 2047 = E) (fM : bits .and .u64 (n : Int) 4503599627370495 = M) (fM2 : bits .or .u64 M 4503599627370496 = x) (fS : ((n : Int) / 9223372036854775808 != 0) = sg) :
    Calls Tryz.prog 71 #[.slice A 0 c, .float .f64 n, .int .u8 71, .int .i64 (-1)] w (FtAns base w) := by
  have HO := Lib.hid hO
  have hsb := sbits_run n
  have d1 : (E == 2047) = false := beq_eq_false_iff_ne.2 (by omega)
  have d2 : (E == 0) = false := beq_eq_false_iff_ne.2 (by omega)
  have d3 : (x == 0) = false := beq_eq_false_iff_ne.2 (by omega)
  have d4 : ((x : Int) == 0) = false := beq_eq_false_iff_ne.2 (by omega)
  clear hO
  go_enter Tryz.func71, Tryz.ntmps71
  go_wp2_with fail
  go_quiet (fail)
  go_wp2_with fail
  generalize hw1 : (w.drewN nq).alloc _ = w1
  have HB1 : Hid (Below w0.heap.size w0 w1) := by rw [← hw1]; exact (h0.trans (pw_below_drewN (Below.refl _ _) nq)).alloc h0.size _
  have HW1 : Hid (Below w.heap.size w w1) := by rw [← hw1]; exact (pw_below_drewN (Below.refl _ _) nq).alloc (Nat.le_refl _) _
  have HS1 := Lib.hid (show w.heap.size < w1.heap.size by rw [← hw1]; simp)
  have HZ1 : Hid (∀ j, j < 32 → w1.cell? ⟨w.heap.size, j, none⟩ = some (.int .u8 0)) := fun j hj => by
    rw [← hw1, show w.heap.size = (w.drewN nq).heap.size from rfl, World.cell?_alloc_new]
    exact zeros32 j hj
  have HF1 : Hid (∀ j, w1.frozen? ⟨w.heap.size, j, none⟩ = false) := fun j => by
    rw [← hw1, show w.heap.size = (w.drewN nq).heap.size from rfl]
    exact World.frozen?_alloc_new _ _ _ _
  clear hw1
  refine (Tryz.bits_Len64 x _ (by omega) (by omega)).mono ?_
  rintro e w3 ⟨rfl, rfl⟩
  have hbl : ((Lib.bitLen (x : Int).toNat : Nat) : Int) = 53 := by rw [show (x : Int).toNat = x by omega, len_norm x X0 X1]; rfl
  rw [hbl]
  clear hbl
  go_wp2_with fail
  obtain ⟨d, p, hd, hp, U⟩ := shortFloat_calls hi lo FE.hr FE.lr ((x : Int) * 2048) (E + -1023 - 11 - 52) (by omega) (by omega) (by omega) (by omega)
  have HU := Lib.hid U
  clear U
  refine (HU.out _ (FE.tab _ HB1.out).1).mono ?_
  rintro e w2 ⟨rfl, hb2⟩
  obtain ⟨u, hu⟩ : ∃ u : Nat, d = u := ⟨d.toNat, by omega⟩
  subst hu
  have hu2 : u < 18446744073709551616 := by omega
  have HB2 : Hid (Below w0.heap.size w0 w2) := HB1.out.trans (hb2.mono HB1.out.size)
  have HW2 : Hid (Below w.heap.size w w2) := HW1.out.trans (hb2.mono HW1.out.size)
  have HZ2 : Hid (∀ j, j < 32 → w2.cell? ⟨w.heap.size, j, none⟩ = some (.int .u8 0)) := fun j hj => (hb2.cell (p := ⟨w.heap.size, j, none⟩) HS1.out).trans (HZ1.out j hj)
  have HF2 : Hid (∀ j, w2.frozen? ⟨w.heap.size, j, none⟩ = false) := fun j => (hb2.frozen (p := ⟨w.heap.size, j, none⟩) HS1.out).trans (HF1.out j)
  have HS2 : Hid (w.heap.size < w2.heap.size) := Nat.lt_of_lt_of_le HS1.out hb2.size
  have HPW : Hid (∀ w', Keeps w2.heap.size [w.heap.size] w2 w' → Pow10W w') := fun w' k => (FE.tab _ (HB2.out.trans (k.below HB2.out.size (by have := h0.size; intro s hs; simp at hs; omega)))).2
  have HND := Lib.hid (ndg_le u hu2)
  clear hb2 hd
  go_wp2_with fail
  first | (go_must (go_region_held3 (fun w' => Keeps w2.heap.size [w.heap.size] w2 w') (first | assumption | exact Keeps.refl _ _ _ | exact (Keeps.refl _ _ _).drew | exact HP.out | exact HP.out.drew) (first | (go_at_call 63; go_must (refine Calls.mono (numDigits_calls u hu2 _ (HPW.out _ (by assumption))) ?_; rintro e w6 ⟨rfl, rfl⟩)) | (go_at_call 88; go_must (refine Calls.mono (setDigits_calls w.heap.size u hu2 p (by omega) (by omega) _ (fun j hj => HZ2.out j hj) (fun j => HF2.out j) HS2.out) ?_; rintro e w7 ⟨⟨nd, hnd, rfl⟩, hk, hr⟩; have HP : Hid (Keeps w2.heap.size [w.heap.size] w2 w7) := (Keeps.refl _ _ _).drew.trans hk; have HR := Lib.hid hr; have HN := Lib.hid hnd; clear hk hr hnd))))) | skip
  go_wp2_with fail
  obtain ⟨l, hl⟩ := HR.out
  have hl32 : l.length = 32 := hl.1
  have hk : Keeps w.heap.size [] w w7 := (Keeps.ofBelow HW2.out).trans (HP.out.mono HW2.out.size (fun s hs hlt => by simp at hs; omega))
  have hO7 : Own w7 base (.slice A 0 c) [] := hk.owns HO.out (fun g e => ⟨(HO.out.lt g e).2, by simp⟩)
  have hz7 := HP.out.size
  have hz2 := HS2.out
  have hn7 := HN.out
  have hnd20 := HND.out
  refine Calls.mono (fmtG_calls sg 32 32 w.heap.size l (ndg u + p) nd (by omega) (by omega) (by omega) _ base _ [] (by simp) hO7 (by omega) hl (by omega) (fun e => by have := (HO.out.lt _ e.symm).2; omega) (by omega) (by omega)) ?_
  rintro e w8 ⟨v1, rfl, hd⟩
  obtain ⟨A1, c1, hv1, hr1⟩ := own_reads hd.own
  subst hv1
  have HD := Lib.hid hd
  have HK := Lib.hid (hk.below hb (by simp))
  have HLL := Lib.hid hl32
  clear hd hr1 hk hO7 hl hl32 hz7 hz2 hn7 hnd20
  go_wp2
  go_ret
  exact ⟨⟨_, _, rfl, by have h1 := fmtGL_length sg l nd (ndg u + p); have h2 := HLL.out; simp only [List.nil_append]; omega, HD.out.own⟩, HK.out.trans HD.out.below⟩
set_option maxRecDepth 100000 in
set_option maxHeartbeats 4000000 in
theorem ftoa_den (E : Int) (sg : Bool) (E1 : E = 0) (x : Nat) (X0 : 1 ≤ x) (X1 : x < 4503599627370496) (n : Nat) (hn : n < 18446744073709551616) {hi lo : Nat → Int} {w0 : World} (FE : FEnv hi lo w0) (w : World) (h0 : Below w0.heap.size w0 w) (base : Nat) (A : Option Addr) (c : Nat) (hO : Own w base (.slice A 0 c) []) (hb : base ≤ w.heap.size) (hb0 : w0.heap.size ≤ base) (fE : bits .and .i64 ((n : Int) / 4503599627370496) 2047 = E) (fM : bits .and .u64 (n : Int) 4503599627370495 = x) (fS : ((n : Int) / 9223372036854775808 != 0) = sg) :
    Calls Tryz.prog 71 #[.slice A 0 c, .float .f64 n, .int .u8 71, .int .i64 (-1)] w (FtAns base w) := by
  have HO := Lib.hid hO
  have hsb := sbits_run n
  subst E1
  have d3 : (x == 0) = false := beq_eq_false_iff_ne.2 (by omega)
  have d4 : ((x : Int) == 0) = false := beq_eq_false_iff_ne.2 (by omega)
  clear hO
  go_enter Tryz.func71, Tryz.ntmps71
  go_wp2_with fail
  go_quiet (fail)
  go_wp2_with fail
  generalize hw1 : (w.drewN nq).alloc _ = w1
  have HB1 : Hid (Below w0.heap.size w0 w1) := by rw [← hw1]; exact (h0.trans (pw_below_drewN (Below.refl _ _) nq)).alloc h0.size _
  have HW1 : Hid (Below w.heap.size w w1) := by rw [← hw1]; exact (pw_below_drewN (Below.refl _ _) nq).alloc (Nat.le_refl _) _
  have HS1 := Lib.hid (show w.heap.size < w1.heap.size by rw [← hw1]; simp)
  have HZ1 : Hid (∀ j, j < 32 → w1.cell? ⟨w.heap.size, j, none⟩ = some (.int .u8 0)) := fun j hj => by
    rw [← hw1, show w.heap.size = (w.drewN nq).heap.size from rfl, World.cell?_alloc_new]
    exact zeros32 j hj
  have HF1 : Hid (∀ j, w1.frozen? ⟨w.heap.size, j, none⟩ = false) := fun j => by
    rw [← hw1, show w.heap.size = (w.drewN nq).heap.size from rfl]
    exact World.frozen?_alloc_new _ _ _ _
  clear hw1
  refine (Tryz.bits_Len64 x _ (by omega) (by omega)).mono ?_
  rintro e w3 ⟨rfl, rfl⟩
  obtain ⟨g0, g1⟩ := len_den x X0 X1
  rw [show (x : Int).toNat = x by omega]
  generalize Lib.bitLen x = Ln at g0 g1 ⊢
  go_wp2_with fail
  generalize hm : IntKind.u64.wrap _ = m
  have hmr : 0 ≤ m ∧ m < 18446744073709551616 := hm ▸ u64_range _
  clear hm
  obtain ⟨d, p, hd, hp, U⟩ := shortFloat_calls hi lo FE.hr FE.lr (m) (-1022 - (64 - (Ln : Int)) - 52) (by omega) (by omega) (by omega) (by omega)
  have HU := Lib.hid U
  clear U
  refine (HU.out _ (FE.tab _ HB1.out).1).mono ?_
  rintro e w2 ⟨rfl, hb2⟩
  obtain ⟨u, hu⟩ : ∃ u : Nat, d = u := ⟨d.toNat, by omega⟩
  subst hu
  have hu2 : u < 18446744073709551616 := by omega
  have HB2 : Hid (Below w0.heap.size w0 w2) := HB1.out.trans (hb2.mono HB1.out.size)
  have HW2 : Hid (Below w.heap.size w w2) := HW1.out.trans (hb2.mono HW1.out.size)
  have HZ2 : Hid (∀ j, j < 32 → w2.cell? ⟨w.heap.size, j, none⟩ = some (.int .u8 0)) := fun j hj => (hb2.cell (p := ⟨w.heap.size, j, none⟩) HS1.out).trans (HZ1.out j hj)
  have HF2 : Hid (∀ j, w2.frozen? ⟨w.heap.size, j, none⟩ = false) := fun j => (hb2.frozen (p := ⟨w.heap.size, j, none⟩) HS1.out).trans (HF1.out j)
  have HS2 : Hid (w.heap.size < w2.heap.size) := Nat.lt_of_lt_of_le HS1.out hb2.size
  have HPW : Hid (∀ w', Keeps w2.heap.size [w.heap.size] w2 w' → Pow10W w') := fun w' k => (FE.tab _ (HB2.out.trans (k.below HB2.out.size (by have := h0.size; intro s hs; simp at hs; omega)))).2
  have HND := Lib.hid (ndg_le u hu2)
  clear hb2 hd
  go_wp2_with fail
  first | (go_must (go_region_held3 (fun w' => Keeps w2.heap.size [w.heap.size] w2 w') (first | assumption | exact Keeps.refl _ _ _ | exact (Keeps.refl _ _ _).drew | exact HP.out | exact HP.out.drew) (first | (go_at_call 63; go_must (refine Calls.mono (numDigits_calls u hu2 _ (HPW.out _ (by assumption))) ?_; rintro e w6 ⟨rfl, rfl⟩)) | (go_at_call 88; go_must (refine Calls.mono (setDigits_calls w.heap.size u hu2 p (by omega) (by omega) _ (fun j hj => HZ2.out j hj) (fun j => HF2.out j) HS2.out) ?_; rintro e w7 ⟨⟨nd, hnd, rfl⟩, hk, hr⟩; have HP : Hid (Keeps w2.heap.size [w.heap.size] w2 w7) := (Keeps.refl _ _ _).drew.trans hk; have HR := Lib.hid hr; have HN := Lib.hid hnd; clear hk hr hnd))))) | skip
  go_wp2_with fail
  obtain ⟨l, hl⟩ := HR.out
  have hl32 : l.length = 32 := hl.1
  have hk : Keeps w.heap.size [] w w7 := (Keeps.ofBelow HW2.out).trans (HP.out.mono HW2.out.size (fun s hs hlt => by simp at hs; omega))
  have hO7 : Own w7 base (.slice A 0 c) [] := hk.owns HO.out (fun g e => ⟨(HO.out.lt g e).2, by simp⟩)
  have hz7 := HP.out.size
  have hz2 := HS2.out
  have hn7 := HN.out
  have hnd20 := HND.out
  refine Calls.mono (fmtG_calls sg 32 32 w.heap.size l (ndg u + p) nd (by omega) (by omega) (by omega) _ base _ [] (by simp) hO7 (by omega) hl (by omega) (fun e => by have := (HO.out.lt _ e.symm).2; omega) (by omega) (by omega)) ?_
  rintro e w8 ⟨v1, rfl, hd⟩
  obtain ⟨A1, c1, hv1, hr1⟩ := own_reads hd.own
  subst hv1
  have HD := Lib.hid hd
  have HK := Lib.hid (hk.below hb (by simp))
  have HLL := Lib.hid hl32
  clear hd hr1 hk hO7 hl hl32 hz7 hz2 hn7 hnd20
  go_wp2
  go_ret
  exact ⟨⟨_, _, rfl, by have h1 := fmtGL_length sg l nd (ndg u + p); have h2 := HLL.out; simp only [List.nil_append]; omega, HD.out.own⟩, HK.out.trans HD.out.below⟩
/-- internal/strconv.ftoa64 at 'G', shortest. -/
theorem ftoa64_calls (n : Nat) (hn : n < 18446744073709551616) {hi lo : Nat → Int} {w0 : World} (FE : FEnv hi lo w0) (w : World) (h0 : Below w0.heap.size w0 w) (base : Nat) (A : Option Addr) (c : Nat) (hO : Own w base (.slice A 0 c) []) (hb : base ≤ w.heap.size) (hb0 : w0.heap.size ≤ base) : Calls Tryz.prog 71 #[.slice A 0 c, .float .f64 n, .int .u8 71, .int .i64 (-1)] w (FtAns base w) := by
  obtain ⟨M, hM⟩ : ∃ M, M = n % 4503599627370496 := ⟨_, rfl⟩
  obtain ⟨E, hE⟩ : ∃ E, E = n / 4503599627370496 % 2048 := ⟨_, rfl⟩
  have fM := and_mant n hn
  rw [← hM] at fM
  have fE := (and_exp n).resolve_right (by omega)
  rw [← hE] at fE
  have M1 : M < 4503599627370496 := by rw [hM]; exact Nat.mod_lt _ (by omega)
  have E1 : E < 2048 := by rw [hE]; exact Nat.mod_lt _ (by omega)
  clear hM hE
  generalize hsg : ((n : Int) / 9223372036854775808 != 0) = sg
  by_cases e1 : E = 2047
  · by_cases m0 : M = 0
    · cases sg
      · exact ftoa_pinf E M false (by omega) (by omega) n hn FE w h0 base A c hO hb hb0 fE fM hsg
      · exact ftoa_ninf E M true (by omega) (by omega) n hn FE w h0 base A c hO hb hb0 fE fM hsg
    · exact ftoa_nan E M sg (by omega) (by omega) n hn FE w h0 base A c hO hb hb0 fE fM hsg
  · by_cases e0 : E = 0
    · by_cases m0 : M = 0
      · cases sg
        · exact ftoa_zero_false E M (by omega) (by omega) n hn FE w h0 base A c hO hb hb0 fE fM hsg
        · exact ftoa_zero_true E M (by omega) (by omega) n hn FE w h0 base A c hO hb hb0 fE fM hsg
      · exact ftoa_den E sg (by omega) M (by omega) (by omega) n hn FE w h0 base A c hO hb hb0 fE fM hsg
    · obtain ⟨x, hx, x0, x1⟩ := or_mant M M1
      exact ftoa_norm E M sg (by omega) (by omega) x x0 x1 n hn FE w h0 base A c hO hb hb0 fE fM hx hsg
end Go.Proofs.YtlgmlfhalgnppaaGreatDoor
/-! strconv.FormatFloat at 'G', spec.ExtDouble: how long. -/
set_option linter.unusedSimpArgs false
set_option linter.unusedVariables false
namespace Go.Proofs.YtlgmlfhalgnppaaGreatDoor
open Go.RowKit
open Go.Proofs.YtlgmlfhalgnppaaGreatDoorW.PrintWords hiding bt bt_at bt_range
theorem made_24 : ∃ cur : Array Value, cur.size = 24 ∧ ∀ W : World, (Instr.makeSlice 23 (.int .i64 0) (.int .i64 24)).run Tryz.prog W = .ok (.slice (some ⟨W.heap.size, 0, none⟩) 0 24) (W.alloc (.cells cur 5)) := by
  refine ⟨madeCells #[.int .u8 0] 24, by rw [size_madeCells], fun W => ?_⟩
  obtain ⟨i, hi, hzz⟩ := Option.map_eq_some_iff.1 info_u8
  simp only [Prod.mk.injEq] at hzz
  obtain ⟨hz, hs, hb⟩ := hzz
  have := run_make (P := Tryz.prog) W 23 5 i (.int .u8 0) Tryz.underlying23 hi hz .i64 .i64 0 24 (by omega) (by omega) (by rw [hb]; omega) (by omega)
  rw [hs] at this
  exact this
set_option maxRecDepth 100000 in
theorem iFormatFloat_calls (n : Nat) (hn : n < 18446744073709551616) {hi lo : Nat → Int} {w0 : World} (FE : FEnv hi lo w0) (w : World) (h0 : Below w0.heap.size w0 w) :
    Calls Tryz.prog 61 #[.float .f64 n, .int .u8 71, .int .i64 (-1), .int .i64 64] w (TextN 300 w) := by
  obtain ⟨cur, hcur, hmk⟩ := made_24
  have hO : Own (w.alloc (.cells cur 5)) w.heap.size (.slice (some ⟨w.heap.size, 0, none⟩) 0 24) [] := World.ownsRow_made w cur 24 (Nat.le_refl _) (by simp [maxLen]) (by rw [hcur])
  have hb1 : Below w.heap.size w (w.alloc (.cells cur 5)) := (Below.refl _ _).alloc (Nat.le_refl _) _
  have HC := Lib.hid (ftoa64_calls n hn FE (w.alloc (.cells cur 5)) (h0.trans (hb1.mono h0.size)) w.heap.size (some ⟨w.heap.size, 0, none⟩) 24 hO (by simp) h0.size)
  have HB := Lib.hid hb1
  have hmx : max (3 : Int) 24 = 24 := by decide
  clear hO hb1
  go_enter Tryz.func61, Tryz.ntmps61
  go_wp2_with fail
  refine HC.out.mono ?_
  rintro e w1 ⟨⟨v, ys, rfl, hl, ho⟩, hw⟩
  have hcv := own_str ho
  have HL := Lib.hid hl
  have HW := Lib.hid (HB.out.trans hw)
  clear hl ho hw
  go_wp2_with fail
  go_ret
  exact ⟨⟨_, rfl, by rw [strOfNums_size]; exact HL.out⟩, HW.out⟩
theorem FormatFloat_calls (n : Nat) (hn : n < 18446744073709551616) {hi lo : Nat → Int} {w0 : World} (FE : FEnv hi lo w0) (w : World) (h0 : Below w0.heap.size w0 w) :
    Calls Tryz.prog 44 #[.float .f64 n, .int .u8 71, .int .i64 (-1), .int .i64 64] w (TextN 300 w) := by
  have HC := Lib.hid (iFormatFloat_calls n hn FE w h0)
  go_enter Tryz.func44, Tryz.ntmps44
  go_wp2_with fail
  refine HC.out.mono ?_
  rintro e w1 ⟨⟨u, rfl, hu⟩, hw⟩
  have HU := Lib.hid hu
  clear hu
  go_wp2
  go_ret
  exact ⟨⟨u, rfl, HU.out⟩, hw⟩
set_option maxRecDepth 100000 in
theorem ExtDouble_calls (n : Nat) (hn : n < 18446744073709551616) {hi lo : Nat → Int} {w0 : World} (FE : FEnv hi lo w0) (w : World) (h0 : Below w0.heap.size w0 w) :
    Calls Tryz.prog 21 #[.float .f64 n] w (TextN 400 w) := by
  have HC := Lib.hid (FormatFloat_calls n hn FE w h0)
  obtain ⟨bU, hU⟩ := IsInf_up n
  obtain ⟨bD, hD⟩ := IsInf_down n
  have HU := Lib.hid (hU w)
  have HD := Lib.hid (hD w)
  have HN := Lib.hid (IsNaN_calls n w)
  clear hU hD h0
  generalize isNaNF n = bN at HN
  go_enter Tryz.func21, Tryz.ntmps21
  go_wp2_with fail
  refine HN.out.mono ?_
  rintro e w1 ⟨rfl, rfl⟩
  cases bN with
  | true =>
    go_wp2_with fail
    go_ret
    exact ⟨⟨_, rfl, by decide⟩, Below.refl _ _⟩
  | false =>
    go_wp2_with fail
    refine HU.out.mono ?_
    rintro e w1 ⟨rfl, rfl⟩
    cases bU with
    | true =>
      go_wp2_with fail
      go_ret
      exact ⟨⟨_, rfl, by decide⟩, Below.refl _ _⟩
    | false =>
      go_wp2_with fail
      refine HD.out.mono ?_
      rintro e w1 ⟨rfl, rfl⟩
      cases bD with
      | true =>
        go_wp2_with fail
        go_ret
        exact ⟨⟨_, rfl, by decide⟩, Below.refl _ _⟩
      | false =>
        go_wp2_with fail
        refine HC.out.mono ?_
        rintro e w2 ⟨⟨u, rfl, hu⟩, hw⟩
        have HW := Lib.hid hw
        clear hw
        go_wp2_with fail
        go_loopw [4] (fun q wr => ∃ k : Nat, k ≤ u.size ∧ q = .int .i64 k ∧ wr = w2) (fun q _ => u.size - (intOf q).toNat)
        case atStart => exact ⟨0, by omega, rfl, rfl⟩
        case round =>
          obtain ⟨k, hk, rfl, rfl⟩ := hrel
          by_cases hlt : k < u.size
          · have hd : decide ((k : Int) < u.size) = true := by simp; omega
            have hb := bt_at u k hlt
            by_cases z1 : bt u k = 46
            · go_wp2
              go_ret
              exact ⟨⟨u, rfl, by omega⟩, HW.out⟩
            · have z1b : (bt u k == 46) = false := beq_eq_false_iff_ne.2 z1
              clear z1
              by_cases z2 : bt u k = 69
              · go_wp2
                go_ret
                exact ⟨⟨u, rfl, by omega⟩, HW.out⟩
              · have z2b : (bt u k == 69) = false := beq_eq_false_iff_ne.2 z2
                clear z2
                go_wp2
                exact ⟨⟨k + 1, by omega, by first | rfl | (congr 1; omega), trivial⟩, by simp [intOf] <;> omega⟩
          · obtain rfl : k = u.size := by omega
            go_wp2
            go_ret
            exact ⟨⟨_, rfl, by rw [ByteArray.size_append]; show u.size + 2 ≤ 400; omega⟩, HW.out⟩
/-- The library's tables, and what the walks ask for. -/
theorem Env.of {hi lo : Nat → Int} {w0 : World} (FE : FEnv hi lo w0) : Env w0 := ⟨fun w' h => (FE.tab w' h).2, fun n w' hn h => ExtDouble_calls n hn FE w' h⟩
end Go.Proofs.YtlgmlfhalgnppaaGreatDoor
