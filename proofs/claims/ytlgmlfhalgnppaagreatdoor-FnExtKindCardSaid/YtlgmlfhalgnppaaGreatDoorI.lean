/- A part of the proof that laws.FnExtKind returns true at every input: Num, Vobj, Val1. -/
import Derived.Test.YtlgmlfhalgnppaaGreatDoorH
import Derived.Test.YtlgmlfhalgnppaaGreatDoorShelf
import Derived.Lib.AppendIntMem
import Derived.Lib.ItoaLen
import Derived.Lib.ItoaMem
import Derived.Test.YtlgmlfhalgnppaaGreatDoorA
import Derived.Test.YtlgmlfhalgnppaaGreatDoorC
import Derived.Test.YtlgmlfhalgnppaaGreatDoorG
/-! strconv.FormatInt, strconv.FormatUint at base 10: how long. -/
set_option linter.unusedSimpArgs false
set_option linter.unusedVariables false
namespace Go.Proofs.YtlgmlfhalgnppaaGreatDoor
open Go.RowKit
open Go.Proofs.YtlgmlfhalgnppaaGreatDoorW.PrintWords hiding bt bt_at bt_range

abbrev Pow10W (w : World) : Prop := Lib.TabIs Tryz.prog w "internal/strconv.uint64pow10" .u64 Lib.pow10Tab
/-- A text of at most n bytes, and new blocks. -/
structure TextN (n : Nat) (w : World) (e : Ending) (w' : World) : Prop where
  out : ∃ u, e = .returned (.string u) ∧ u.size ≤ n
  below : Below w.heap.size w w'
theorem FormatInt_calls (n : Int) (h0 : -9223372036854775808 ≤ n) (h1 : n ≤ 9223372036854775807) (w : World) (ht : Pow10W w) :
    Calls Tryz.prog 26 #[.int .i64 n, .int .i64 10] w (TextN 21 w) :=
  (Tryz.strconv_FormatInt_10 n h0 h1 w ht).mono fun e w' ⟨he, k, os, hw⟩ => ⟨⟨_, he, by show (Lib.itoa n).toArray.size ≤ 21; rw [List.size_toArray]; exact Lib.itoa_length_le n h0 h1⟩, by subst hw; exact Lib.below_grow _ w (Nat.le_refl _) k os⟩
set_option maxRecDepth 100000 in
theorem iFormatUint_calls (u : Nat) (hu : u < 18446744073709551616) (w : World) (ht : Pow10W w) :
    Calls Tryz.prog 47 #[.int .u64 u, .int .i64 10] w (TextN 21 w) := by
  by_cases hs : u < 100
  · have hw : IntKind.i64.wrap (u : Int) = u := by rw [IntKind.wrap_i64]; omega
    have hd : decide ((u : Int) < 100) = true := by simp; omega
    go_enter Tryz.func47, Tryz.ntmps47
    go_wp2_with fail
    refine (Tryz.internal_strconv_small u hs _).mono ?_
    rintro e w' ⟨rfl, rfl⟩
    go_wp2
    go_ret
    refine ⟨⟨_, rfl, ?_⟩, Below.refl _ _⟩
    show (Lib.decDigits u).toArray.size ≤ 21
    rw [List.size_toArray, Lib.decDigits_length]
    by_cases h0 : u = 0
    · subst h0; rw [Lib.nDigits_small (by omega)]; omega
    · have := Lib.numDigits_eq u (by omega) hu
      split at this <;> omega
  · have hd : decide ((u : Int) < 100) = false := by simp; omega
    have hu1 : 1 ≤ u := by omega
    have hnd20 : Lib.nDigits u ≤ 20 := by have := Lib.numDigits_eq u hu1 hu; split at this <;> omega
    have hH0 := Lib.holds_zero0 w 103 (Lib.nDigits u) (by omega)
    have hfmt := Tryz.internal_strconv_formatBase10 w.heap.size 0 24 u (Array.replicate (Lib.nDigits u) 0) (w.alloc (.cells Lib.zeros24 103)) hH0 (by rw [Array.size_replicate]; exact Lib.lt_pow_nDigits u) hu (by rw [Array.size_replicate]; omega)
    rw [Array.size_replicate] at hfmt
    have HH0 := Lib.hid hH0
    have HF := Lib.hid hfmt
    clear hH0 hfmt
    have hal : Tryz.prog.arrayLen 103 = 24 := by kernel_rfl
    have hsl : ∀ W, (Instr.sliceAt 103 (.pointer (some ⟨w.heap.size, 0, none⟩)) none (some (.int .i64 (Lib.nDigits u : Int))) none).run Tryz.prog W = .ok (.slice (some ⟨w.heap.size, 0, none⟩) (Lib.nDigits u) 24) W := fun W => by
      rw [run_sliceAt_array_h W 103 ⟨w.heap.size, 0, none⟩ (by kernel_rfl) .i64 (Lib.nDigits u : Int) (by omega) (by rw [hal]; omega)]
      go_simp
    clear hal
    have HT := Lib.hid ht
    clear ht
    obtain ⟨N, hN⟩ : ∃ N, N = Lib.nDigits u := ⟨_, rfl⟩
    have HNN := Lib.hid hN
    go_enter Tryz.func47, Tryz.ntmps47
    go_wp2_with fail
    refine (Tryz.internal_strconv_numDigits u hu1 hu _ (Lib.tabIs_alloc HT.out _)).mono ?_
    rintro e w' ⟨rfl, rfl⟩
    go_wp2_with fail
    refine HF.out.mono ?_
    rintro e w' ⟨rfl, k, v', dk, rfl, hF⟩
    have hcv : (convert 23 9 (.slice (some ⟨w.heap.size, 0, none⟩) (Lib.nDigits u) 24)).run Tryz.prog ((Sort.putRow (fun (b : UInt8) => Value.int .u8 (b.toNat : Int)) (w.alloc (.cells Lib.zeros24 103)) w.heap.size 0 dk).drewN k) = .ok (.string ⟨(Lib.decDigits u).toArray⟩) ((Sort.putRow (fun (b : UInt8) => Value.int .u8 (b.toNat : Int)) (w.alloc (.cells Lib.zeros24 103)) w.heap.size 0 dk).drewN k) := by
      have h := run_convert_bytes_back (P := Tryz.prog) ((Sort.putRow (fun (b : UInt8) => Value.int .u8 (b.toNat : Int)) (w.alloc (.cells Lib.zeros24 103)) w.heap.size 0 dk).drewN k) 23 9 5 ⟨w.heap.size, 0, none⟩ 24 (Lib.decDigits u) Tryz.underlying23 Tryz.underlying5 Tryz.underlying9 (fun j hj => by
        rw [Lib.row_is_numeral hF j hj, Lib.add_plain, World.cell?_drewN]
        have := Sort.cell?_putRow (fun (b : UInt8) => Value.int .u8 (b.toNat : Int)) _ w.heap.size 0 _ dk HH0.out (by rw [hF.size, Array.size_replicate]) j (by rw [hF.size]; rw [Lib.decDigits_length] at hj; exact hj)
        simpa using this)
      rw [Lib.decDigits_length] at h
      exact h
    have hlen := Lib.decDigits_length u
    go_wp2
    go_ret
    obtain ⟨os, eo⟩ := Lib.fin_at w (.cells Lib.zeros24 103) dk k 0
    refine ⟨⟨_, rfl, ?_⟩, by rw [eo]; exact Lib.below_grow _ w (Nat.le_refl _) k os⟩
    show (Lib.decDigits u).toArray.size ≤ 21
    rw [List.size_toArray, hlen]
    omega
theorem FormatUint_calls (u : Nat) (hu : u < 18446744073709551616) (w : World) (ht : Pow10W w) :
    Calls Tryz.prog 31 #[.int .u64 u, .int .i64 10] w (TextN 21 w) := by
  go_enter Tryz.func31, Tryz.ntmps31
  go_wp2_with fail
  refine (iFormatUint_calls u hu _ ht).mono ?_
  rintro e w1 ⟨⟨v, rfl, hv⟩, hb⟩
  go_wp2
  go_ret
  exact ⟨⟨_, rfl, hv⟩, hb⟩
end Go.Proofs.YtlgmlfhalgnppaaGreatDoor
/-! object of pairs in a new block; what value leaves. -/
set_option linter.unusedSimpArgs false
set_option linter.unusedVariables false
namespace Go.Proofs.YtlgmlfhalgnppaaGreatDoor
open Go.RowKit
open Go.Proofs.YtlgmlfhalgnppaaGreatDoorW.PrintWords hiding bt bt_at bt_range
/-- A text of at most n bytes, and the style. -/
structure StyN (n : Nat) (w0 : World) (S : Nat) (cA : Option Addr) (cs : List Int) (cc : Nat) (w : World) (e : Ending) (w' : World) : Prop where
  out : ∃ u, e = .returned (.string u) ∧ u.size ≤ n
  after : StyAfter w0 S cA cs cc w w'
/-- A value's text and true, and the style. -/
structure ValAns (P : List Int → Prop) (w0 : World) (S : Nat) (cA : Option Addr) (cs : List Int) (cc : Nat) (w : World) (e : Ending) (w' : World) : Prop where
  out : ∃ u, e = .returned (.tuple #[.string u, .bool true]) ∧ P (bytesOf u)
  after : StyAfter w0 S cA cs cc w w'
section
variable {w0 : World} {S : Nat} {cA : Option Addr} {cs : List Int} {cc : Nat} {W : World}
theorem new_after {n : Nat} {o : Obj} (h : Sty w0 S cA cs cc W) {e : Ending} {w' : World} (k : ObjAns n W.heap.size w0 S cA cs cc (W.alloc o) e w') : StyN n w0 S cA cs cc W e w' where
  out := k.out
  after := ⟨k.sty, ((Keeps.refl W.heap.size [S] W).alloc (Nat.le_refl _) o).trans (k.keeps.mono (by simp) (fun s hs hlt => by simp at hs; rcases hs with rfl | rfl; simp; omega))⟩
theorem obj1 (a b : ByteArray) (M : Nat) (hM : M ≤ 1000000000000) (ha : a.size + b.size ≤ M) (h : Sty w0 S cA cs cc W) :
    Calls Tryz.prog 24 #[.pointer (some ⟨S, 0, none⟩), .bool false, .slice (some ⟨W.heap.size, 0, none⟩) 1 1] (W.alloc (.cells #[.string a, .string b] 61)) (StyN (M + 22) w0 S cA cs cc W) := by
  have hS := h.size
  refine (objectF_calls W.heap.size 1 (fun _ => M) (by omega) (fun _ => hM) (h.alloc _).sty (by simp) (by omega) ?_).mono fun e w' k => ?_
  · intro i hi
    obtain rfl : i = 0 := by omega
    exact ⟨a, b, by simp [go_sem], by simp [go_sem], ha⟩
  · have := new_after h k
    exact ⟨by obtain ⟨u, hu, hn⟩ := this.out; exact ⟨u, hu, by simp [sumF] at hn; omega⟩, this.after⟩
theorem obj2 (a b c d : ByteArray) (M N : Nat) (hM : M ≤ 1000000000000) (hN : N ≤ 1000000000000) (ha : a.size + b.size ≤ M) (hc : c.size + d.size ≤ N) (h : Sty w0 S cA cs cc W) :
    Calls Tryz.prog 24 #[.pointer (some ⟨S, 0, none⟩), .bool false, .slice (some ⟨W.heap.size, 0, none⟩) 2 2] (W.alloc (.cells #[.string a, .string b, .string c, .string d] 61)) (StyN (M + N + 42) w0 S cA cs cc W) := by
  have hS := h.size
  refine (objectF_calls W.heap.size 2 (fun i => if i = 0 then M else N) (by omega) (fun i => by show (if i = 0 then M else N) ≤ _; split <;> assumption) (h.alloc _).sty (by simp) (by omega) ?_).mono fun e w' k => ?_
  · intro i hi
    have : i = 0 ∨ i = 1 := by omega
    rcases this with rfl | rfl
    · exact ⟨a, b, by simp [go_sem], by simp [go_sem], ha⟩
    · exact ⟨c, d, by simp [go_sem], by simp [go_sem], hc⟩
  · have := new_after h k
    exact ⟨by obtain ⟨u, hu, hn⟩ := this.out; exact ⟨u, hu, by simp [sumF] at hn; omega⟩, this.after⟩
theorem obj2T (a b c d : ByteArray) (M N : Nat) (hM : M ≤ 1000000000000) (hN : N ≤ 1000000000000) (ha : a.size + b.size ≤ M) (hc : c.size + d.size ≤ N) (h : Sty w0 S cA cs cc W) :
    Calls Tryz.prog 24 #[.pointer (some ⟨S, 0, none⟩), .bool true, .slice (some ⟨W.heap.size, 0, none⟩) 2 2] (W.alloc (.cells #[.string a, .string b, .string c, .string d] 61)) (StyN (M + N + 42) w0 S cA cs cc W) := by
  have hS := h.size
  refine (objectT_calls W.heap.size (fun i => if i = 0 then M else N) (fun i => by show (if i = 0 then M else N) ≤ _; split <;> assumption) (h.alloc _).sty (by simp) (by omega) ?_ (fun o => World.frozen?_alloc_new _ _ _ _) h.below.size).mono fun e w' k => ?_
  · intro i hi
    have : i = 0 ∨ i = 1 := by omega
    rcases this with rfl | rfl
    · exact ⟨a, b, by simp [go_sem], by simp [go_sem], ha⟩
    · exact ⟨c, d, by simp [go_sem], by simp [go_sem], hc⟩
  · have := new_after h k
    exact ⟨by obtain ⟨u, hu, hn⟩ := this.out; exact ⟨u, hu, by simp [sumF] at hn; omega⟩, this.after⟩
theorem StyB.size {P : List Int → Prop} {e : Ending} {w' : World} (k : StyB P w0 S cA cs cc W e w') {n : Nat} (h : ∀ l, P l → l.length ≤ n) : StyN n w0 S cA cs cc W e w' :=
  ⟨by obtain ⟨u, he, hp⟩ := k.out; exact ⟨u, he, by have := h _ hp; rwa [bytesOf_length] at this⟩, k.after⟩
theorem text_n (s : ByteArray) (hs : s.size ≤ 300) (h : Sty w0 S cA cs cc W) : Calls Tryz.prog 19 #[.pointer (some ⟨S, 0, none⟩), .string s] W (StyN 3602 w0 S cA cs cc W) :=
  (text_b s (by omega) h).mono fun e w' k => k.size (fun l ⟨b, hl, _, hn⟩ => by subst hl; simp only [List.length_append, List.length_cons, List.length_nil]; omega)
end
end Go.Proofs.YtlgmlfhalgnppaaGreatDoor
/-! spec.extStyle.value of the kinds without kids: a text of at most 60000 bytes. -/
set_option linter.unusedSimpArgs false
set_option linter.unusedVariables false
namespace Go.Proofs.YtlgmlfhalgnppaaGreatDoor
open Go.RowKit
open Go.Proofs.YtlgmlfhalgnppaaGreatDoorW.PrintWords hiding bt bt_at bt_range
/-- What value reads of the world's variables. -/
structure Env (w0 : World) : Prop where
  p10 : ∀ w', Below w0.heap.size w0 w' → Pow10W w'
  dbl : ∀ (n : Nat) (w' : World), n < 18446744073709551616 → Below w0.heap.size w0 w' → Calls Tryz.prog 21 #[.float .f64 n] w' (TextN 400 w')
theorem ValAns.small {w0 : World} {S : Nat} {cA : Option Addr} {cs : List Int} {cc : Nat} {w : World} {e : Ending} {w' : World} {u : ByteArray} (he : e = .returned (.tuple #[.string u, .bool true])) (hu : u.size ≤ 60000) (ha : StyAfter w0 S cA cs cc w w') :
    ValAns (fun l => l.length ≤ 60000) w0 S cA cs cc w e w' := ⟨⟨u, he, by rw [bytesOf_length]; exact hu⟩, ha⟩
set_option maxRecDepth 100000 in
set_option maxHeartbeats 4000000 in
theorem val16_calls {w0 : World} {S : Nat} {cA : Option Addr} {cs : List Int} {cc : Nat} {w : World} (hs : Sty w0 S cA cs cc w) (E : Env w0) (text more : ByteArray) (n bits high : Int) (bA kA : Option Addr) (bs : List Int) (bc kl kc : Nat) (ht : text.size ≤ 300) (hm : more.size ≤ 300) (n0 : -9223372036854775808 ≤ n) (n1 : n ≤ 9223372036854775807) (b0 : 0 ≤ bits) (b1 : bits < 18446744073709551616) (g0 : 0 ≤ high) (g1 : high < 18446744073709551616) (hbs : bs.length ≤ 300) (hbr : ∀ x ∈ bs, 0 ≤ x ∧ x ≤ 255) (hbR : ReadsInt w0 .u8 bA bs.length bs) :
    Calls Tryz.prog 10 #[.pointer (some ⟨S, 0, none⟩), .agg #[.int .i64 16, .string text, .string more, .int .i64 n, .int .u64 bits, .int .u64 high, .slice bA bs.length bc, .slice kA kl kc]] w (ValAns (fun l => l.length ≤ 60000) w0 S cA cs cc w) := by
  have HS := Lib.hid hs
  have c3 := (hs.alloc (.cells #[.int .i64 16, .string text, .string more, .int .i64 n, .int .u64 bits, .int .u64 high, .slice bA bs.length bc, .slice kA kl kc] 26)).sty.c3
  have hlt := hs.size
  clear hs
  have HE := Lib.hid E
  clear E
  have HR := Lib.hid hbR
  clear hbR
  have HBR := Lib.hid hbr
  clear hbr
  go_enter Tryz.func10, Tryz.ntmps10
  go_wp2_with fail
  refine (next_calls 2 (by omega) (by omega) (HS.out.alloc _).sty).mono ?_
  rintro e w1 ⟨r, rfl, hr, ha⟩
  have q0 : w1.cell? ⟨w.heap.size, 0, none⟩ = some (Value.int .i64 16) := (ha.keeps.cell (p := ⟨w.heap.size, 0, none⟩) (by simp) (by simp; omega)).trans (by simp [go_sem])
  have q1 : w1.cell? ⟨w.heap.size, 1, none⟩ = some (Value.string text) := (ha.keeps.cell (p := ⟨w.heap.size, 1, none⟩) (by simp) (by simp; omega)).trans (by simp [go_sem])
  have q2 : w1.cell? ⟨w.heap.size, 2, none⟩ = some (Value.string more) := (ha.keeps.cell (p := ⟨w.heap.size, 2, none⟩) (by simp) (by simp; omega)).trans (by simp [go_sem])
  have q3 : w1.cell? ⟨w.heap.size, 3, none⟩ = some (Value.int .i64 n) := (ha.keeps.cell (p := ⟨w.heap.size, 3, none⟩) (by simp) (by simp; omega)).trans (by simp [go_sem])
  have q4 : w1.cell? ⟨w.heap.size, 4, none⟩ = some (Value.int .u64 bits) := (ha.keeps.cell (p := ⟨w.heap.size, 4, none⟩) (by simp) (by simp; omega)).trans (by simp [go_sem])
  have q5 : w1.cell? ⟨w.heap.size, 5, none⟩ = some (Value.int .u64 high) := (ha.keeps.cell (p := ⟨w.heap.size, 5, none⟩) (by simp) (by simp; omega)).trans (by simp [go_sem])
  have q6 : w1.cell? ⟨w.heap.size, 6, none⟩ = some (Value.slice bA bs.length bc) := (ha.keeps.cell (p := ⟨w.heap.size, 6, none⟩) (by simp) (by simp; omega)).trans (by simp [go_sem])
  have q7 : w1.cell? ⟨w.heap.size, 7, none⟩ = some (Value.slice kA kl kc) := (ha.keeps.cell (p := ⟨w.heap.size, 7, none⟩) (by simp) (by simp; omega)).trans (by simp [go_sem])
  have hbx : w.heap.size < w1.heap.size := by have := ha.keeps.size; simp at this; omega
  have HA := Lib.hid ((HS.out.alloc _).trans ha)
  clear ha c3
  have hr8 : r = 0 ∨ r = 1 := by omega
  clear hr
  rcases hr8 with rfl | rfl
  · go_wp2_with fail
    refine (FormatInt_calls n n0 n1 _ (HE.out.p10 _ HA.out.sty.below)).mono ?_
    rintro e w11 ⟨⟨u1, rfl, hu1⟩, hbw⟩
    have HA2 := Lib.hid (HA.out.trans (HA.out.sty.with hbw))
    clear HA hbw
    have HA := HA2
    clear HA2
    go_wp2_with fail
    refine (quoted_calls u1 (by omega) _).mono ?_
    rintro e w12 ⟨⟨u2, rfl, hu2⟩, rfl⟩
    have hu22 : u2.size ≤ 23 := by omega
    go_wp2_with fail
    refine (obj1 ⟨#[36, 110, 117, 109, 98, 101, 114, 73, 110, 116]⟩ u2 (30 + 10) (by omega) (by show 10 + u2.size ≤ _; omega) HA.out.sty).mono ?_
    rintro e w13 ⟨⟨u3, rfl, hu3⟩, haw⟩
    have HA2 := Lib.hid (HA.out.trans haw)
    clear HA haw
    have HA := HA2
    clear HA2
    go_wp2
    go_ret2
    exact ValAns.small rfl (by omega) HA.out
  · go_wp2_with fail
    refine (FormatInt_calls n n0 n1 _ (HE.out.p10 _ HA.out.sty.below)).mono ?_
    rintro e w14 ⟨⟨u1, rfl, hu1⟩, hbw⟩
    have HA2 := Lib.hid (HA.out.trans (HA.out.sty.with hbw))
    clear HA hbw
    have HA := HA2
    clear HA2
    go_wp2
    go_ret2
    exact ValAns.small rfl (by omega) HA.out
set_option maxRecDepth 100000 in
set_option maxHeartbeats 4000000 in
theorem val18_calls {w0 : World} {S : Nat} {cA : Option Addr} {cs : List Int} {cc : Nat} {w : World} (hs : Sty w0 S cA cs cc w) (E : Env w0) (text more : ByteArray) (n bits high : Int) (bA kA : Option Addr) (bs : List Int) (bc kl kc : Nat) (ht : text.size ≤ 300) (hm : more.size ≤ 300) (n0 : -9223372036854775808 ≤ n) (n1 : n ≤ 9223372036854775807) (b0 : 0 ≤ bits) (b1 : bits < 18446744073709551616) (g0 : 0 ≤ high) (g1 : high < 18446744073709551616) (hbs : bs.length ≤ 300) (hbr : ∀ x ∈ bs, 0 ≤ x ∧ x ≤ 255) (hbR : ReadsInt w0 .u8 bA bs.length bs) :
    Calls Tryz.prog 10 #[.pointer (some ⟨S, 0, none⟩), .agg #[.int .i64 18, .string text, .string more, .int .i64 n, .int .u64 bits, .int .u64 high, .slice bA bs.length bc, .slice kA kl kc]] w (ValAns (fun l => l.length ≤ 60000) w0 S cA cs cc w) := by
  have HS := Lib.hid hs
  have c3 := (hs.alloc (.cells #[.int .i64 18, .string text, .string more, .int .i64 n, .int .u64 bits, .int .u64 high, .slice bA bs.length bc, .slice kA kl kc] 26)).sty.c3
  have hlt := hs.size
  clear hs
  have HE := Lib.hid E
  clear E
  have HR := Lib.hid hbR
  clear hbR
  have HBR := Lib.hid hbr
  clear hbr
  go_enter Tryz.func10, Tryz.ntmps10
  go_wp2_with fail
  refine (next_calls 2 (by omega) (by omega) (HS.out.alloc _).sty).mono ?_
  rintro e w1 ⟨r, rfl, hr, ha⟩
  have q0 : w1.cell? ⟨w.heap.size, 0, none⟩ = some (Value.int .i64 18) := (ha.keeps.cell (p := ⟨w.heap.size, 0, none⟩) (by simp) (by simp; omega)).trans (by simp [go_sem])
  have q1 : w1.cell? ⟨w.heap.size, 1, none⟩ = some (Value.string text) := (ha.keeps.cell (p := ⟨w.heap.size, 1, none⟩) (by simp) (by simp; omega)).trans (by simp [go_sem])
  have q2 : w1.cell? ⟨w.heap.size, 2, none⟩ = some (Value.string more) := (ha.keeps.cell (p := ⟨w.heap.size, 2, none⟩) (by simp) (by simp; omega)).trans (by simp [go_sem])
  have q3 : w1.cell? ⟨w.heap.size, 3, none⟩ = some (Value.int .i64 n) := (ha.keeps.cell (p := ⟨w.heap.size, 3, none⟩) (by simp) (by simp; omega)).trans (by simp [go_sem])
  have q4 : w1.cell? ⟨w.heap.size, 4, none⟩ = some (Value.int .u64 bits) := (ha.keeps.cell (p := ⟨w.heap.size, 4, none⟩) (by simp) (by simp; omega)).trans (by simp [go_sem])
  have q5 : w1.cell? ⟨w.heap.size, 5, none⟩ = some (Value.int .u64 high) := (ha.keeps.cell (p := ⟨w.heap.size, 5, none⟩) (by simp) (by simp; omega)).trans (by simp [go_sem])
  have q6 : w1.cell? ⟨w.heap.size, 6, none⟩ = some (Value.slice bA bs.length bc) := (ha.keeps.cell (p := ⟨w.heap.size, 6, none⟩) (by simp) (by simp; omega)).trans (by simp [go_sem])
  have q7 : w1.cell? ⟨w.heap.size, 7, none⟩ = some (Value.slice kA kl kc) := (ha.keeps.cell (p := ⟨w.heap.size, 7, none⟩) (by simp) (by simp; omega)).trans (by simp [go_sem])
  have hbx : w.heap.size < w1.heap.size := by have := ha.keeps.size; simp at this; omega
  have HA := Lib.hid ((HS.out.alloc _).trans ha)
  clear ha c3
  have hr8 : r = 0 ∨ r = 1 := by omega
  clear hr
  rcases hr8 with rfl | rfl
  · go_wp2_with fail
    refine (FormatInt_calls n n0 n1 _ (HE.out.p10 _ HA.out.sty.below)).mono ?_
    rintro e w15 ⟨⟨u1, rfl, hu1⟩, hbw⟩
    have HA2 := Lib.hid (HA.out.trans (HA.out.sty.with hbw))
    clear HA hbw
    have HA := HA2
    clear HA2
    go_wp2_with fail
    refine (quoted_calls u1 (by omega) _).mono ?_
    rintro e w16 ⟨⟨u2, rfl, hu2⟩, rfl⟩
    have hu22 : u2.size ≤ 23 := by omega
    go_wp2_with fail
    refine (obj1 ⟨#[36, 110, 117, 109, 98, 101, 114, 76, 111, 110, 103]⟩ u2 (30 + 11) (by omega) (by show 11 + u2.size ≤ _; omega) HA.out.sty).mono ?_
    rintro e w17 ⟨⟨u3, rfl, hu3⟩, haw⟩
    have HA2 := Lib.hid (HA.out.trans haw)
    clear HA haw
    have HA := HA2
    clear HA2
    go_wp2
    go_ret2
    exact ValAns.small rfl (by omega) HA.out
  · by_cases x1 : n < -2147483648
    · have d1 : decide (n < -2147483648) = true := decide_eq_true x1
      go_wp2_with fail
      refine (FormatInt_calls n n0 n1 _ (HE.out.p10 _ HA.out.sty.below)).mono ?_
      rintro e w18 ⟨⟨u1, rfl, hu1⟩, hbw⟩
      have HA2 := Lib.hid (HA.out.trans (HA.out.sty.with hbw))
      clear HA hbw
      have HA := HA2
      clear HA2
      go_wp2
      go_ret2
      exact ValAns.small rfl (by omega) HA.out
    have d1 : decide (n < -2147483648) = false := decide_eq_false x1
    by_cases x2 : 2147483647 < n
    · have d2 : decide (2147483647 < n) = true := decide_eq_true x2
      go_wp2_with fail
      refine (FormatInt_calls n n0 n1 _ (HE.out.p10 _ HA.out.sty.below)).mono ?_
      rintro e w18 ⟨⟨u1, rfl, hu1⟩, hbw⟩
      have HA2 := Lib.hid (HA.out.trans (HA.out.sty.with hbw))
      clear HA hbw
      have HA := HA2
      clear HA2
      go_wp2
      go_ret2
      exact ValAns.small rfl (by omega) HA.out
    have d2 : decide (2147483647 < n) = false := decide_eq_false x2
    go_wp2_with fail
    refine (FormatInt_calls n n0 n1 _ (HE.out.p10 _ HA.out.sty.below)).mono ?_
    rintro e w15 ⟨⟨u1, rfl, hu1⟩, hbw⟩
    have HA2 := Lib.hid (HA.out.trans (HA.out.sty.with hbw))
    clear HA hbw
    have HA := HA2
    clear HA2
    go_wp2_with fail
    refine (quoted_calls u1 (by omega) _).mono ?_
    rintro e w16 ⟨⟨u2, rfl, hu2⟩, rfl⟩
    have hu22 : u2.size ≤ 23 := by omega
    go_wp2_with fail
    refine (obj1 ⟨#[36, 110, 117, 109, 98, 101, 114, 76, 111, 110, 103]⟩ u2 (30 + 11) (by omega) (by show 11 + u2.size ≤ _; omega) HA.out.sty).mono ?_
    rintro e w17 ⟨⟨u3, rfl, hu3⟩, haw⟩
    have HA2 := Lib.hid (HA.out.trans haw)
    clear HA haw
    have HA := HA2
    clear HA2
    go_wp2
    go_ret2
    exact ValAns.small rfl (by omega) HA.out
set_option maxRecDepth 100000 in
set_option maxHeartbeats 4000000 in
theorem val9_calls {w0 : World} {S : Nat} {cA : Option Addr} {cs : List Int} {cc : Nat} {w : World} (hs : Sty w0 S cA cs cc w) (E : Env w0) (text more : ByteArray) (n bits high : Int) (bA kA : Option Addr) (bs : List Int) (bc kl kc : Nat) (ht : text.size ≤ 300) (hm : more.size ≤ 300) (n0 : -9223372036854775808 ≤ n) (n1 : n ≤ 9223372036854775807) (b0 : 0 ≤ bits) (b1 : bits < 18446744073709551616) (g0 : 0 ≤ high) (g1 : high < 18446744073709551616) (hbs : bs.length ≤ 300) (hbr : ∀ x ∈ bs, 0 ≤ x ∧ x ≤ 255) (hbR : ReadsInt w0 .u8 bA bs.length bs) :
    Calls Tryz.prog 10 #[.pointer (some ⟨S, 0, none⟩), .agg #[.int .i64 9, .string text, .string more, .int .i64 n, .int .u64 bits, .int .u64 high, .slice bA bs.length bc, .slice kA kl kc]] w (ValAns (fun l => l.length ≤ 60000) w0 S cA cs cc w) := by
  have HS := Lib.hid hs
  have c3 := (hs.alloc (.cells #[.int .i64 9, .string text, .string more, .int .i64 n, .int .u64 bits, .int .u64 high, .slice bA bs.length bc, .slice kA kl kc] 26)).sty.c3
  have hlt := hs.size
  clear hs
  have HE := Lib.hid E
  clear E
  have HR := Lib.hid hbR
  clear hbR
  have HBR := Lib.hid hbr
  clear hbr
  go_enter Tryz.func10, Tryz.ntmps10
  go_wp2_with fail
  refine (next_calls 2 (by omega) (by omega) (HS.out.alloc _).sty).mono ?_
  rintro e w1 ⟨r, rfl, hr, ha⟩
  have q0 : w1.cell? ⟨w.heap.size, 0, none⟩ = some (Value.int .i64 9) := (ha.keeps.cell (p := ⟨w.heap.size, 0, none⟩) (by simp) (by simp; omega)).trans (by simp [go_sem])
  have q1 : w1.cell? ⟨w.heap.size, 1, none⟩ = some (Value.string text) := (ha.keeps.cell (p := ⟨w.heap.size, 1, none⟩) (by simp) (by simp; omega)).trans (by simp [go_sem])
  have q2 : w1.cell? ⟨w.heap.size, 2, none⟩ = some (Value.string more) := (ha.keeps.cell (p := ⟨w.heap.size, 2, none⟩) (by simp) (by simp; omega)).trans (by simp [go_sem])
  have q3 : w1.cell? ⟨w.heap.size, 3, none⟩ = some (Value.int .i64 n) := (ha.keeps.cell (p := ⟨w.heap.size, 3, none⟩) (by simp) (by simp; omega)).trans (by simp [go_sem])
  have q4 : w1.cell? ⟨w.heap.size, 4, none⟩ = some (Value.int .u64 bits) := (ha.keeps.cell (p := ⟨w.heap.size, 4, none⟩) (by simp) (by simp; omega)).trans (by simp [go_sem])
  have q5 : w1.cell? ⟨w.heap.size, 5, none⟩ = some (Value.int .u64 high) := (ha.keeps.cell (p := ⟨w.heap.size, 5, none⟩) (by simp) (by simp; omega)).trans (by simp [go_sem])
  have q6 : w1.cell? ⟨w.heap.size, 6, none⟩ = some (Value.slice bA bs.length bc) := (ha.keeps.cell (p := ⟨w.heap.size, 6, none⟩) (by simp) (by simp; omega)).trans (by simp [go_sem])
  have q7 : w1.cell? ⟨w.heap.size, 7, none⟩ = some (Value.slice kA kl kc) := (ha.keeps.cell (p := ⟨w.heap.size, 7, none⟩) (by simp) (by simp; omega)).trans (by simp [go_sem])
  have hbx : w.heap.size < w1.heap.size := by have := ha.keeps.size; simp at this; omega
  have HA := Lib.hid ((HS.out.alloc _).trans ha)
  clear ha c3
  have hr8 : r = 0 ∨ r = 1 := by omega
  clear hr
  rcases hr8 with rfl | rfl
  · go_wp2_with fail
    refine (FormatInt_calls n n0 n1 _ (HE.out.p10 _ HA.out.sty.below)).mono ?_
    rintro e w19 ⟨⟨u1, rfl, hu1⟩, hbw⟩
    have HA2 := Lib.hid (HA.out.trans (HA.out.sty.with hbw))
    clear HA hbw
    have HA := HA2
    clear HA2
    go_wp2_with fail
    refine (quoted_calls u1 (by omega) _).mono ?_
    rintro e w20 ⟨⟨u2, rfl, hu2⟩, rfl⟩
    have hu22 : u2.size ≤ 23 := by omega
    go_wp2_with fail
    refine (obj1 ⟨#[36, 110, 117, 109, 98, 101, 114, 76, 111, 110, 103]⟩ u2 (30 + 11) (by omega) (by show 11 + u2.size ≤ _; omega) HA.out.sty).mono ?_
    rintro e w21 ⟨⟨u3, rfl, hu3⟩, haw⟩
    have HA2 := Lib.hid (HA.out.trans haw)
    clear HA haw
    have HA := HA2
    clear HA2
    go_wp2_with fail
    refine (obj1 ⟨#[36, 100, 97, 116, 101]⟩ u3 (100 + 5) (by omega) (by show 5 + u3.size ≤ _; omega) HA.out.sty).mono ?_
    rintro e w22 ⟨⟨u4, rfl, hu4⟩, haw⟩
    have HA2 := Lib.hid (HA.out.trans haw)
    clear HA haw
    have HA := HA2
    clear HA2
    go_wp2
    go_ret2
    exact ValAns.small rfl (by omega) HA.out
  · go_wp2_with fail
    refine (FormatInt_calls n n0 n1 _ (HE.out.p10 _ HA.out.sty.below)).mono ?_
    rintro e w19 ⟨⟨u1, rfl, hu1⟩, hbw⟩
    have HA2 := Lib.hid (HA.out.trans (HA.out.sty.with hbw))
    clear HA hbw
    have HA := HA2
    clear HA2
    go_wp2_with fail
    refine (quoted_calls u1 (by omega) _).mono ?_
    rintro e w20 ⟨⟨u2, rfl, hu2⟩, rfl⟩
    have hu22 : u2.size ≤ 23 := by omega
    go_wp2_with fail
    refine (obj1 ⟨#[36, 110, 117, 109, 98, 101, 114, 76, 111, 110, 103]⟩ u2 (30 + 11) (by omega) (by show 11 + u2.size ≤ _; omega) HA.out.sty).mono ?_
    rintro e w21 ⟨⟨u3, rfl, hu3⟩, haw⟩
    have HA2 := Lib.hid (HA.out.trans haw)
    clear HA haw
    have HA := HA2
    clear HA2
    go_wp2_with fail
    refine (obj1 ⟨#[36, 100, 97, 116, 101]⟩ u3 (100 + 5) (by omega) (by show 5 + u3.size ≤ _; omega) HA.out.sty).mono ?_
    rintro e w22 ⟨⟨u4, rfl, hu4⟩, haw⟩
    have HA2 := Lib.hid (HA.out.trans haw)
    clear HA haw
    have HA := HA2
    clear HA2
    go_wp2
    go_ret2
    exact ValAns.small rfl (by omega) HA.out
set_option maxRecDepth 100000 in
set_option maxHeartbeats 4000000 in
theorem val13_calls {w0 : World} {S : Nat} {cA : Option Addr} {cs : List Int} {cc : Nat} {w : World} (hs : Sty w0 S cA cs cc w) (E : Env w0) (text more : ByteArray) (n bits high : Int) (bA kA : Option Addr) (bs : List Int) (bc kl kc : Nat) (ht : text.size ≤ 300) (hm : more.size ≤ 300) (n0 : -9223372036854775808 ≤ n) (n1 : n ≤ 9223372036854775807) (b0 : 0 ≤ bits) (b1 : bits < 18446744073709551616) (g0 : 0 ≤ high) (g1 : high < 18446744073709551616) (hbs : bs.length ≤ 300) (hbr : ∀ x ∈ bs, 0 ≤ x ∧ x ≤ 255) (hbR : ReadsInt w0 .u8 bA bs.length bs) :
    Calls Tryz.prog 10 #[.pointer (some ⟨S, 0, none⟩), .agg #[.int .i64 13, .string text, .string more, .int .i64 n, .int .u64 bits, .int .u64 high, .slice bA bs.length bc, .slice kA kl kc]] w (ValAns (fun l => l.length ≤ 60000) w0 S cA cs cc w) := by
  have HS := Lib.hid hs
  have c3 := (hs.alloc (.cells #[.int .i64 13, .string text, .string more, .int .i64 n, .int .u64 bits, .int .u64 high, .slice bA bs.length bc, .slice kA kl kc] 26)).sty.c3
  have hlt := hs.size
  clear hs
  have HE := Lib.hid E
  clear E
  have HR := Lib.hid hbR
  clear hbR
  have HBR := Lib.hid hbr
  clear hbr
  go_enter Tryz.func10, Tryz.ntmps10
  go_wp2_with fail
  refine (next_calls 2 (by omega) (by omega) (HS.out.alloc _).sty).mono ?_
  rintro e w1 ⟨r, rfl, hr, ha⟩
  have q0 : w1.cell? ⟨w.heap.size, 0, none⟩ = some (Value.int .i64 13) := (ha.keeps.cell (p := ⟨w.heap.size, 0, none⟩) (by simp) (by simp; omega)).trans (by simp [go_sem])
  have q1 : w1.cell? ⟨w.heap.size, 1, none⟩ = some (Value.string text) := (ha.keeps.cell (p := ⟨w.heap.size, 1, none⟩) (by simp) (by simp; omega)).trans (by simp [go_sem])
  have q2 : w1.cell? ⟨w.heap.size, 2, none⟩ = some (Value.string more) := (ha.keeps.cell (p := ⟨w.heap.size, 2, none⟩) (by simp) (by simp; omega)).trans (by simp [go_sem])
  have q3 : w1.cell? ⟨w.heap.size, 3, none⟩ = some (Value.int .i64 n) := (ha.keeps.cell (p := ⟨w.heap.size, 3, none⟩) (by simp) (by simp; omega)).trans (by simp [go_sem])
  have q4 : w1.cell? ⟨w.heap.size, 4, none⟩ = some (Value.int .u64 bits) := (ha.keeps.cell (p := ⟨w.heap.size, 4, none⟩) (by simp) (by simp; omega)).trans (by simp [go_sem])
  have q5 : w1.cell? ⟨w.heap.size, 5, none⟩ = some (Value.int .u64 high) := (ha.keeps.cell (p := ⟨w.heap.size, 5, none⟩) (by simp) (by simp; omega)).trans (by simp [go_sem])
  have q6 : w1.cell? ⟨w.heap.size, 6, none⟩ = some (Value.slice bA bs.length bc) := (ha.keeps.cell (p := ⟨w.heap.size, 6, none⟩) (by simp) (by simp; omega)).trans (by simp [go_sem])
  have q7 : w1.cell? ⟨w.heap.size, 7, none⟩ = some (Value.slice kA kl kc) := (ha.keeps.cell (p := ⟨w.heap.size, 7, none⟩) (by simp) (by simp; omega)).trans (by simp [go_sem])
  have hbx : w.heap.size < w1.heap.size := by have := ha.keeps.size; simp at this; omega
  have HA := Lib.hid ((HS.out.alloc _).trans ha)
  clear ha c3
  have hr8 : r = 0 ∨ r = 1 := by omega
  clear hr
  rcases hr8 with rfl | rfl
  · go_wp2_with fail
    refine (text_n text ht HA.out.sty).mono ?_
    rintro e w23 ⟨⟨u1, rfl, hu1⟩, haw⟩
    have HA2 := Lib.hid (HA.out.trans haw)
    clear HA haw
    have HA := HA2
    clear HA2
    go_wp2_with fail
    refine (obj1 ⟨#[36, 99, 111, 100, 101]⟩ u1 (3602 + 5) (by omega) (by show 5 + u1.size ≤ _; omega) HA.out.sty).mono ?_
    rintro e w24 ⟨⟨u2, rfl, hu2⟩, haw⟩
    have HA2 := Lib.hid (HA.out.trans haw)
    clear HA haw
    have HA := HA2
    clear HA2
    go_wp2
    go_ret2
    exact ValAns.small rfl (by omega) HA.out
  · go_wp2_with fail
    refine (text_n text ht HA.out.sty).mono ?_
    rintro e w23 ⟨⟨u1, rfl, hu1⟩, haw⟩
    have HA2 := Lib.hid (HA.out.trans haw)
    clear HA haw
    have HA := HA2
    clear HA2
    go_wp2_with fail
    refine (obj1 ⟨#[36, 99, 111, 100, 101]⟩ u1 (3602 + 5) (by omega) (by show 5 + u1.size ≤ _; omega) HA.out.sty).mono ?_
    rintro e w24 ⟨⟨u2, rfl, hu2⟩, haw⟩
    have HA2 := Lib.hid (HA.out.trans haw)
    clear HA haw
    have HA := HA2
    clear HA2
    go_wp2
    go_ret2
    exact ValAns.small rfl (by omega) HA.out
set_option maxRecDepth 100000 in
set_option maxHeartbeats 4000000 in
theorem val14_calls {w0 : World} {S : Nat} {cA : Option Addr} {cs : List Int} {cc : Nat} {w : World} (hs : Sty w0 S cA cs cc w) (E : Env w0) (text more : ByteArray) (n bits high : Int) (bA kA : Option Addr) (bs : List Int) (bc kl kc : Nat) (ht : text.size ≤ 300) (hm : more.size ≤ 300) (n0 : -9223372036854775808 ≤ n) (n1 : n ≤ 9223372036854775807) (b0 : 0 ≤ bits) (b1 : bits < 18446744073709551616) (g0 : 0 ≤ high) (g1 : high < 18446744073709551616) (hbs : bs.length ≤ 300) (hbr : ∀ x ∈ bs, 0 ≤ x ∧ x ≤ 255) (hbR : ReadsInt w0 .u8 bA bs.length bs) :
    Calls Tryz.prog 10 #[.pointer (some ⟨S, 0, none⟩), .agg #[.int .i64 14, .string text, .string more, .int .i64 n, .int .u64 bits, .int .u64 high, .slice bA bs.length bc, .slice kA kl kc]] w (ValAns (fun l => l.length ≤ 60000) w0 S cA cs cc w) := by
  have HS := Lib.hid hs
  have c3 := (hs.alloc (.cells #[.int .i64 14, .string text, .string more, .int .i64 n, .int .u64 bits, .int .u64 high, .slice bA bs.length bc, .slice kA kl kc] 26)).sty.c3
  have hlt := hs.size
  clear hs
  have HE := Lib.hid E
  clear E
  have HR := Lib.hid hbR
  clear hbR
  have HBR := Lib.hid hbr
  clear hbr
  go_enter Tryz.func10, Tryz.ntmps10
  go_wp2_with fail
  refine (next_calls 2 (by omega) (by omega) (HS.out.alloc _).sty).mono ?_
  rintro e w1 ⟨r, rfl, hr, ha⟩
  have q0 : w1.cell? ⟨w.heap.size, 0, none⟩ = some (Value.int .i64 14) := (ha.keeps.cell (p := ⟨w.heap.size, 0, none⟩) (by simp) (by simp; omega)).trans (by simp [go_sem])
  have q1 : w1.cell? ⟨w.heap.size, 1, none⟩ = some (Value.string text) := (ha.keeps.cell (p := ⟨w.heap.size, 1, none⟩) (by simp) (by simp; omega)).trans (by simp [go_sem])
  have q2 : w1.cell? ⟨w.heap.size, 2, none⟩ = some (Value.string more) := (ha.keeps.cell (p := ⟨w.heap.size, 2, none⟩) (by simp) (by simp; omega)).trans (by simp [go_sem])
  have q3 : w1.cell? ⟨w.heap.size, 3, none⟩ = some (Value.int .i64 n) := (ha.keeps.cell (p := ⟨w.heap.size, 3, none⟩) (by simp) (by simp; omega)).trans (by simp [go_sem])
  have q4 : w1.cell? ⟨w.heap.size, 4, none⟩ = some (Value.int .u64 bits) := (ha.keeps.cell (p := ⟨w.heap.size, 4, none⟩) (by simp) (by simp; omega)).trans (by simp [go_sem])
  have q5 : w1.cell? ⟨w.heap.size, 5, none⟩ = some (Value.int .u64 high) := (ha.keeps.cell (p := ⟨w.heap.size, 5, none⟩) (by simp) (by simp; omega)).trans (by simp [go_sem])
  have q6 : w1.cell? ⟨w.heap.size, 6, none⟩ = some (Value.slice bA bs.length bc) := (ha.keeps.cell (p := ⟨w.heap.size, 6, none⟩) (by simp) (by simp; omega)).trans (by simp [go_sem])
  have q7 : w1.cell? ⟨w.heap.size, 7, none⟩ = some (Value.slice kA kl kc) := (ha.keeps.cell (p := ⟨w.heap.size, 7, none⟩) (by simp) (by simp; omega)).trans (by simp [go_sem])
  have hbx : w.heap.size < w1.heap.size := by have := ha.keeps.size; simp at this; omega
  have HA := Lib.hid ((HS.out.alloc _).trans ha)
  clear ha c3
  have hr8 : r = 0 ∨ r = 1 := by omega
  clear hr
  rcases hr8 with rfl | rfl
  · go_wp2_with fail
    refine (text_n text ht HA.out.sty).mono ?_
    rintro e w25 ⟨⟨u1, rfl, hu1⟩, haw⟩
    have HA2 := Lib.hid (HA.out.trans haw)
    clear HA haw
    have HA := HA2
    clear HA2
    go_wp2_with fail
    refine (obj1 ⟨#[36, 115, 121, 109, 98, 111, 108]⟩ u1 (3602 + 7) (by omega) (by show 7 + u1.size ≤ _; omega) HA.out.sty).mono ?_
    rintro e w26 ⟨⟨u2, rfl, hu2⟩, haw⟩
    have HA2 := Lib.hid (HA.out.trans haw)
    clear HA haw
    have HA := HA2
    clear HA2
    go_wp2
    go_ret2
    exact ValAns.small rfl (by omega) HA.out
  · go_wp2_with fail
    refine (text_n text ht HA.out.sty).mono ?_
    rintro e w25 ⟨⟨u1, rfl, hu1⟩, haw⟩
    have HA2 := Lib.hid (HA.out.trans haw)
    clear HA haw
    have HA := HA2
    clear HA2
    go_wp2_with fail
    refine (obj1 ⟨#[36, 115, 121, 109, 98, 111, 108]⟩ u1 (3602 + 7) (by omega) (by show 7 + u1.size ≤ _; omega) HA.out.sty).mono ?_
    rintro e w26 ⟨⟨u2, rfl, hu2⟩, haw⟩
    have HA2 := Lib.hid (HA.out.trans haw)
    clear HA haw
    have HA := HA2
    clear HA2
    go_wp2
    go_ret2
    exact ValAns.small rfl (by omega) HA.out
set_option maxRecDepth 100000 in
set_option maxHeartbeats 4000000 in
theorem val6_calls {w0 : World} {S : Nat} {cA : Option Addr} {cs : List Int} {cc : Nat} {w : World} (hs : Sty w0 S cA cs cc w) (E : Env w0) (text more : ByteArray) (n bits high : Int) (bA kA : Option Addr) (bs : List Int) (bc kl kc : Nat) (ht : text.size ≤ 300) (hm : more.size ≤ 300) (n0 : -9223372036854775808 ≤ n) (n1 : n ≤ 9223372036854775807) (b0 : 0 ≤ bits) (b1 : bits < 18446744073709551616) (g0 : 0 ≤ high) (g1 : high < 18446744073709551616) (hbs : bs.length ≤ 300) (hbr : ∀ x ∈ bs, 0 ≤ x ∧ x ≤ 255) (hbR : ReadsInt w0 .u8 bA bs.length bs) :
    Calls Tryz.prog 10 #[.pointer (some ⟨S, 0, none⟩), .agg #[.int .i64 6, .string text, .string more, .int .i64 n, .int .u64 bits, .int .u64 high, .slice bA bs.length bc, .slice kA kl kc]] w (ValAns (fun l => l.length ≤ 60000) w0 S cA cs cc w) := by
  have HS := Lib.hid hs
  have c3 := (hs.alloc (.cells #[.int .i64 6, .string text, .string more, .int .i64 n, .int .u64 bits, .int .u64 high, .slice bA bs.length bc, .slice kA kl kc] 26)).sty.c3
  have hlt := hs.size
  clear hs
  have HE := Lib.hid E
  clear E
  have HR := Lib.hid hbR
  clear hbR
  have HBR := Lib.hid hbr
  clear hbr
  go_enter Tryz.func10, Tryz.ntmps10
  go_wp2_with fail
  refine (next_calls 2 (by omega) (by omega) (HS.out.alloc _).sty).mono ?_
  rintro e w1 ⟨r, rfl, hr, ha⟩
  have q0 : w1.cell? ⟨w.heap.size, 0, none⟩ = some (Value.int .i64 6) := (ha.keeps.cell (p := ⟨w.heap.size, 0, none⟩) (by simp) (by simp; omega)).trans (by simp [go_sem])
  have q1 : w1.cell? ⟨w.heap.size, 1, none⟩ = some (Value.string text) := (ha.keeps.cell (p := ⟨w.heap.size, 1, none⟩) (by simp) (by simp; omega)).trans (by simp [go_sem])
  have q2 : w1.cell? ⟨w.heap.size, 2, none⟩ = some (Value.string more) := (ha.keeps.cell (p := ⟨w.heap.size, 2, none⟩) (by simp) (by simp; omega)).trans (by simp [go_sem])
  have q3 : w1.cell? ⟨w.heap.size, 3, none⟩ = some (Value.int .i64 n) := (ha.keeps.cell (p := ⟨w.heap.size, 3, none⟩) (by simp) (by simp; omega)).trans (by simp [go_sem])
  have q4 : w1.cell? ⟨w.heap.size, 4, none⟩ = some (Value.int .u64 bits) := (ha.keeps.cell (p := ⟨w.heap.size, 4, none⟩) (by simp) (by simp; omega)).trans (by simp [go_sem])
  have q5 : w1.cell? ⟨w.heap.size, 5, none⟩ = some (Value.int .u64 high) := (ha.keeps.cell (p := ⟨w.heap.size, 5, none⟩) (by simp) (by simp; omega)).trans (by simp [go_sem])
  have q6 : w1.cell? ⟨w.heap.size, 6, none⟩ = some (Value.slice bA bs.length bc) := (ha.keeps.cell (p := ⟨w.heap.size, 6, none⟩) (by simp) (by simp; omega)).trans (by simp [go_sem])
  have q7 : w1.cell? ⟨w.heap.size, 7, none⟩ = some (Value.slice kA kl kc) := (ha.keeps.cell (p := ⟨w.heap.size, 7, none⟩) (by simp) (by simp; omega)).trans (by simp [go_sem])
  have hbx : w.heap.size < w1.heap.size := by have := ha.keeps.size; simp at this; omega
  have HA := Lib.hid ((HS.out.alloc _).trans ha)
  clear ha c3
  have hr8 : r = 0 ∨ r = 1 := by omega
  clear hr
  rcases hr8 with rfl | rfl
  · go_wp2_with fail
    refine (obj1 ⟨#[36, 117, 110, 100, 101, 102, 105, 110, 101, 100]⟩ ⟨#[116, 114, 117, 101]⟩ 20 (by omega) (by decide) HA.out.sty).mono ?_
    rintro e w27 ⟨⟨u2, rfl, hu2⟩, haw⟩
    have HA2 := Lib.hid (HA.out.trans haw)
    clear HA haw
    have HA := HA2
    clear HA2
    go_wp2
    go_ret2
    exact ValAns.small rfl (by omega) HA.out
  · go_wp2_with fail
    refine (obj1 ⟨#[36, 117, 110, 100, 101, 102, 105, 110, 101, 100]⟩ ⟨#[116, 114, 117, 101]⟩ 20 (by omega) (by decide) HA.out.sty).mono ?_
    rintro e w27 ⟨⟨u2, rfl, hu2⟩, haw⟩
    have HA2 := Lib.hid (HA.out.trans haw)
    clear HA haw
    have HA := HA2
    clear HA2
    go_wp2
    go_ret2
    exact ValAns.small rfl (by omega) HA.out
set_option maxRecDepth 100000 in
set_option maxHeartbeats 4000000 in
theorem val255_calls {w0 : World} {S : Nat} {cA : Option Addr} {cs : List Int} {cc : Nat} {w : World} (hs : Sty w0 S cA cs cc w) (E : Env w0) (text more : ByteArray) (n bits high : Int) (bA kA : Option Addr) (bs : List Int) (bc kl kc : Nat) (ht : text.size ≤ 300) (hm : more.size ≤ 300) (n0 : -9223372036854775808 ≤ n) (n1 : n ≤ 9223372036854775807) (b0 : 0 ≤ bits) (b1 : bits < 18446744073709551616) (g0 : 0 ≤ high) (g1 : high < 18446744073709551616) (hbs : bs.length ≤ 300) (hbr : ∀ x ∈ bs, 0 ≤ x ∧ x ≤ 255) (hbR : ReadsInt w0 .u8 bA bs.length bs) :
    Calls Tryz.prog 10 #[.pointer (some ⟨S, 0, none⟩), .agg #[.int .i64 255, .string text, .string more, .int .i64 n, .int .u64 bits, .int .u64 high, .slice bA bs.length bc, .slice kA kl kc]] w (ValAns (fun l => l.length ≤ 60000) w0 S cA cs cc w) := by
  have HS := Lib.hid hs
  have c3 := (hs.alloc (.cells #[.int .i64 255, .string text, .string more, .int .i64 n, .int .u64 bits, .int .u64 high, .slice bA bs.length bc, .slice kA kl kc] 26)).sty.c3
  have hlt := hs.size
  clear hs
  have HE := Lib.hid E
  clear E
  have HR := Lib.hid hbR
  clear hbR
  have HBR := Lib.hid hbr
  clear hbr
  go_enter Tryz.func10, Tryz.ntmps10
  go_wp2_with fail
  refine (next_calls 2 (by omega) (by omega) (HS.out.alloc _).sty).mono ?_
  rintro e w1 ⟨r, rfl, hr, ha⟩
  have q0 : w1.cell? ⟨w.heap.size, 0, none⟩ = some (Value.int .i64 255) := (ha.keeps.cell (p := ⟨w.heap.size, 0, none⟩) (by simp) (by simp; omega)).trans (by simp [go_sem])
  have q1 : w1.cell? ⟨w.heap.size, 1, none⟩ = some (Value.string text) := (ha.keeps.cell (p := ⟨w.heap.size, 1, none⟩) (by simp) (by simp; omega)).trans (by simp [go_sem])
  have q2 : w1.cell? ⟨w.heap.size, 2, none⟩ = some (Value.string more) := (ha.keeps.cell (p := ⟨w.heap.size, 2, none⟩) (by simp) (by simp; omega)).trans (by simp [go_sem])
  have q3 : w1.cell? ⟨w.heap.size, 3, none⟩ = some (Value.int .i64 n) := (ha.keeps.cell (p := ⟨w.heap.size, 3, none⟩) (by simp) (by simp; omega)).trans (by simp [go_sem])
  have q4 : w1.cell? ⟨w.heap.size, 4, none⟩ = some (Value.int .u64 bits) := (ha.keeps.cell (p := ⟨w.heap.size, 4, none⟩) (by simp) (by simp; omega)).trans (by simp [go_sem])
  have q5 : w1.cell? ⟨w.heap.size, 5, none⟩ = some (Value.int .u64 high) := (ha.keeps.cell (p := ⟨w.heap.size, 5, none⟩) (by simp) (by simp; omega)).trans (by simp [go_sem])
  have q6 : w1.cell? ⟨w.heap.size, 6, none⟩ = some (Value.slice bA bs.length bc) := (ha.keeps.cell (p := ⟨w.heap.size, 6, none⟩) (by simp) (by simp; omega)).trans (by simp [go_sem])
  have q7 : w1.cell? ⟨w.heap.size, 7, none⟩ = some (Value.slice kA kl kc) := (ha.keeps.cell (p := ⟨w.heap.size, 7, none⟩) (by simp) (by simp; omega)).trans (by simp [go_sem])
  have hbx : w.heap.size < w1.heap.size := by have := ha.keeps.size; simp at this; omega
  have HA := Lib.hid ((HS.out.alloc _).trans ha)
  clear ha c3
  have hr8 : r = 0 ∨ r = 1 := by omega
  clear hr
  rcases hr8 with rfl | rfl
  · go_wp2_with fail
    refine (obj1 ⟨#[36, 109, 105, 110, 75, 101, 121]⟩ ⟨#[49]⟩ 20 (by omega) (by decide) HA.out.sty).mono ?_
    rintro e w28 ⟨⟨u2, rfl, hu2⟩, haw⟩
    have HA2 := Lib.hid (HA.out.trans haw)
    clear HA haw
    have HA := HA2
    clear HA2
    go_wp2
    go_ret2
    exact ValAns.small rfl (by omega) HA.out
  · go_wp2_with fail
    refine (obj1 ⟨#[36, 109, 105, 110, 75, 101, 121]⟩ ⟨#[49]⟩ 20 (by omega) (by decide) HA.out.sty).mono ?_
    rintro e w28 ⟨⟨u2, rfl, hu2⟩, haw⟩
    have HA2 := Lib.hid (HA.out.trans haw)
    clear HA haw
    have HA := HA2
    clear HA2
    go_wp2
    go_ret2
    exact ValAns.small rfl (by omega) HA.out
set_option maxRecDepth 100000 in
set_option maxHeartbeats 4000000 in
theorem val127_calls {w0 : World} {S : Nat} {cA : Option Addr} {cs : List Int} {cc : Nat} {w : World} (hs : Sty w0 S cA cs cc w) (E : Env w0) (text more : ByteArray) (n bits high : Int) (bA kA : Option Addr) (bs : List Int) (bc kl kc : Nat) (ht : text.size ≤ 300) (hm : more.size ≤ 300) (n0 : -9223372036854775808 ≤ n) (n1 : n ≤ 9223372036854775807) (b0 : 0 ≤ bits) (b1 : bits < 18446744073709551616) (g0 : 0 ≤ high) (g1 : high < 18446744073709551616) (hbs : bs.length ≤ 300) (hbr : ∀ x ∈ bs, 0 ≤ x ∧ x ≤ 255) (hbR : ReadsInt w0 .u8 bA bs.length bs) :
    Calls Tryz.prog 10 #[.pointer (some ⟨S, 0, none⟩), .agg #[.int .i64 127, .string text, .string more, .int .i64 n, .int .u64 bits, .int .u64 high, .slice bA bs.length bc, .slice kA kl kc]] w (ValAns (fun l => l.length ≤ 60000) w0 S cA cs cc w) := by
  have HS := Lib.hid hs
  have c3 := (hs.alloc (.cells #[.int .i64 127, .string text, .string more, .int .i64 n, .int .u64 bits, .int .u64 high, .slice bA bs.length bc, .slice kA kl kc] 26)).sty.c3
  have hlt := hs.size
  clear hs
  have HE := Lib.hid E
  clear E
  have HR := Lib.hid hbR
  clear hbR
  have HBR := Lib.hid hbr
  clear hbr
  go_enter Tryz.func10, Tryz.ntmps10
  go_wp2_with fail
  refine (next_calls 2 (by omega) (by omega) (HS.out.alloc _).sty).mono ?_
  rintro e w1 ⟨r, rfl, hr, ha⟩
  have q0 : w1.cell? ⟨w.heap.size, 0, none⟩ = some (Value.int .i64 127) := (ha.keeps.cell (p := ⟨w.heap.size, 0, none⟩) (by simp) (by simp; omega)).trans (by simp [go_sem])
  have q1 : w1.cell? ⟨w.heap.size, 1, none⟩ = some (Value.string text) := (ha.keeps.cell (p := ⟨w.heap.size, 1, none⟩) (by simp) (by simp; omega)).trans (by simp [go_sem])
  have q2 : w1.cell? ⟨w.heap.size, 2, none⟩ = some (Value.string more) := (ha.keeps.cell (p := ⟨w.heap.size, 2, none⟩) (by simp) (by simp; omega)).trans (by simp [go_sem])
  have q3 : w1.cell? ⟨w.heap.size, 3, none⟩ = some (Value.int .i64 n) := (ha.keeps.cell (p := ⟨w.heap.size, 3, none⟩) (by simp) (by simp; omega)).trans (by simp [go_sem])
  have q4 : w1.cell? ⟨w.heap.size, 4, none⟩ = some (Value.int .u64 bits) := (ha.keeps.cell (p := ⟨w.heap.size, 4, none⟩) (by simp) (by simp; omega)).trans (by simp [go_sem])
  have q5 : w1.cell? ⟨w.heap.size, 5, none⟩ = some (Value.int .u64 high) := (ha.keeps.cell (p := ⟨w.heap.size, 5, none⟩) (by simp) (by simp; omega)).trans (by simp [go_sem])
  have q6 : w1.cell? ⟨w.heap.size, 6, none⟩ = some (Value.slice bA bs.length bc) := (ha.keeps.cell (p := ⟨w.heap.size, 6, none⟩) (by simp) (by simp; omega)).trans (by simp [go_sem])
  have q7 : w1.cell? ⟨w.heap.size, 7, none⟩ = some (Value.slice kA kl kc) := (ha.keeps.cell (p := ⟨w.heap.size, 7, none⟩) (by simp) (by simp; omega)).trans (by simp [go_sem])
  have hbx : w.heap.size < w1.heap.size := by have := ha.keeps.size; simp at this; omega
  have HA := Lib.hid ((HS.out.alloc _).trans ha)
  clear ha c3
  have hr8 : r = 0 ∨ r = 1 := by omega
  clear hr
  rcases hr8 with rfl | rfl
  · go_wp2_with fail
    refine (obj1 ⟨#[36, 109, 97, 120, 75, 101, 121]⟩ ⟨#[49]⟩ 20 (by omega) (by decide) HA.out.sty).mono ?_
    rintro e w29 ⟨⟨u2, rfl, hu2⟩, haw⟩
    have HA2 := Lib.hid (HA.out.trans haw)
    clear HA haw
    have HA := HA2
    clear HA2
    go_wp2
    go_ret2
    exact ValAns.small rfl (by omega) HA.out
  · go_wp2_with fail
    refine (obj1 ⟨#[36, 109, 97, 120, 75, 101, 121]⟩ ⟨#[49]⟩ 20 (by omega) (by decide) HA.out.sty).mono ?_
    rintro e w29 ⟨⟨u2, rfl, hu2⟩, haw⟩
    have HA2 := Lib.hid (HA.out.trans haw)
    clear HA haw
    have HA := HA2
    clear HA2
    go_wp2
    go_ret2
    exact ValAns.small rfl (by omega) HA.out
set_option maxRecDepth 100000 in
set_option maxHeartbeats 4000000 in
theorem val7_calls {w0 : World} {S : Nat} {cA : Option Addr} {cs : List Int} {cc : Nat} {w : World} (hs : Sty w0 S cA cs cc w) (E : Env w0) (text more : ByteArray) (n bits high : Int) (bA kA : Option Addr) (bs : List Int) (bc kl kc : Nat) (ht : text.size ≤ 300) (hm : more.size ≤ 300) (n0 : -9223372036854775808 ≤ n) (n1 : n ≤ 9223372036854775807) (b0 : 0 ≤ bits) (b1 : bits < 18446744073709551616) (g0 : 0 ≤ high) (g1 : high < 18446744073709551616) (hbs : bs.length ≤ 300) (hbr : ∀ x ∈ bs, 0 ≤ x ∧ x ≤ 255) (hbR : ReadsInt w0 .u8 bA bs.length bs) :
    Calls Tryz.prog 10 #[.pointer (some ⟨S, 0, none⟩), .agg #[.int .i64 7, .string text, .string more, .int .i64 n, .int .u64 bits, .int .u64 high, .slice bA bs.length bc, .slice kA kl kc]] w (ValAns (fun l => l.length ≤ 60000) w0 S cA cs cc w) := by
  have HS := Lib.hid hs
  have c3 := (hs.alloc (.cells #[.int .i64 7, .string text, .string more, .int .i64 n, .int .u64 bits, .int .u64 high, .slice bA bs.length bc, .slice kA kl kc] 26)).sty.c3
  have hlt := hs.size
  clear hs
  have HE := Lib.hid E
  clear E
  have HR := Lib.hid hbR
  clear hbR
  have HBR := Lib.hid hbr
  clear hbr
  go_enter Tryz.func10, Tryz.ntmps10
  go_wp2_with fail
  refine (next_calls 2 (by omega) (by omega) (HS.out.alloc _).sty).mono ?_
  rintro e w1 ⟨r, rfl, hr, ha⟩
  have q0 : w1.cell? ⟨w.heap.size, 0, none⟩ = some (Value.int .i64 7) := (ha.keeps.cell (p := ⟨w.heap.size, 0, none⟩) (by simp) (by simp; omega)).trans (by simp [go_sem])
  have q1 : w1.cell? ⟨w.heap.size, 1, none⟩ = some (Value.string text) := (ha.keeps.cell (p := ⟨w.heap.size, 1, none⟩) (by simp) (by simp; omega)).trans (by simp [go_sem])
  have q2 : w1.cell? ⟨w.heap.size, 2, none⟩ = some (Value.string more) := (ha.keeps.cell (p := ⟨w.heap.size, 2, none⟩) (by simp) (by simp; omega)).trans (by simp [go_sem])
  have q3 : w1.cell? ⟨w.heap.size, 3, none⟩ = some (Value.int .i64 n) := (ha.keeps.cell (p := ⟨w.heap.size, 3, none⟩) (by simp) (by simp; omega)).trans (by simp [go_sem])
  have q4 : w1.cell? ⟨w.heap.size, 4, none⟩ = some (Value.int .u64 bits) := (ha.keeps.cell (p := ⟨w.heap.size, 4, none⟩) (by simp) (by simp; omega)).trans (by simp [go_sem])
  have q5 : w1.cell? ⟨w.heap.size, 5, none⟩ = some (Value.int .u64 high) := (ha.keeps.cell (p := ⟨w.heap.size, 5, none⟩) (by simp) (by simp; omega)).trans (by simp [go_sem])
  have q6 : w1.cell? ⟨w.heap.size, 6, none⟩ = some (Value.slice bA bs.length bc) := (ha.keeps.cell (p := ⟨w.heap.size, 6, none⟩) (by simp) (by simp; omega)).trans (by simp [go_sem])
  have q7 : w1.cell? ⟨w.heap.size, 7, none⟩ = some (Value.slice kA kl kc) := (ha.keeps.cell (p := ⟨w.heap.size, 7, none⟩) (by simp) (by simp; omega)).trans (by simp [go_sem])
  have hbx : w.heap.size < w1.heap.size := by have := ha.keeps.size; simp at this; omega
  have HA := Lib.hid ((HS.out.alloc _).trans ha)
  clear ha c3
  have hr8 : r = 0 ∨ r = 1 := by omega
  clear hr
  rcases hr8 with rfl | rfl
  · go_wp2_with fail
    refine (extID_calls bA bc bs HBR.out (by omega) _ (HR.out.below HA.out.sty.below)).mono ?_
    rintro e w30 ⟨u1, rfl, hq, hbw⟩
    have hu1 : u1.size ≤ 602 := by rw [hq.size]; rw [List.length_append, List.length_cons, hexL_length]; simp; omega
    clear hq
    have HA2 := Lib.hid (HA.out.trans (HA.out.sty.with hbw))
    clear HA hbw
    have HA := HA2
    clear HA2
    go_wp2_with fail
    refine (obj1 ⟨#[36, 111, 105, 100]⟩ u1 (700 + 4) (by omega) (by show 4 + u1.size ≤ _; omega) HA.out.sty).mono ?_
    rintro e w31 ⟨⟨u2, rfl, hu2⟩, haw⟩
    have HA2 := Lib.hid (HA.out.trans haw)
    clear HA haw
    have HA := HA2
    clear HA2
    go_wp2
    go_ret2
    exact ValAns.small rfl (by omega) HA.out
  · go_wp2_with fail
    refine (extID_calls bA bc bs HBR.out (by omega) _ (HR.out.below HA.out.sty.below)).mono ?_
    rintro e w30 ⟨u1, rfl, hq, hbw⟩
    have hu1 : u1.size ≤ 602 := by rw [hq.size]; rw [List.length_append, List.length_cons, hexL_length]; simp; omega
    clear hq
    have HA2 := Lib.hid (HA.out.trans (HA.out.sty.with hbw))
    clear HA hbw
    have HA := HA2
    clear HA2
    go_wp2_with fail
    refine (obj1 ⟨#[36, 111, 105, 100]⟩ u1 (700 + 4) (by omega) (by show 4 + u1.size ≤ _; omega) HA.out.sty).mono ?_
    rintro e w31 ⟨⟨u2, rfl, hu2⟩, haw⟩
    have HA2 := Lib.hid (HA.out.trans haw)
    clear HA haw
    have HA := HA2
    clear HA2
    go_wp2
    go_ret2
    exact ValAns.small rfl (by omega) HA.out
set_option maxRecDepth 100000 in
set_option maxHeartbeats 4000000 in
theorem val2_calls {w0 : World} {S : Nat} {cA : Option Addr} {cs : List Int} {cc : Nat} {w : World} (hs : Sty w0 S cA cs cc w) (E : Env w0) (text more : ByteArray) (n bits high : Int) (bA kA : Option Addr) (bs : List Int) (bc kl kc : Nat) (ht : text.size ≤ 300) (hm : more.size ≤ 300) (n0 : -9223372036854775808 ≤ n) (n1 : n ≤ 9223372036854775807) (b0 : 0 ≤ bits) (b1 : bits < 18446744073709551616) (g0 : 0 ≤ high) (g1 : high < 18446744073709551616) (hbs : bs.length ≤ 300) (hbr : ∀ x ∈ bs, 0 ≤ x ∧ x ≤ 255) (hbR : ReadsInt w0 .u8 bA bs.length bs) :
    Calls Tryz.prog 10 #[.pointer (some ⟨S, 0, none⟩), .agg #[.int .i64 2, .string text, .string more, .int .i64 n, .int .u64 bits, .int .u64 high, .slice bA bs.length bc, .slice kA kl kc]] w (ValAns (fun l => l.length ≤ 60000) w0 S cA cs cc w) := by
  have HS := Lib.hid hs
  have c3 := (hs.alloc (.cells #[.int .i64 2, .string text, .string more, .int .i64 n, .int .u64 bits, .int .u64 high, .slice bA bs.length bc, .slice kA kl kc] 26)).sty.c3
  have hlt := hs.size
  clear hs
  have HE := Lib.hid E
  clear E
  have HR := Lib.hid hbR
  clear hbR
  have HBR := Lib.hid hbr
  clear hbr
  go_enter Tryz.func10, Tryz.ntmps10
  go_wp2_with fail
  refine (next_calls 2 (by omega) (by omega) (HS.out.alloc _).sty).mono ?_
  rintro e w1 ⟨r, rfl, hr, ha⟩
  have q0 : w1.cell? ⟨w.heap.size, 0, none⟩ = some (Value.int .i64 2) := (ha.keeps.cell (p := ⟨w.heap.size, 0, none⟩) (by simp) (by simp; omega)).trans (by simp [go_sem])
  have q1 : w1.cell? ⟨w.heap.size, 1, none⟩ = some (Value.string text) := (ha.keeps.cell (p := ⟨w.heap.size, 1, none⟩) (by simp) (by simp; omega)).trans (by simp [go_sem])
  have q2 : w1.cell? ⟨w.heap.size, 2, none⟩ = some (Value.string more) := (ha.keeps.cell (p := ⟨w.heap.size, 2, none⟩) (by simp) (by simp; omega)).trans (by simp [go_sem])
  have q3 : w1.cell? ⟨w.heap.size, 3, none⟩ = some (Value.int .i64 n) := (ha.keeps.cell (p := ⟨w.heap.size, 3, none⟩) (by simp) (by simp; omega)).trans (by simp [go_sem])
  have q4 : w1.cell? ⟨w.heap.size, 4, none⟩ = some (Value.int .u64 bits) := (ha.keeps.cell (p := ⟨w.heap.size, 4, none⟩) (by simp) (by simp; omega)).trans (by simp [go_sem])
  have q5 : w1.cell? ⟨w.heap.size, 5, none⟩ = some (Value.int .u64 high) := (ha.keeps.cell (p := ⟨w.heap.size, 5, none⟩) (by simp) (by simp; omega)).trans (by simp [go_sem])
  have q6 : w1.cell? ⟨w.heap.size, 6, none⟩ = some (Value.slice bA bs.length bc) := (ha.keeps.cell (p := ⟨w.heap.size, 6, none⟩) (by simp) (by simp; omega)).trans (by simp [go_sem])
  have q7 : w1.cell? ⟨w.heap.size, 7, none⟩ = some (Value.slice kA kl kc) := (ha.keeps.cell (p := ⟨w.heap.size, 7, none⟩) (by simp) (by simp; omega)).trans (by simp [go_sem])
  have hbx : w.heap.size < w1.heap.size := by have := ha.keeps.size; simp at this; omega
  have HA := Lib.hid ((HS.out.alloc _).trans ha)
  clear ha c3
  have hr8 : r = 0 ∨ r = 1 := by omega
  clear hr
  rcases hr8 with rfl | rfl
  · go_wp2_with fail
    refine (text_n text ht HA.out.sty).mono ?_
    rintro e w32 ⟨⟨u1, rfl, hu1⟩, haw⟩
    have HA2 := Lib.hid (HA.out.trans haw)
    clear HA haw
    have HA := HA2
    clear HA2
    go_wp2
    go_ret2
    exact ValAns.small rfl (by omega) HA.out
  · go_wp2_with fail
    refine (text_n text ht HA.out.sty).mono ?_
    rintro e w32 ⟨⟨u1, rfl, hu1⟩, haw⟩
    have HA2 := Lib.hid (HA.out.trans haw)
    clear HA haw
    have HA := HA2
    clear HA2
    go_wp2
    go_ret2
    exact ValAns.small rfl (by omega) HA.out
theorem decFixed_len (ds : List Int) (e : Int) (h : ds.length ≤ 40) (he : -60 ≤ e) : (decFixed ds e).length ≤ 110 := by
  unfold decFixed
  simp only [List.length_append, List.length_cons, List.length_take, List.length_drop, List.length_replicate]
  omega
theorem decTextF_len (k : Int) (neg : Bool) (ds : List Int) (e : Int) (h : ds.length ≤ 40) (h1 : k = 0 → 1 ≤ ds.length) (h3 : -6176 ≤ e) (h4 : e ≤ 10207) : (decTextF k neg ds e).length ≤ 400 := by
  have hs : (decSign neg).length ≤ 1 := by cases neg <;> simp [decSign]
  unfold decTextF
  split
  · simp
  · split
    · simp only [List.length_append, List.length_cons, List.length_nil]; omega
    · have : (decBody ds e).length ≤ 200 := by
        unfold decBody
        split
        · have := numF_length (n := e + ds.length - 1) (by omega) (by omega)
          simp only [List.length_append, List.length_take]
          have h5 : (if 1 < ds.length then 46 :: ds.drop 1 else ([] : List Int)).length ≤ 41 := by
            split
            · simp only [List.length_cons, List.length_drop]; omega
            · simp
          have h6 : (if 0 ≤ e + ds.length - 1 then [69, 43] else ([69] : List Int)).length ≤ 2 := by split <;> simp
          omega
        · split
          · omega
          · have := decFixed_len ds e h (by omega)
            omega
      simp only [List.length_append]
      omega
set_option maxRecDepth 100000 in
set_option maxHeartbeats 4000000 in
theorem val19_calls {w0 : World} {S : Nat} {cA : Option Addr} {cs : List Int} {cc : Nat} {w : World} (hs : Sty w0 S cA cs cc w) (E : Env w0) (text more : ByteArray) (n bits high : Int) (bA kA : Option Addr) (bs : List Int) (bc kl kc : Nat) (ht : text.size ≤ 300) (hm : more.size ≤ 300) (n0 : -9223372036854775808 ≤ n) (n1 : n ≤ 9223372036854775807) (b0 : 0 ≤ bits) (b1 : bits < 18446744073709551616) (g0 : 0 ≤ high) (g1 : high < 18446744073709551616) (hbs : bs.length ≤ 300) (hbr : ∀ x ∈ bs, 0 ≤ x ∧ x ≤ 255) (hbR : ReadsInt w0 .u8 bA bs.length bs) :
    Calls Tryz.prog 10 #[.pointer (some ⟨S, 0, none⟩), .agg #[.int .i64 19, .string text, .string more, .int .i64 n, .int .u64 bits, .int .u64 high, .slice bA bs.length bc, .slice kA kl kc]] w (ValAns (fun l => l.length ≤ 60000) w0 S cA cs cc w) := by
  have HS := Lib.hid hs
  have c3 := (hs.alloc (.cells #[.int .i64 19, .string text, .string more, .int .i64 n, .int .u64 bits, .int .u64 high, .slice bA bs.length bc, .slice kA kl kc] 26)).sty.c3
  have hlt := hs.size
  clear hs
  have HE := Lib.hid E
  clear E
  have HR := Lib.hid hbR
  clear hbR
  have HBR := Lib.hid hbr
  clear hbr
  go_enter Tryz.func10, Tryz.ntmps10
  go_wp2_with fail
  refine (next_calls 2 (by omega) (by omega) (HS.out.alloc _).sty).mono ?_
  rintro e w1 ⟨r, rfl, hr, ha⟩
  have q0 : w1.cell? ⟨w.heap.size, 0, none⟩ = some (Value.int .i64 19) := (ha.keeps.cell (p := ⟨w.heap.size, 0, none⟩) (by simp) (by simp; omega)).trans (by simp [go_sem])
  have q1 : w1.cell? ⟨w.heap.size, 1, none⟩ = some (Value.string text) := (ha.keeps.cell (p := ⟨w.heap.size, 1, none⟩) (by simp) (by simp; omega)).trans (by simp [go_sem])
  have q2 : w1.cell? ⟨w.heap.size, 2, none⟩ = some (Value.string more) := (ha.keeps.cell (p := ⟨w.heap.size, 2, none⟩) (by simp) (by simp; omega)).trans (by simp [go_sem])
  have q3 : w1.cell? ⟨w.heap.size, 3, none⟩ = some (Value.int .i64 n) := (ha.keeps.cell (p := ⟨w.heap.size, 3, none⟩) (by simp) (by simp; omega)).trans (by simp [go_sem])
  have q4 : w1.cell? ⟨w.heap.size, 4, none⟩ = some (Value.int .u64 bits) := (ha.keeps.cell (p := ⟨w.heap.size, 4, none⟩) (by simp) (by simp; omega)).trans (by simp [go_sem])
  have q5 : w1.cell? ⟨w.heap.size, 5, none⟩ = some (Value.int .u64 high) := (ha.keeps.cell (p := ⟨w.heap.size, 5, none⟩) (by simp) (by simp; omega)).trans (by simp [go_sem])
  have q6 : w1.cell? ⟨w.heap.size, 6, none⟩ = some (Value.slice bA bs.length bc) := (ha.keeps.cell (p := ⟨w.heap.size, 6, none⟩) (by simp) (by simp; omega)).trans (by simp [go_sem])
  have q7 : w1.cell? ⟨w.heap.size, 7, none⟩ = some (Value.slice kA kl kc) := (ha.keeps.cell (p := ⟨w.heap.size, 7, none⟩) (by simp) (by simp; omega)).trans (by simp [go_sem])
  have hbx : w.heap.size < w1.heap.size := by have := ha.keeps.size; simp at this; omega
  have HA := Lib.hid ((HS.out.alloc _).trans ha)
  clear ha c3
  have hr8 : r = 0 ∨ r = 1 := by omega
  clear hr
  rcases hr8 with rfl | rfl
  · go_wp2_with fail
    refine (DecOf_calls high bits g0 g1 b0 b1 _).mono ?_
    rintro e w33 ⟨u0, rfl, hq0, hbw⟩
    have HA2 := Lib.hid (HA.out.trans (HA.out.sty.with hbw))
    clear HA hbw
    have HA := HA2
    clear HA2
    have hdl := decDig_length high bits g0 g1 b0 b1
    have hde := decExp_range high g0
    have hdk := decKind_range high
    go_wp2_with fail
    refine (DecText_calls (decKind high) (decNeg high) u0 (decDig high bits) (decExp high) hdk (fun _ => hq0) (fun h => hdl.2 h) (fun _ => by omega) (by omega) (by omega) _).mono ?_
    rintro e w34 ⟨u1, rfl, hq, hbw⟩
    have hu1 : u1.size ≤ 400 := by rw [hq.size]; exact decTextF_len _ _ _ _ (by omega) (fun h => hdl.2 h) hde.1 hde.2
    clear hq
    have HA2 := Lib.hid (HA.out.trans (HA.out.sty.with hbw))
    clear HA hbw
    have HA := HA2
    clear HA2
    go_wp2_with fail
    refine (quoted_calls u1 (by omega) _).mono ?_
    rintro e w35 ⟨⟨u2, rfl, hu2⟩, rfl⟩
    have hu22 : u2.size ≤ 402 := by omega
    go_wp2_with fail
    refine (obj1 ⟨#[36, 110, 117, 109, 98, 101, 114, 68, 101, 99, 105, 109, 97, 108]⟩ u2 (500 + 14) (by omega) (by show 14 + u2.size ≤ _; omega) HA.out.sty).mono ?_
    rintro e w36 ⟨⟨u3, rfl, hu3⟩, haw⟩
    have HA2 := Lib.hid (HA.out.trans haw)
    clear HA haw
    have HA := HA2
    clear HA2
    go_wp2
    go_ret2
    exact ValAns.small rfl (by omega) HA.out
  · go_wp2_with fail
    refine (DecOf_calls high bits g0 g1 b0 b1 _).mono ?_
    rintro e w33 ⟨u0, rfl, hq0, hbw⟩
    have HA2 := Lib.hid (HA.out.trans (HA.out.sty.with hbw))
    clear HA hbw
    have HA := HA2
    clear HA2
    have hdl := decDig_length high bits g0 g1 b0 b1
    have hde := decExp_range high g0
    have hdk := decKind_range high
    go_wp2_with fail
    refine (DecText_calls (decKind high) (decNeg high) u0 (decDig high bits) (decExp high) hdk (fun _ => hq0) (fun h => hdl.2 h) (fun _ => by omega) (by omega) (by omega) _).mono ?_
    rintro e w34 ⟨u1, rfl, hq, hbw⟩
    have hu1 : u1.size ≤ 400 := by rw [hq.size]; exact decTextF_len _ _ _ _ (by omega) (fun h => hdl.2 h) hde.1 hde.2
    clear hq
    have HA2 := Lib.hid (HA.out.trans (HA.out.sty.with hbw))
    clear HA hbw
    have HA := HA2
    clear HA2
    go_wp2_with fail
    refine (quoted_calls u1 (by omega) _).mono ?_
    rintro e w35 ⟨⟨u2, rfl, hu2⟩, rfl⟩
    have hu22 : u2.size ≤ 402 := by omega
    go_wp2_with fail
    refine (obj1 ⟨#[36, 110, 117, 109, 98, 101, 114, 68, 101, 99, 105, 109, 97, 108]⟩ u2 (500 + 14) (by omega) (by show 14 + u2.size ≤ _; omega) HA.out.sty).mono ?_
    rintro e w36 ⟨⟨u3, rfl, hu3⟩, haw⟩
    have HA2 := Lib.hid (HA.out.trans haw)
    clear HA haw
    have HA := HA2
    clear HA2
    go_wp2
    go_ret2
    exact ValAns.small rfl (by omega) HA.out
end Go.Proofs.YtlgmlfhalgnppaaGreatDoor
