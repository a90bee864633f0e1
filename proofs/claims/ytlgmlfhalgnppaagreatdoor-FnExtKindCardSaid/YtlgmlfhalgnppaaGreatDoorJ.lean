/- A part of the proof that laws.FnExtKind returns true at every input: Val2. -/
import Derived.Test.YtlgmlfhalgnppaaGreatDoorI
import Derived.Test.YtlgmlfhalgnppaaGreatDoorC
/-! spec.extStyle.value of the kinds 1, 5, 8, 10, 11, 12, 17. -/
set_option linter.unusedSimpArgs false
set_option linter.unusedVariables false
namespace Go.Proofs.YtlgmlfhalgnppaaGreatDoor
open Go.RowKit
open Go.Proofs.YtlgmlfhalgnppaaGreatDoorW.PrintWords hiding bt bt_at bt_range
/-- A text of at most n bytes and true, and new blocks. -/
structure TextT (n : Nat) (w : World) (e : Ending) (w' : World) : Prop where
  out : ∃ u, e = .returned (.tuple #[.string u, .bool true]) ∧ u.size ≤ n
  below : Below w.heap.size w w'
set_option maxRecDepth 100000 in
theorem ExtText8_calls (text more : ByteArray) (n bits high : Int) (bA kA : Option Addr) (bl bc kl kc : Nat) (w : World) :
    Calls Tryz.prog 34 #[.agg #[.int .i64 8, .string text, .string more, .int .i64 n, .int .u64 bits, .int .u64 high, .slice bA bl bc, .slice kA kl kc], .bool true, .bool false] w (TextT 5 w) := by
  by_cases hn : n = 1
  · subst hn
    go_enter Tryz.func34, Tryz.ntmps34
    go_wp2
    go_ret2
    exact ⟨⟨_, rfl, by first | decide | (show 4 ≤ 5; omega) | (show 5 ≤ 5; omega)⟩, by first | exact ((Below.refl _ _).alloc (Nat.le_refl _) _).alloc (by simp) _ | exact (((Below.refl _ _).alloc (Nat.le_refl _) _).alloc (by simp) _).alloc (by simp) _⟩
  · have h2 : (n == 1) = false := by rw [beq_eq_false_iff_ne]; exact hn
    go_enter Tryz.func34, Tryz.ntmps34
    go_wp2
    go_ret2
    exact ⟨⟨_, rfl, by first | decide | (show 4 ≤ 5; omega) | (show 5 ≤ 5; omega)⟩, by first | exact ((Below.refl _ _).alloc (Nat.le_refl _) _).alloc (by simp) _ | exact (((Below.refl _ _).alloc (Nat.le_refl _) _).alloc (by simp) _).alloc (by simp) _⟩
set_option maxRecDepth 100000 in
theorem ExtText10_calls (text more : ByteArray) (n bits high : Int) (bA kA : Option Addr) (bl bc kl kc : Nat) (w : World) :
    Calls Tryz.prog 34 #[.agg #[.int .i64 10, .string text, .string more, .int .i64 n, .int .u64 bits, .int .u64 high, .slice bA bl bc, .slice kA kl kc], .bool true, .bool false] w (TextT 5 w) := by
  go_enter Tryz.func34, Tryz.ntmps34
  go_wp2
  go_ret2
  exact ⟨⟨_, rfl, by first | decide | (show 4 ≤ 5; omega) | (show 5 ≤ 5; omega)⟩, by first | exact ((Below.refl _ _).alloc (Nat.le_refl _) _).alloc (by simp) _ | exact (((Below.refl _ _).alloc (Nat.le_refl _) _).alloc (by simp) _).alloc (by simp) _⟩
set_option maxRecDepth 100000 in
set_option maxHeartbeats 4000000 in
theorem val8_calls {w0 : World} {S : Nat} {cA : Option Addr} {cs : List Int} {cc : Nat} {w : World} (hs : Sty w0 S cA cs cc w) (E : Env w0) (text more : ByteArray) (n bits high : Int) (bA kA : Option Addr) (bs : List Int) (bc kl kc : Nat) (ht : text.size ≤ 300) (hm : more.size ≤ 300) (n0 : -9223372036854775808 ≤ n) (n1 : n ≤ 9223372036854775807) (b0 : 0 ≤ bits) (b1 : bits < 18446744073709551616) (g0 : 0 ≤ high) (g1 : high < 18446744073709551616) (hbs : bs.length ≤ 300) (hbr : ∀ x ∈ bs, 0 ≤ x ∧ x ≤ 255) (hbR : ReadsInt w0 .u8 bA bs.length bs) :
    Calls Tryz.prog 10 #[.pointer (some ⟨S, 0, none⟩), .agg #[.int .i64 8, .string text, .string more, .int .i64 n, .int .u64 bits, .int .u64 high, .slice bA bs.length bc, .slice kA kl kc]] w (ValAns (fun l => l.length ≤ 60000) w0 S cA cs cc w) := by
  have HS := Lib.hid hs
  have c3 := (hs.alloc (.cells #[.int .i64 8, .string text, .string more, .int .i64 n, .int .u64 bits, .int .u64 high, .slice bA bs.length bc, .slice kA kl kc] 26)).sty.c3
  have hlt := hs.size
  clear hs
  have HE := Lib.hid E
  clear E
  have HR := Lib.hid hbR
  clear hbR
  have HBR := Lib.hid hbr
  clear hbr
  go_enter Tryz.func10, Tryz.ntmps10
  go_wp2_with fail
  refine (next_calls 2 (by omega) (by omega) (HS.out.alloc _).sty).mono ?_
  rintro e w1 ⟨r, rfl, hr, ha⟩
  have q0 : w1.cell? ⟨w.heap.size, 0, none⟩ = some (Value.int .i64 8) := (ha.keeps.cell (p := ⟨w.heap.size, 0, none⟩) (by simp) (by simp; omega)).trans (by simp [go_sem])
  have q1 : w1.cell? ⟨w.heap.size, 1, none⟩ = some (Value.string text) := (ha.keeps.cell (p := ⟨w.heap.size, 1, none⟩) (by simp) (by simp; omega)).trans (by simp [go_sem])
  have q2 : w1.cell? ⟨w.heap.size, 2, none⟩ = some (Value.string more) := (ha.keeps.cell (p := ⟨w.heap.size, 2, none⟩) (by simp) (by simp; omega)).trans (by simp [go_sem])
  have q3 : w1.cell? ⟨w.heap.size, 3, none⟩ = some (Value.int .i64 n) := (ha.keeps.cell (p := ⟨w.heap.size, 3, none⟩) (by simp) (by simp; omega)).trans (by simp [go_sem])
  have q4 : w1.cell? ⟨w.heap.size, 4, none⟩ = some (Value.int .u64 bits) := (ha.keeps.cell (p := ⟨w.heap.size, 4, none⟩) (by simp) (by simp; omega)).trans (by simp [go_sem])
  have q5 : w1.cell? ⟨w.heap.size, 5, none⟩ = some (Value.int .u64 high) := (ha.keeps.cell (p := ⟨w.heap.size, 5, none⟩) (by simp) (by simp; omega)).trans (by simp [go_sem])
  have q6 : w1.cell? ⟨w.heap.size, 6, none⟩ = some (Value.slice bA bs.length bc) := (ha.keeps.cell (p := ⟨w.heap.size, 6, none⟩) (by simp) (by simp; omega)).trans (by simp [go_sem])
  have q7 : w1.cell? ⟨w.heap.size, 7, none⟩ = some (Value.slice kA kl kc) := (ha.keeps.cell (p := ⟨w.heap.size, 7, none⟩) (by simp) (by simp; omega)).trans (by simp [go_sem])
  have hbx : w.heap.size < w1.heap.size := by have := ha.keeps.size; simp at this; omega
  have HA := Lib.hid ((HS.out.alloc _).trans ha)
  clear ha c3
  have hr8 : r = 0 ∨ r = 1 := by omega
  clear hr
  rcases hr8 with rfl | rfl
  all_goals
    go_wp2_with fail
    refine (ExtText8_calls text more n bits high bA kA bs.length bc kl kc _).mono ?_
    rintro e w11 ⟨⟨u1, rfl, hu1⟩, hbw⟩
    have HA2 := Lib.hid (HA.out.trans (HA.out.sty.with hbw))
    clear HA hbw
    have HA := HA2
    clear HA2
    go_wp2
    go_ret2
    exact ValAns.small rfl (by omega) HA.out
set_option maxRecDepth 100000 in
set_option maxHeartbeats 4000000 in
theorem val10_calls {w0 : World} {S : Nat} {cA : Option Addr} {cs : List Int} {cc : Nat} {w : World} (hs : Sty w0 S cA cs cc w) (E : Env w0) (text more : ByteArray) (n bits high : Int) (bA kA : Option Addr) (bs : List Int) (bc kl kc : Nat) (ht : text.size ≤ 300) (hm : more.size ≤ 300) (n0 : -9223372036854775808 ≤ n) (n1 : n ≤ 9223372036854775807) (b0 : 0 ≤ bits) (b1 : bits < 18446744073709551616) (g0 : 0 ≤ high) (g1 : high < 18446744073709551616) (hbs : bs.length ≤ 300) (hbr : ∀ x ∈ bs, 0 ≤ x ∧ x ≤ 255) (hbR : ReadsInt w0 .u8 bA bs.length bs) :
    Calls Tryz.prog 10 #[.pointer (some ⟨S, 0, none⟩), .agg #[.int .i64 10, .string text, .string more, .int .i64 n, .int .u64 bits, .int .u64 high, .slice bA bs.length bc, .slice kA kl kc]] w (ValAns (fun l => l.length ≤ 60000) w0 S cA cs cc w) := by
  have HS := Lib.hid hs
  have c3 := (hs.alloc (.cells #[.int .i64 10, .string text, .string more, .int .i64 n, .int .u64 bits, .int .u64 high, .slice bA bs.length bc, .slice kA kl kc] 26)).sty.c3
  have hlt := hs.size
  clear hs
  have HE := Lib.hid E
  clear E
  have HR := Lib.hid hbR
  clear hbR
  have HBR := Lib.hid hbr
  clear hbr
  go_enter Tryz.func10, Tryz.ntmps10
  go_wp2_with fail
  refine (next_calls 2 (by omega) (by omega) (HS.out.alloc _).sty).mono ?_
  rintro e w1 ⟨r, rfl, hr, ha⟩
  have q0 : w1.cell? ⟨w.heap.size, 0, none⟩ = some (Value.int .i64 10) := (ha.keeps.cell (p := ⟨w.heap.size, 0, none⟩) (by simp) (by simp; omega)).trans (by simp [go_sem])
  have q1 : w1.cell? ⟨w.heap.size, 1, none⟩ = some (Value.string text) := (ha.keeps.cell (p := ⟨w.heap.size, 1, none⟩) (by simp) (by simp; omega)).trans (by simp [go_sem])
  have q2 : w1.cell? ⟨w.heap.size, 2, none⟩ = some (Value.string more) := (ha.keeps.cell (p := ⟨w.heap.size, 2, none⟩) (by simp) (by simp; omega)).trans (by simp [go_sem])
  have q3 : w1.cell? ⟨w.heap.size, 3, none⟩ = some (Value.int .i64 n) := (ha.keeps.cell (p := ⟨w.heap.size, 3, none⟩) (by simp) (by simp; omega)).trans (by simp [go_sem])
  have q4 : w1.cell? ⟨w.heap.size, 4, none⟩ = some (Value.int .u64 bits) := (ha.keeps.cell (p := ⟨w.heap.size, 4, none⟩) (by simp) (by simp; omega)).trans (by simp [go_sem])
  have q5 : w1.cell? ⟨w.heap.size, 5, none⟩ = some (Value.int .u64 high) := (ha.keeps.cell (p := ⟨w.heap.size, 5, none⟩) (by simp) (by simp; omega)).trans (by simp [go_sem])
  have q6 : w1.cell? ⟨w.heap.size, 6, none⟩ = some (Value.slice bA bs.length bc) := (ha.keeps.cell (p := ⟨w.heap.size, 6, none⟩) (by simp) (by simp; omega)).trans (by simp [go_sem])
  have q7 : w1.cell? ⟨w.heap.size, 7, none⟩ = some (Value.slice kA kl kc) := (ha.keeps.cell (p := ⟨w.heap.size, 7, none⟩) (by simp) (by simp; omega)).trans (by simp [go_sem])
  have hbx : w.heap.size < w1.heap.size := by have := ha.keeps.size; simp at this; omega
  have HA := Lib.hid ((HS.out.alloc _).trans ha)
  clear ha c3
  have hr8 : r = 0 ∨ r = 1 := by omega
  clear hr
  rcases hr8 with rfl | rfl
  all_goals
    go_wp2_with fail
    refine (ExtText10_calls text more n bits high bA kA bs.length bc kl kc _).mono ?_
    rintro e w12 ⟨⟨u1, rfl, hu1⟩, hbw⟩
    have HA2 := Lib.hid (HA.out.trans (HA.out.sty.with hbw))
    clear HA hbw
    have HA := HA2
    clear HA2
    go_wp2
    go_ret2
    exact ValAns.small rfl (by omega) HA.out
theorem StyAfter.alloc' {w0 : World} {S : Nat} {cA : Option Addr} {cs : List Int} {cc : Nat} {a b : World} (h : StyAfter w0 S cA cs cc a b) (o : Obj) : StyAfter w0 S cA cs cc a (b.alloc o) := h.trans (h.sty.alloc o)
theorem StyAfter.self {w0 : World} {S : Nat} {cA : Option Addr} {cs : List Int} {cc : Nat} {a b : World} (h : StyAfter w0 S cA cs cc a b) : StyAfter w0 S cA cs cc a b := h
theorem StyAfter.with {w0 : World} {S : Nat} {cA : Option Addr} {cs : List Int} {cc : Nat} {a b c : World} (h : StyAfter w0 S cA cs cc a b) (k : Below b.heap.size b c) : StyAfter w0 S cA cs cc a c := h.trans (h.sty.with k)
theorem FormatUintI_calls (x : Int) (h0 : 0 ≤ x) (h1 : x < 18446744073709551616) (w : World) (ht : Pow10W w) :
    Calls Tryz.prog 31 #[.int .u64 x, .int .i64 10] w (TextN 21 w) := by
  obtain ⟨u, rfl⟩ : ∃ u : Nat, x = u := ⟨x.toNat, by omega⟩
  exact FormatUint_calls u (by omega) w ht
theorem u8_range (n : Int) : 0 ≤ IntKind.u8.wrap n ∧ IntKind.u8.wrap n ≤ 255 := by rw [IntKind.wrap_u8]; omega
set_option maxRecDepth 100000 in
set_option maxHeartbeats 4000000 in
theorem val1_calls {w0 : World} {S : Nat} {cA : Option Addr} {cs : List Int} {cc : Nat} {w : World} (hs : Sty w0 S cA cs cc w) (E : Env w0) (text more : ByteArray) (n bits high : Int) (bA kA : Option Addr) (bs : List Int) (bc kl kc : Nat) (ht : text.size ≤ 300) (hm : more.size ≤ 300) (n0 : -9223372036854775808 ≤ n) (n1 : n ≤ 9223372036854775807) (b0 : 0 ≤ bits) (b1 : bits < 18446744073709551616) (g0 : 0 ≤ high) (g1 : high < 18446744073709551616) (hbs : bs.length ≤ 300) (hbr : ∀ x ∈ bs, 0 ≤ x ∧ x ≤ 255) (hbR : ReadsInt w0 .u8 bA bs.length bs) :
    Calls Tryz.prog 10 #[.pointer (some ⟨S, 0, none⟩), .agg #[.int .i64 1, .string text, .string more, .int .i64 n, .int .u64 bits, .int .u64 high, .slice bA bs.length bc, .slice kA kl kc]] w (ValAns (fun l => l.length ≤ 60000) w0 S cA cs cc w) := by
  have HS := Lib.hid hs
  have c3 := (hs.alloc (.cells #[.int .i64 1, .string text, .string more, .int .i64 n, .int .u64 bits, .int .u64 high, .slice bA bs.length bc, .slice kA kl kc] 26)).sty.c3
  have hlt := hs.size
  clear hs
  have HE := Lib.hid E
  clear E
  have HR := Lib.hid hbR
  clear hbR
  have HBR := Lib.hid hbr
  clear hbr
  go_enter Tryz.func10, Tryz.ntmps10
  go_wp2_with fail
  refine (next_calls 2 (by omega) (by omega) (HS.out.alloc _).sty).mono ?_
  rintro e w1 ⟨r, rfl, hr, ha⟩
  have q0 : w1.cell? ⟨w.heap.size, 0, none⟩ = some (Value.int .i64 1) := (ha.keeps.cell (p := ⟨w.heap.size, 0, none⟩) (by simp) (by simp; omega)).trans (by simp [go_sem])
  have q1 : w1.cell? ⟨w.heap.size, 1, none⟩ = some (Value.string text) := (ha.keeps.cell (p := ⟨w.heap.size, 1, none⟩) (by simp) (by simp; omega)).trans (by simp [go_sem])
  have q2 : w1.cell? ⟨w.heap.size, 2, none⟩ = some (Value.string more) := (ha.keeps.cell (p := ⟨w.heap.size, 2, none⟩) (by simp) (by simp; omega)).trans (by simp [go_sem])
  have q3 : w1.cell? ⟨w.heap.size, 3, none⟩ = some (Value.int .i64 n) := (ha.keeps.cell (p := ⟨w.heap.size, 3, none⟩) (by simp) (by simp; omega)).trans (by simp [go_sem])
  have q4 : w1.cell? ⟨w.heap.size, 4, none⟩ = some (Value.int .u64 bits) := (ha.keeps.cell (p := ⟨w.heap.size, 4, none⟩) (by simp) (by simp; omega)).trans (by simp [go_sem])
  have q5 : w1.cell? ⟨w.heap.size, 5, none⟩ = some (Value.int .u64 high) := (ha.keeps.cell (p := ⟨w.heap.size, 5, none⟩) (by simp) (by simp; omega)).trans (by simp [go_sem])
  have q6 : w1.cell? ⟨w.heap.size, 6, none⟩ = some (Value.slice bA bs.length bc) := (ha.keeps.cell (p := ⟨w.heap.size, 6, none⟩) (by simp) (by simp; omega)).trans (by simp [go_sem])
  have q7 : w1.cell? ⟨w.heap.size, 7, none⟩ = some (Value.slice kA kl kc) := (ha.keeps.cell (p := ⟨w.heap.size, 7, none⟩) (by simp) (by simp; omega)).trans (by simp [go_sem])
  have hbx : w.heap.size < w1.heap.size := by have := ha.keeps.size; simp at this; omega
  have HA := Lib.hid ((HS.out.alloc _).trans ha)
  clear ha c3
  have hr8 : r = 0 ∨ r = 1 := by omega
  clear hr
  have kfb := fun W => frombits_run bits W
  rcases hr8 with rfl | rfl
  · go_wp2_with fail
    refine (HE.out.dbl bits.toNat _ (by omega) HA.out.sty.below).mono ?_
    rintro e w40 ⟨⟨u1, rfl, hu1⟩, hbw⟩
    have HA2 := Lib.hid (HA.out.trans (HA.out.sty.with hbw))
    clear HA hbw
    have HA := HA2
    clear HA2
    go_wp2_with fail
    refine (quoted_calls u1 (by omega) _).mono ?_
    rintro e w13 ⟨⟨u2, rfl, hu2⟩, rfl⟩
    have hu22 : u2.size ≤ 402 := by omega
    go_wp2_with fail
    refine (obj1 ⟨#[36, 110, 117, 109, 98, 101, 114, 68, 111, 117, 98, 108, 101]⟩ u2 (500 + 13) (by omega) (by show 13 + u2.size ≤ _; omega) HA.out.sty).mono ?_
    rintro e w14 ⟨⟨u3, rfl, hu3⟩, haw⟩
    have HA2 := Lib.hid (HA.out.trans haw)
    clear HA haw
    have HA := HA2
    clear HA2
    go_wp2
    go_ret2
    exact ValAns.small rfl (by omega) HA.out
  · go_wp2_with fail
    refine (HE.out.dbl bits.toNat _ (by omega) HA.out.sty.below).mono ?_
    rintro e w40 ⟨⟨u1, rfl, hu1⟩, hbw⟩
    have HA2 := Lib.hid (HA.out.trans (HA.out.sty.with hbw))
    clear HA hbw
    have HA := HA2
    clear HA2
    cases hnan : isNaNF bits.toNat with
    | true =>
      go_wp2_with fail
      refine (IsNaN_calls bits.toNat _).mono ?_
      rintro e w41 ⟨rfl, rfl⟩
      rw [hnan]
      go_wp2_with fail
      refine (quoted_calls u1 (by omega) _).mono ?_
      rintro e w15 ⟨⟨u2, rfl, hu2⟩, rfl⟩
      have hu22 : u2.size ≤ 402 := by omega
      go_wp2_with fail
      refine (obj1 ⟨#[36, 110, 117, 109, 98, 101, 114, 68, 111, 117, 98, 108, 101]⟩ u2 (500 + 13) (by omega) (by show 13 + u2.size ≤ _; omega) HA.out.sty).mono ?_
      rintro e w16 ⟨⟨u3, rfl, hu3⟩, haw⟩
      have HA2 := Lib.hid (HA.out.trans haw)
      clear HA haw
      have HA := HA2
      clear HA2
      go_wp2
      go_ret2
      exact ValAns.small rfl (by omega) HA.out
    | false =>
      obtain ⟨b, hb⟩ := IsInf_any bits.toNat
      go_wp2_with fail
      refine (IsNaN_calls bits.toNat _).mono ?_
      rintro e w41 ⟨rfl, rfl⟩
      rw [hnan]
      cases b
      · go_wp2_with fail
        refine (hb _).mono ?_
        rintro e w42 ⟨rfl, rfl⟩
        go_wp2
        go_ret2
        exact ValAns.small rfl (by omega) HA.out
      · go_wp2_with fail
        refine (hb _).mono ?_
        rintro e w42 ⟨rfl, rfl⟩
        go_wp2_with fail
        refine (quoted_calls u1 (by omega) _).mono ?_
        rintro e w17 ⟨⟨u2, rfl, hu2⟩, rfl⟩
        have hu22 : u2.size ≤ 402 := by omega
        go_wp2_with fail
        refine (obj1 ⟨#[36, 110, 117, 109, 98, 101, 114, 68, 111, 117, 98, 108, 101]⟩ u2 (500 + 13) (by omega) (by show 13 + u2.size ≤ _; omega) HA.out.sty).mono ?_
        rintro e w18 ⟨⟨u3, rfl, hu3⟩, haw⟩
        have HA2 := Lib.hid (HA.out.trans haw)
        clear HA haw
        have HA := HA2
        clear HA2
        go_wp2
        go_ret2
        exact ValAns.small rfl (by omega) HA.out
set_option maxRecDepth 100000 in
set_option maxHeartbeats 4000000 in
theorem val5_calls {w0 : World} {S : Nat} {cA : Option Addr} {cs : List Int} {cc : Nat} {w : World} (hs : Sty w0 S cA cs cc w) (E : Env w0) (text more : ByteArray) (n bits high : Int) (bA kA : Option Addr) (bs : List Int) (bc kl kc : Nat) (ht : text.size ≤ 300) (hm : more.size ≤ 300) (n0 : -9223372036854775808 ≤ n) (n1 : n ≤ 9223372036854775807) (b0 : 0 ≤ bits) (b1 : bits < 18446744073709551616) (g0 : 0 ≤ high) (g1 : high < 18446744073709551616) (hbs : bs.length ≤ 300) (hbr : ∀ x ∈ bs, 0 ≤ x ∧ x ≤ 255) (hbR : ReadsInt w0 .u8 bA bs.length bs) :
    Calls Tryz.prog 10 #[.pointer (some ⟨S, 0, none⟩), .agg #[.int .i64 5, .string text, .string more, .int .i64 n, .int .u64 bits, .int .u64 high, .slice bA bs.length bc, .slice kA kl kc]] w (ValAns (fun l => l.length ≤ 60000) w0 S cA cs cc w) := by
  have HS := Lib.hid hs
  have c3 := (hs.alloc (.cells #[.int .i64 5, .string text, .string more, .int .i64 n, .int .u64 bits, .int .u64 high, .slice bA bs.length bc, .slice kA kl kc] 26)).sty.c3
  have hlt := hs.size
  clear hs
  have HE := Lib.hid E
  clear E
  have HR := Lib.hid hbR
  clear hbR
  have HBR := Lib.hid hbr
  clear hbr
  go_enter Tryz.func10, Tryz.ntmps10
  go_wp2_with fail
  refine (next_calls 2 (by omega) (by omega) (HS.out.alloc _).sty).mono ?_
  rintro e w1 ⟨r, rfl, hr, ha⟩
  have q0 : w1.cell? ⟨w.heap.size, 0, none⟩ = some (Value.int .i64 5) := (ha.keeps.cell (p := ⟨w.heap.size, 0, none⟩) (by simp) (by simp; omega)).trans (by simp [go_sem])
  have q1 : w1.cell? ⟨w.heap.size, 1, none⟩ = some (Value.string text) := (ha.keeps.cell (p := ⟨w.heap.size, 1, none⟩) (by simp) (by simp; omega)).trans (by simp [go_sem])
  have q2 : w1.cell? ⟨w.heap.size, 2, none⟩ = some (Value.string more) := (ha.keeps.cell (p := ⟨w.heap.size, 2, none⟩) (by simp) (by simp; omega)).trans (by simp [go_sem])
  have q3 : w1.cell? ⟨w.heap.size, 3, none⟩ = some (Value.int .i64 n) := (ha.keeps.cell (p := ⟨w.heap.size, 3, none⟩) (by simp) (by simp; omega)).trans (by simp [go_sem])
  have q4 : w1.cell? ⟨w.heap.size, 4, none⟩ = some (Value.int .u64 bits) := (ha.keeps.cell (p := ⟨w.heap.size, 4, none⟩) (by simp) (by simp; omega)).trans (by simp [go_sem])
  have q5 : w1.cell? ⟨w.heap.size, 5, none⟩ = some (Value.int .u64 high) := (ha.keeps.cell (p := ⟨w.heap.size, 5, none⟩) (by simp) (by simp; omega)).trans (by simp [go_sem])
  have q6 : w1.cell? ⟨w.heap.size, 6, none⟩ = some (Value.slice bA bs.length bc) := (ha.keeps.cell (p := ⟨w.heap.size, 6, none⟩) (by simp) (by simp; omega)).trans (by simp [go_sem])
  have q7 : w1.cell? ⟨w.heap.size, 7, none⟩ = some (Value.slice kA kl kc) := (ha.keeps.cell (p := ⟨w.heap.size, 7, none⟩) (by simp) (by simp; omega)).trans (by simp [go_sem])
  have hbx : w.heap.size < w1.heap.size := by have := ha.keeps.size; simp at this; omega
  have HA := Lib.hid ((HS.out.alloc _).trans ha)
  clear ha c3
  have hr8 : r = 0 ∨ r = 1 := by omega
  clear hr
  rcases hr8 with rfl | rfl
  · go_wp2_with fail
    have HC : Hid (∀ w', StyAfter w0 S cA cs cc w1 w' → StyAfter w0 S cA cs cc w1 w' ∧ w'.cell? ⟨w.heap.size, 1, none⟩ = some (Value.string text) ∧ w'.cell? ⟨w.heap.size, 3, none⟩ = some (Value.int .i64 n) ∧ w'.cell? ⟨w.heap.size, 6, none⟩ = some (Value.slice bA bs.length bc)) := fun w' h => ⟨h, (h.keeps.cell (p := ⟨w.heap.size, 1, none⟩) hbx (by simp; omega)).trans q1, (h.keeps.cell (p := ⟨w.heap.size, 3, none⟩) hbx (by simp; omega)).trans q3, (h.keeps.cell (p := ⟨w.heap.size, 6, none⟩) hbx (by simp; omega)).trans q6⟩
    first | (go_must (go_region_held3 (fun w' => StyAfter w0 S cA cs cc w1 w' ∧ w'.cell? ⟨w.heap.size, 1, none⟩ = some (Value.string text) ∧ w'.cell? ⟨w.heap.size, 3, none⟩ = some (Value.int .i64 n) ∧ w'.cell? ⟨w.heap.size, 6, none⟩ = some (Value.slice bA bs.length bc)) (first | assumption | exact HC.out _ (HA.out.sty.with (Below.refl _ _).drew) | exact HC.out _ (StyAfter.alloc' (And.left (by assumption)) _) | exact HC.out _ HP.out) (first | (go_at_call 27; go_must (refine Calls.mono (ExtBase64_calls bA bc bs HBR.out (by omega) _ (HR.out.below (Sty.below (StyAfter.sty (And.left (by assumption)))))) ?_; rintro e w6 ⟨v, rfl, hq, hbw⟩; have hv : v.size ≤ 604 := (by rw [hq.size]; have := b64L_length bs; omega); clear hq; (try clear HP); have HP := Lib.hid (StyAfter.with (And.left (by assumption)) hbw); clear hbw)) | (go_at_call 28; go_must (refine Calls.mono (extHex_calls _ (u8_range _).1 (u8_range _).2 _) ?_; rintro e w6 ⟨v, rfl, hq, hbw⟩; have hv : v.size ≤ 2 := (by rw [hq.size]; simp); clear hq; (try clear HP); have HP := Lib.hid (StyAfter.with (And.left (by assumption)) hbw); clear hbw)) | (go_at_call 25; go_must (refine Calls.mono (quoted_calls _ (by omega) _) ?_; rintro e w6 ⟨⟨v, rfl, hv⟩, hw6⟩; subst hw6; (try clear HP); have HP := Lib.hid (StyAfter.self (And.left (by assumption : StyAfter w0 S cA cs cc w1 _ ∧ _))))) | (go_at_call_of 24 (Value.bool true); go_must (refine Calls.mono (obj2T _ _ _ _ 1000 1000 (by omega) (by omega) (Nat.add_le_add (by decide : _ ≤ 20) (by omega : _ ≤ 1000 - 20)) (Nat.add_le_add (by decide : _ ≤ 20) (by omega : _ ≤ 1000 - 20)) HP.out.sty) ?_; rintro e w6 ⟨⟨v, rfl, hv⟩, haw⟩; have HP2 := Lib.hid (HP.out.trans haw); clear HP haw; have HP := HP2; clear HP2)) | (go_at_call 24; go_must ((first | refine Calls.mono (obj1 _ _ 1000 (by omega) (Nat.add_le_add (by decide : _ ≤ 20) (by omega : _ ≤ 980)) HP.out.sty) ?_ | refine Calls.mono (obj1 _ _ 16100 (by omega) (Nat.add_le_add (by decide : _ ≤ 20) (by omega : _ ≤ 16080)) HP.out.sty) ?_); rintro e w6 ⟨⟨v, rfl, hv⟩, haw⟩; have HP2 := Lib.hid (HP.out.trans haw); clear HP haw; have HP := HP2; clear HP2))))) | skip
    all_goals go_wp2_with fail
    all_goals go_ret2
    all_goals exact ValAns.small rfl (by omega) (HA.out.trans (And.left (by assumption)))
  · go_wp2_with fail
    have HC : Hid (∀ w', StyAfter w0 S cA cs cc w1 w' → StyAfter w0 S cA cs cc w1 w' ∧ w'.cell? ⟨w.heap.size, 1, none⟩ = some (Value.string text) ∧ w'.cell? ⟨w.heap.size, 3, none⟩ = some (Value.int .i64 n) ∧ w'.cell? ⟨w.heap.size, 6, none⟩ = some (Value.slice bA bs.length bc)) := fun w' h => ⟨h, (h.keeps.cell (p := ⟨w.heap.size, 1, none⟩) hbx (by simp; omega)).trans q1, (h.keeps.cell (p := ⟨w.heap.size, 3, none⟩) hbx (by simp; omega)).trans q3, (h.keeps.cell (p := ⟨w.heap.size, 6, none⟩) hbx (by simp; omega)).trans q6⟩
    first | (go_must (go_region_held3 (fun w' => StyAfter w0 S cA cs cc w1 w' ∧ w'.cell? ⟨w.heap.size, 1, none⟩ = some (Value.string text) ∧ w'.cell? ⟨w.heap.size, 3, none⟩ = some (Value.int .i64 n) ∧ w'.cell? ⟨w.heap.size, 6, none⟩ = some (Value.slice bA bs.length bc)) (first | assumption | exact HC.out _ (HA.out.sty.with (Below.refl _ _).drew) | exact HC.out _ (StyAfter.alloc' (And.left (by assumption)) _) | exact HC.out _ HP.out) (first | (go_at_call 27; go_must (refine Calls.mono (ExtBase64_calls bA bc bs HBR.out (by omega) _ (HR.out.below (Sty.below (StyAfter.sty (And.left (by assumption)))))) ?_; rintro e w6 ⟨v, rfl, hq, hbw⟩; have hv : v.size ≤ 604 := (by rw [hq.size]; have := b64L_length bs; omega); clear hq; (try clear HP); have HP := Lib.hid (StyAfter.with (And.left (by assumption)) hbw); clear hbw)) | (go_at_call 28; go_must (refine Calls.mono (extHex_calls _ (u8_range _).1 (u8_range _).2 _) ?_; rintro e w6 ⟨v, rfl, hq, hbw⟩; have hv : v.size ≤ 2 := (by rw [hq.size]; simp); clear hq; (try clear HP); have HP := Lib.hid (StyAfter.with (And.left (by assumption)) hbw); clear hbw)) | (go_at_call 25; go_must (refine Calls.mono (quoted_calls _ (by omega) _) ?_; rintro e w6 ⟨⟨v, rfl, hv⟩, hw6⟩; subst hw6; (try clear HP); have HP := Lib.hid (StyAfter.self (And.left (by assumption : StyAfter w0 S cA cs cc w1 _ ∧ _))))) | (go_at_call_of 24 (Value.bool true); go_must (refine Calls.mono (obj2T _ _ _ _ 1000 1000 (by omega) (by omega) (Nat.add_le_add (by decide : _ ≤ 20) (by omega : _ ≤ 1000 - 20)) (Nat.add_le_add (by decide : _ ≤ 20) (by omega : _ ≤ 1000 - 20)) HP.out.sty) ?_; rintro e w6 ⟨⟨v, rfl, hv⟩, haw⟩; have HP2 := Lib.hid (HP.out.trans haw); clear HP haw; have HP := HP2; clear HP2)) | (go_at_call 24; go_must ((first | refine Calls.mono (obj1 _ _ 1000 (by omega) (Nat.add_le_add (by decide : _ ≤ 20) (by omega : _ ≤ 980)) HP.out.sty) ?_ | refine Calls.mono (obj1 _ _ 16100 (by omega) (Nat.add_le_add (by decide : _ ≤ 20) (by omega : _ ≤ 16080)) HP.out.sty) ?_); rintro e w6 ⟨⟨v, rfl, hv⟩, haw⟩; have HP2 := Lib.hid (HP.out.trans haw); clear HP haw; have HP := HP2; clear HP2))))) | skip
    all_goals go_wp2_with fail
    all_goals go_ret2
    all_goals exact ValAns.small rfl (by omega) (HA.out.trans (And.left (by assumption)))
set_option maxRecDepth 100000 in
set_option maxHeartbeats 4000000 in
theorem val12_calls {w0 : World} {S : Nat} {cA : Option Addr} {cs : List Int} {cc : Nat} {w : World} (hs : Sty w0 S cA cs cc w) (E : Env w0) (text more : ByteArray) (n bits high : Int) (bA kA : Option Addr) (bs : List Int) (bc kl kc : Nat) (ht : text.size ≤ 300) (hm : more.size ≤ 300) (n0 : -9223372036854775808 ≤ n) (n1 : n ≤ 9223372036854775807) (b0 : 0 ≤ bits) (b1 : bits < 18446744073709551616) (g0 : 0 ≤ high) (g1 : high < 18446744073709551616) (hbs : bs.length ≤ 300) (hbr : ∀ x ∈ bs, 0 ≤ x ∧ x ≤ 255) (hbR : ReadsInt w0 .u8 bA bs.length bs) :
    Calls Tryz.prog 10 #[.pointer (some ⟨S, 0, none⟩), .agg #[.int .i64 12, .string text, .string more, .int .i64 n, .int .u64 bits, .int .u64 high, .slice bA bs.length bc, .slice kA kl kc]] w (ValAns (fun l => l.length ≤ 60000) w0 S cA cs cc w) := by
  have HS := Lib.hid hs
  have c3 := (hs.alloc (.cells #[.int .i64 12, .string text, .string more, .int .i64 n, .int .u64 bits, .int .u64 high, .slice bA bs.length bc, .slice kA kl kc] 26)).sty.c3
  have hlt := hs.size
  clear hs
  have HE := Lib.hid E
  clear E
  have HR := Lib.hid hbR
  clear hbR
  have HBR := Lib.hid hbr
  clear hbr
  go_enter Tryz.func10, Tryz.ntmps10
  go_wp2_with fail
  refine (next_calls 2 (by omega) (by omega) (HS.out.alloc _).sty).mono ?_
  rintro e w1 ⟨r, rfl, hr, ha⟩
  have q0 : w1.cell? ⟨w.heap.size, 0, none⟩ = some (Value.int .i64 12) := (ha.keeps.cell (p := ⟨w.heap.size, 0, none⟩) (by simp) (by simp; omega)).trans (by simp [go_sem])
  have q1 : w1.cell? ⟨w.heap.size, 1, none⟩ = some (Value.string text) := (ha.keeps.cell (p := ⟨w.heap.size, 1, none⟩) (by simp) (by simp; omega)).trans (by simp [go_sem])
  have q2 : w1.cell? ⟨w.heap.size, 2, none⟩ = some (Value.string more) := (ha.keeps.cell (p := ⟨w.heap.size, 2, none⟩) (by simp) (by simp; omega)).trans (by simp [go_sem])
  have q3 : w1.cell? ⟨w.heap.size, 3, none⟩ = some (Value.int .i64 n) := (ha.keeps.cell (p := ⟨w.heap.size, 3, none⟩) (by simp) (by simp; omega)).trans (by simp [go_sem])
  have q4 : w1.cell? ⟨w.heap.size, 4, none⟩ = some (Value.int .u64 bits) := (ha.keeps.cell (p := ⟨w.heap.size, 4, none⟩) (by simp) (by simp; omega)).trans (by simp [go_sem])
  have q5 : w1.cell? ⟨w.heap.size, 5, none⟩ = some (Value.int .u64 high) := (ha.keeps.cell (p := ⟨w.heap.size, 5, none⟩) (by simp) (by simp; omega)).trans (by simp [go_sem])
  have q6 : w1.cell? ⟨w.heap.size, 6, none⟩ = some (Value.slice bA bs.length bc) := (ha.keeps.cell (p := ⟨w.heap.size, 6, none⟩) (by simp) (by simp; omega)).trans (by simp [go_sem])
  have q7 : w1.cell? ⟨w.heap.size, 7, none⟩ = some (Value.slice kA kl kc) := (ha.keeps.cell (p := ⟨w.heap.size, 7, none⟩) (by simp) (by simp; omega)).trans (by simp [go_sem])
  have hbx : w.heap.size < w1.heap.size := by have := ha.keeps.size; simp at this; omega
  have HA := Lib.hid ((HS.out.alloc _).trans ha)
  clear ha c3
  have hr8 : r = 0 ∨ r = 1 := by omega
  clear hr
  rcases hr8 with rfl | rfl
  · go_wp2_with fail
    have HC : Hid (∀ w', StyAfter w0 S cA cs cc w1 w' → StyAfter w0 S cA cs cc w1 w' ∧ w'.cell? ⟨w.heap.size, 1, none⟩ = some (Value.string text) ∧ w'.cell? ⟨w.heap.size, 6, none⟩ = some (Value.slice bA bs.length bc)) := fun w' h => ⟨h, (h.keeps.cell (p := ⟨w.heap.size, 1, none⟩) hbx (by simp; omega)).trans q1, (h.keeps.cell (p := ⟨w.heap.size, 6, none⟩) hbx (by simp; omega)).trans q6⟩
    first | (go_must (go_region_held3 (fun w' => StyAfter w0 S cA cs cc w1 w' ∧ w'.cell? ⟨w.heap.size, 1, none⟩ = some (Value.string text) ∧ w'.cell? ⟨w.heap.size, 6, none⟩ = some (Value.slice bA bs.length bc)) (first | assumption | exact HC.out _ (HA.out.sty.with (Below.refl _ _).drew) | exact HC.out _ (StyAfter.alloc' (And.left (by assumption)) _) | exact HC.out _ HP.out) (first | (go_at_call 19; go_must (refine Calls.mono (text_n _ (by omega) (StyAfter.sty (And.left (by assumption)))) ?_; rintro e w6 ⟨⟨v, rfl, hv⟩, haw⟩; (try clear HP); have HP := Lib.hid (StyAfter.trans (And.left (by assumption)) haw); clear haw)) | (go_at_call 30; go_must (refine Calls.mono (extID_calls bA bc bs HBR.out (by omega) _ (HR.out.below (Sty.below (StyAfter.sty (And.left (by assumption)))))) ?_; rintro e w6 ⟨v, rfl, hq, hbw⟩; have hv : v.size ≤ 602 := (by rw [hq.size, List.length_append, List.length_cons, hexL_length]; simp; omega); clear hq; (try clear HP); have HP := Lib.hid (StyAfter.with (And.left (by assumption)) hbw); clear hbw)) | (go_at_call 25; go_must (refine Calls.mono (quoted_calls _ (by omega) _) ?_; rintro e w6 ⟨⟨v, rfl, hv⟩, hw6⟩; subst hw6; (try clear HP); have HP := Lib.hid (StyAfter.self (And.left (by assumption : StyAfter w0 S cA cs cc w1 _ ∧ _))))) | (go_at_call_of 24 (Value.bool true); go_must (refine Calls.mono (obj2T _ _ _ _ 4000 4000 (by omega) (by omega) (Nat.add_le_add (by decide : _ ≤ 20) (by omega : _ ≤ 4000 - 20)) (Nat.add_le_add (by decide : _ ≤ 20) (by omega : _ ≤ 4000 - 20)) HP.out.sty) ?_; rintro e w6 ⟨⟨v, rfl, hv⟩, haw⟩; have HP2 := Lib.hid (HP.out.trans haw); clear HP haw; have HP := HP2; clear HP2)) | (go_at_call 24; go_must ((first | refine Calls.mono (obj1 _ _ 1000 (by omega) (Nat.add_le_add (by decide : _ ≤ 20) (by omega : _ ≤ 980)) HP.out.sty) ?_ | refine Calls.mono (obj1 _ _ 16100 (by omega) (Nat.add_le_add (by decide : _ ≤ 20) (by omega : _ ≤ 16080)) HP.out.sty) ?_); rintro e w6 ⟨⟨v, rfl, hv⟩, haw⟩; have HP2 := Lib.hid (HP.out.trans haw); clear HP haw; have HP := HP2; clear HP2))))) | skip
    all_goals go_wp2_with fail
    all_goals go_ret2
    all_goals exact ValAns.small rfl (by omega) (HA.out.trans (And.left (by assumption)))
  · go_wp2_with fail
    have HC : Hid (∀ w', StyAfter w0 S cA cs cc w1 w' → StyAfter w0 S cA cs cc w1 w' ∧ w'.cell? ⟨w.heap.size, 1, none⟩ = some (Value.string text) ∧ w'.cell? ⟨w.heap.size, 6, none⟩ = some (Value.slice bA bs.length bc)) := fun w' h => ⟨h, (h.keeps.cell (p := ⟨w.heap.size, 1, none⟩) hbx (by simp; omega)).trans q1, (h.keeps.cell (p := ⟨w.heap.size, 6, none⟩) hbx (by simp; omega)).trans q6⟩
    first | (go_must (go_region_held3 (fun w' => StyAfter w0 S cA cs cc w1 w' ∧ w'.cell? ⟨w.heap.size, 1, none⟩ = some (Value.string text) ∧ w'.cell? ⟨w.heap.size, 6, none⟩ = some (Value.slice bA bs.length bc)) (first | assumption | exact HC.out _ (HA.out.sty.with (Below.refl _ _).drew) | exact HC.out _ (StyAfter.alloc' (And.left (by assumption)) _) | exact HC.out _ HP.out) (first | (go_at_call 19; go_must (refine Calls.mono (text_n _ (by omega) (StyAfter.sty (And.left (by assumption)))) ?_; rintro e w6 ⟨⟨v, rfl, hv⟩, haw⟩; (try clear HP); have HP := Lib.hid (StyAfter.trans (And.left (by assumption)) haw); clear haw)) | (go_at_call 30; go_must (refine Calls.mono (extID_calls bA bc bs HBR.out (by omega) _ (HR.out.below (Sty.below (StyAfter.sty (And.left (by assumption)))))) ?_; rintro e w6 ⟨v, rfl, hq, hbw⟩; have hv : v.size ≤ 602 := (by rw [hq.size, List.length_append, List.length_cons, hexL_length]; simp; omega); clear hq; (try clear HP); have HP := Lib.hid (StyAfter.with (And.left (by assumption)) hbw); clear hbw)) | (go_at_call 25; go_must (refine Calls.mono (quoted_calls _ (by omega) _) ?_; rintro e w6 ⟨⟨v, rfl, hv⟩, hw6⟩; subst hw6; (try clear HP); have HP := Lib.hid (StyAfter.self (And.left (by assumption : StyAfter w0 S cA cs cc w1 _ ∧ _))))) | (go_at_call_of 24 (Value.bool true); go_must (refine Calls.mono (obj2T _ _ _ _ 4000 4000 (by omega) (by omega) (Nat.add_le_add (by decide : _ ≤ 20) (by omega : _ ≤ 4000 - 20)) (Nat.add_le_add (by decide : _ ≤ 20) (by omega : _ ≤ 4000 - 20)) HP.out.sty) ?_; rintro e w6 ⟨⟨v, rfl, hv⟩, haw⟩; have HP2 := Lib.hid (HP.out.trans haw); clear HP haw; have HP := HP2; clear HP2)) | (go_at_call 24; go_must ((first | refine Calls.mono (obj1 _ _ 1000 (by omega) (Nat.add_le_add (by decide : _ ≤ 20) (by omega : _ ≤ 980)) HP.out.sty) ?_ | refine Calls.mono (obj1 _ _ 16100 (by omega) (Nat.add_le_add (by decide : _ ≤ 20) (by omega : _ ≤ 16080)) HP.out.sty) ?_); rintro e w6 ⟨⟨v, rfl, hv⟩, haw⟩; have HP2 := Lib.hid (HP.out.trans haw); clear HP haw; have HP := HP2; clear HP2))))) | skip
    all_goals go_wp2_with fail
    all_goals go_ret2
    all_goals exact ValAns.small rfl (by omega) (HA.out.trans (And.left (by assumption)))
set_option maxRecDepth 100000 in
set_option maxHeartbeats 4000000 in
theorem val17_calls {w0 : World} {S : Nat} {cA : Option Addr} {cs : List Int} {cc : Nat} {w : World} (hs : Sty w0 S cA cs cc w) (E : Env w0) (text more : ByteArray) (n bits high : Int) (bA kA : Option Addr) (bs : List Int) (bc kl kc : Nat) (ht : text.size ≤ 300) (hm : more.size ≤ 300) (n0 : -9223372036854775808 ≤ n) (n1 : n ≤ 9223372036854775807) (b0 : 0 ≤ bits) (b1 : bits < 18446744073709551616) (g0 : 0 ≤ high) (g1 : high < 18446744073709551616) (hbs : bs.length ≤ 300) (hbr : ∀ x ∈ bs, 0 ≤ x ∧ x ≤ 255) (hbR : ReadsInt w0 .u8 bA bs.length bs) :
    Calls Tryz.prog 10 #[.pointer (some ⟨S, 0, none⟩), .agg #[.int .i64 17, .string text, .string more, .int .i64 n, .int .u64 bits, .int .u64 high, .slice bA bs.length bc, .slice kA kl kc]] w (ValAns (fun l => l.length ≤ 60000) w0 S cA cs cc w) := by
  have HS := Lib.hid hs
  have c3 := (hs.alloc (.cells #[.int .i64 17, .string text, .string more, .int .i64 n, .int .u64 bits, .int .u64 high, .slice bA bs.length bc, .slice kA kl kc] 26)).sty.c3
  have hlt := hs.size
  clear hs
  have HE := Lib.hid E
  clear E
  have HR := Lib.hid hbR
  clear hbR
  have HBR := Lib.hid hbr
  clear hbr
  go_enter Tryz.func10, Tryz.ntmps10
  go_wp2_with fail
  refine (next_calls 2 (by omega) (by omega) (HS.out.alloc _).sty).mono ?_
  rintro e w1 ⟨r, rfl, hr, ha⟩
  have q0 : w1.cell? ⟨w.heap.size, 0, none⟩ = some (Value.int .i64 17) := (ha.keeps.cell (p := ⟨w.heap.size, 0, none⟩) (by simp) (by simp; omega)).trans (by simp [go_sem])
  have q1 : w1.cell? ⟨w.heap.size, 1, none⟩ = some (Value.string text) := (ha.keeps.cell (p := ⟨w.heap.size, 1, none⟩) (by simp) (by simp; omega)).trans (by simp [go_sem])
  have q2 : w1.cell? ⟨w.heap.size, 2, none⟩ = some (Value.string more) := (ha.keeps.cell (p := ⟨w.heap.size, 2, none⟩) (by simp) (by simp; omega)).trans (by simp [go_sem])
  have q3 : w1.cell? ⟨w.heap.size, 3, none⟩ = some (Value.int .i64 n) := (ha.keeps.cell (p := ⟨w.heap.size, 3, none⟩) (by simp) (by simp; omega)).trans (by simp [go_sem])
  have q4 : w1.cell? ⟨w.heap.size, 4, none⟩ = some (Value.int .u64 bits) := (ha.keeps.cell (p := ⟨w.heap.size, 4, none⟩) (by simp) (by simp; omega)).trans (by simp [go_sem])
  have q5 : w1.cell? ⟨w.heap.size, 5, none⟩ = some (Value.int .u64 high) := (ha.keeps.cell (p := ⟨w.heap.size, 5, none⟩) (by simp) (by simp; omega)).trans (by simp [go_sem])
  have q6 : w1.cell? ⟨w.heap.size, 6, none⟩ = some (Value.slice bA bs.length bc) := (ha.keeps.cell (p := ⟨w.heap.size, 6, none⟩) (by simp) (by simp; omega)).trans (by simp [go_sem])
  have q7 : w1.cell? ⟨w.heap.size, 7, none⟩ = some (Value.slice kA kl kc) := (ha.keeps.cell (p := ⟨w.heap.size, 7, none⟩) (by simp) (by simp; omega)).trans (by simp [go_sem])
  have hbx : w.heap.size < w1.heap.size := by have := ha.keeps.size; simp at this; omega
  have HA := Lib.hid ((HS.out.alloc _).trans ha)
  clear ha c3
  have hr8 : r = 0 ∨ r = 1 := by omega
  clear hr
  rcases hr8 with rfl | rfl
  · have a0 := and32m bits b0 b1
    go_wp2_with fail
    have HC : Hid (∀ w', StyAfter w0 S cA cs cc w1 w' → StyAfter w0 S cA cs cc w1 w' ∧ w'.cell? ⟨w.heap.size, 4, none⟩ = some (Value.int .u64 bits)) := fun w' h => ⟨h, (h.keeps.cell (p := ⟨w.heap.size, 4, none⟩) hbx (by simp; omega)).trans q4⟩
    first | (go_must (go_region_held3 (fun w' => StyAfter w0 S cA cs cc w1 w' ∧ w'.cell? ⟨w.heap.size, 4, none⟩ = some (Value.int .u64 bits)) (first | assumption | exact HC.out _ (HA.out.sty.with (Below.refl _ _).drew) | exact HC.out _ (StyAfter.alloc' (And.left (by assumption)) _) | exact HC.out _ HP.out) (first | (go_at_call 31; go_must (refine Calls.mono (FormatUintI_calls _ (by omega) (by omega) _ (HE.out.p10 _ (Sty.below (StyAfter.sty (And.left (by assumption)))))) ?_; rintro e w6 ⟨⟨v, rfl, hv⟩, hbw⟩; (try clear HP); have HP := Lib.hid (StyAfter.with (And.left (by assumption)) hbw); clear hbw)) | (go_at_call 25; go_must (refine Calls.mono (quoted_calls _ (by omega) _) ?_; rintro e w6 ⟨⟨v, rfl, hv⟩, hw6⟩; subst hw6; (try clear HP); have HP := Lib.hid (StyAfter.self (And.left (by assumption : StyAfter w0 S cA cs cc w1 _ ∧ _))))) | (go_at_call_of 24 (Value.bool true); go_must (refine Calls.mono (obj2T _ _ _ _ 100 100 (by omega) (by omega) (Nat.add_le_add (by decide : _ ≤ 20) (by omega : _ ≤ 100 - 20)) (Nat.add_le_add (by decide : _ ≤ 20) (by omega : _ ≤ 100 - 20)) HP.out.sty) ?_; rintro e w6 ⟨⟨v, rfl, hv⟩, haw⟩; have HP2 := Lib.hid (HP.out.trans haw); clear HP haw; have HP := HP2; clear HP2)) | (go_at_call 24; go_must ((first | refine Calls.mono (obj1 _ _ 1000 (by omega) (Nat.add_le_add (by decide : _ ≤ 20) (by omega : _ ≤ 980)) HP.out.sty) ?_ | refine Calls.mono (obj1 _ _ 16100 (by omega) (Nat.add_le_add (by decide : _ ≤ 20) (by omega : _ ≤ 16080)) HP.out.sty) ?_); rintro e w6 ⟨⟨v, rfl, hv⟩, haw⟩; have HP2 := Lib.hid (HP.out.trans haw); clear HP haw; have HP := HP2; clear HP2))))) | skip
    all_goals go_wp2_with fail
    all_goals go_ret2
    all_goals exact ValAns.small rfl (by omega) (HA.out.trans (And.left (by assumption)))
  · have a0 := and32m bits b0 b1
    go_wp2_with fail
    have HC : Hid (∀ w', StyAfter w0 S cA cs cc w1 w' → StyAfter w0 S cA cs cc w1 w' ∧ w'.cell? ⟨w.heap.size, 4, none⟩ = some (Value.int .u64 bits)) := fun w' h => ⟨h, (h.keeps.cell (p := ⟨w.heap.size, 4, none⟩) hbx (by simp; omega)).trans q4⟩
    first | (go_must (go_region_held3 (fun w' => StyAfter w0 S cA cs cc w1 w' ∧ w'.cell? ⟨w.heap.size, 4, none⟩ = some (Value.int .u64 bits)) (first | assumption | exact HC.out _ (HA.out.sty.with (Below.refl _ _).drew) | exact HC.out _ (StyAfter.alloc' (And.left (by assumption)) _) | exact HC.out _ HP.out) (first | (go_at_call 31; go_must (refine Calls.mono (FormatUintI_calls _ (by omega) (by omega) _ (HE.out.p10 _ (Sty.below (StyAfter.sty (And.left (by assumption)))))) ?_; rintro e w6 ⟨⟨v, rfl, hv⟩, hbw⟩; (try clear HP); have HP := Lib.hid (StyAfter.with (And.left (by assumption)) hbw); clear hbw)) | (go_at_call 25; go_must (refine Calls.mono (quoted_calls _ (by omega) _) ?_; rintro e w6 ⟨⟨v, rfl, hv⟩, hw6⟩; subst hw6; (try clear HP); have HP := Lib.hid (StyAfter.self (And.left (by assumption : StyAfter w0 S cA cs cc w1 _ ∧ _))))) | (go_at_call_of 24 (Value.bool true); go_must (refine Calls.mono (obj2T _ _ _ _ 100 100 (by omega) (by omega) (Nat.add_le_add (by decide : _ ≤ 20) (by omega : _ ≤ 100 - 20)) (Nat.add_le_add (by decide : _ ≤ 20) (by omega : _ ≤ 100 - 20)) HP.out.sty) ?_; rintro e w6 ⟨⟨v, rfl, hv⟩, haw⟩; have HP2 := Lib.hid (HP.out.trans haw); clear HP haw; have HP := HP2; clear HP2)) | (go_at_call 24; go_must ((first | refine Calls.mono (obj1 _ _ 1000 (by omega) (Nat.add_le_add (by decide : _ ≤ 20) (by omega : _ ≤ 980)) HP.out.sty) ?_ | refine Calls.mono (obj1 _ _ 16100 (by omega) (Nat.add_le_add (by decide : _ ≤ 20) (by omega : _ ≤ 16080)) HP.out.sty) ?_); rintro e w6 ⟨⟨v, rfl, hv⟩, haw⟩; have HP2 := Lib.hid (HP.out.trans haw); clear HP haw; have HP := HP2; clear HP2))))) | skip
    all_goals go_wp2_with fail
    all_goals go_ret2
    all_goals exact ValAns.small rfl (by omega) (HA.out.trans (And.left (by assumption)))
set_option maxRecDepth 100000 in
set_option maxHeartbeats 4000000 in
theorem val11_calls {w0 : World} {S : Nat} {cA : Option Addr} {cs : List Int} {cc : Nat} {w : World} (hs : Sty w0 S cA cs cc w) (E : Env w0) (text more : ByteArray) (n bits high : Int) (bA kA : Option Addr) (bs : List Int) (bc kl kc : Nat) (ht : text.size ≤ 300) (hm : more.size ≤ 300) (n0 : -9223372036854775808 ≤ n) (n1 : n ≤ 9223372036854775807) (b0 : 0 ≤ bits) (b1 : bits < 18446744073709551616) (g0 : 0 ≤ high) (g1 : high < 18446744073709551616) (hbs : bs.length ≤ 300) (hbr : ∀ x ∈ bs, 0 ≤ x ∧ x ≤ 255) (hbR : ReadsInt w0 .u8 bA bs.length bs) (hrise : ∀ k, 0 < k → k < more.size → rd (bytesOf more) ((k - 1 : Nat) : Int) ≤ rd (bytesOf more) (k : Int)) :
    Calls Tryz.prog 10 #[.pointer (some ⟨S, 0, none⟩), .agg #[.int .i64 11, .string text, .string more, .int .i64 n, .int .u64 bits, .int .u64 high, .slice bA bs.length bc, .slice kA kl kc]] w (ValAns (fun l => l.length ≤ 60000) w0 S cA cs cc w) := by
  have HS := Lib.hid hs
  have c3 := (hs.alloc (.cells #[.int .i64 11, .string text, .string more, .int .i64 n, .int .u64 bits, .int .u64 high, .slice bA bs.length bc, .slice kA kl kc] 26)).sty.c3
  have hlt := hs.size
  clear hs
  have HE := Lib.hid E
  clear E
  have HR := Lib.hid hbR
  clear hbR
  have HBR := Lib.hid hbr
  clear hbr
  go_enter Tryz.func10, Tryz.ntmps10
  go_wp2_with fail
  refine (next_calls 2 (by omega) (by omega) (HS.out.alloc _).sty).mono ?_
  rintro e w1 ⟨r, rfl, hr, ha⟩
  have q0 : w1.cell? ⟨w.heap.size, 0, none⟩ = some (Value.int .i64 11) := (ha.keeps.cell (p := ⟨w.heap.size, 0, none⟩) (by simp) (by simp; omega)).trans (by simp [go_sem])
  have q1 : w1.cell? ⟨w.heap.size, 1, none⟩ = some (Value.string text) := (ha.keeps.cell (p := ⟨w.heap.size, 1, none⟩) (by simp) (by simp; omega)).trans (by simp [go_sem])
  have q2 : w1.cell? ⟨w.heap.size, 2, none⟩ = some (Value.string more) := (ha.keeps.cell (p := ⟨w.heap.size, 2, none⟩) (by simp) (by simp; omega)).trans (by simp [go_sem])
  have q3 : w1.cell? ⟨w.heap.size, 3, none⟩ = some (Value.int .i64 n) := (ha.keeps.cell (p := ⟨w.heap.size, 3, none⟩) (by simp) (by simp; omega)).trans (by simp [go_sem])
  have q4 : w1.cell? ⟨w.heap.size, 4, none⟩ = some (Value.int .u64 bits) := (ha.keeps.cell (p := ⟨w.heap.size, 4, none⟩) (by simp) (by simp; omega)).trans (by simp [go_sem])
  have q5 : w1.cell? ⟨w.heap.size, 5, none⟩ = some (Value.int .u64 high) := (ha.keeps.cell (p := ⟨w.heap.size, 5, none⟩) (by simp) (by simp; omega)).trans (by simp [go_sem])
  have q6 : w1.cell? ⟨w.heap.size, 6, none⟩ = some (Value.slice bA bs.length bc) := (ha.keeps.cell (p := ⟨w.heap.size, 6, none⟩) (by simp) (by simp; omega)).trans (by simp [go_sem])
  have q7 : w1.cell? ⟨w.heap.size, 7, none⟩ = some (Value.slice kA kl kc) := (ha.keeps.cell (p := ⟨w.heap.size, 7, none⟩) (by simp) (by simp; omega)).trans (by simp [go_sem])
  have hbx : w.heap.size < w1.heap.size := by have := ha.keeps.size; simp at this; omega
  have HA := Lib.hid ((HS.out.alloc _).trans ha)
  clear ha c3
  have hr8 : r = 0 ∨ r = 1 := by omega
  clear hr
  rcases hr8 with rfl | rfl
  · go_wp2_with fail
    have HC : Hid (∀ w', StyAfter w0 S cA cs cc w1 w' → StyAfter w0 S cA cs cc w1 w' ∧ w'.cell? ⟨w.heap.size, 1, none⟩ = some (Value.string text) ∧ w'.cell? ⟨w.heap.size, 2, none⟩ = some (Value.string more)) := fun w' h => ⟨h, (h.keeps.cell (p := ⟨w.heap.size, 1, none⟩) hbx (by simp; omega)).trans q1, (h.keeps.cell (p := ⟨w.heap.size, 2, none⟩) hbx (by simp; omega)).trans q2⟩
    first | (go_must (go_region_held3 (fun w' => StyAfter w0 S cA cs cc w1 w' ∧ w'.cell? ⟨w.heap.size, 1, none⟩ = some (Value.string text) ∧ w'.cell? ⟨w.heap.size, 2, none⟩ = some (Value.string more)) (first | assumption | exact HC.out _ (HA.out.sty.with (Below.refl _ _).drew) | exact HC.out _ (StyAfter.alloc' (And.left (by assumption)) _) | exact HC.out _ HP.out) (first | (go_at_call 19; go_must (refine Calls.mono (text_n _ (by omega) (StyAfter.sty (And.left (by assumption)))) ?_; rintro e w6 ⟨⟨v, rfl, hv⟩, haw⟩; (try clear HP); have HP := Lib.hid (StyAfter.trans (And.left (by assumption)) haw); clear haw)) | (go_at_call 29; go_must (refine Calls.mono (extSorted_calls more (by omega) hrise _) ?_; rintro e w6 ⟨v, rfl, hv, hbw⟩; (try clear HP); have HP := Lib.hid (StyAfter.with (And.left (by assumption)) hbw); clear hbw)) | (go_at_call 25; go_must (refine Calls.mono (quoted_calls _ (by omega) _) ?_; rintro e w6 ⟨⟨v, rfl, hv⟩, hw6⟩; subst hw6; (try clear HP); have HP := Lib.hid (StyAfter.self (And.left (by assumption : StyAfter w0 S cA cs cc w1 _ ∧ _))))) | (go_at_call_of 24 (Value.bool true); go_must (refine Calls.mono (obj2T _ _ _ _ 4000 4000 (by omega) (by omega) (Nat.add_le_add (by decide : _ ≤ 20) (by omega : _ ≤ 4000 - 20)) (Nat.add_le_add (by decide : _ ≤ 20) (by omega : _ ≤ 4000 - 20)) HP.out.sty) ?_; rintro e w6 ⟨⟨v, rfl, hv⟩, haw⟩; have HP2 := Lib.hid (HP.out.trans haw); clear HP haw; have HP := HP2; clear HP2)) | (go_at_call 24; go_must ((first | refine Calls.mono (obj1 _ _ 1000 (by omega) (Nat.add_le_add (by decide : _ ≤ 20) (by omega : _ ≤ 980)) HP.out.sty) ?_ | refine Calls.mono (obj1 _ _ 16100 (by omega) (Nat.add_le_add (by decide : _ ≤ 20) (by omega : _ ≤ 16080)) HP.out.sty) ?_); rintro e w6 ⟨⟨v, rfl, hv⟩, haw⟩; have HP2 := Lib.hid (HP.out.trans haw); clear HP haw; have HP := HP2; clear HP2))))) | skip
    all_goals go_wp2_with fail
    all_goals go_ret2
    all_goals exact ValAns.small rfl (by omega) (HA.out.trans (And.left (by assumption)))
  · go_wp2_with fail
    have HC : Hid (∀ w', StyAfter w0 S cA cs cc w1 w' → StyAfter w0 S cA cs cc w1 w' ∧ w'.cell? ⟨w.heap.size, 1, none⟩ = some (Value.string text) ∧ w'.cell? ⟨w.heap.size, 2, none⟩ = some (Value.string more)) := fun w' h => ⟨h, (h.keeps.cell (p := ⟨w.heap.size, 1, none⟩) hbx (by simp; omega)).trans q1, (h.keeps.cell (p := ⟨w.heap.size, 2, none⟩) hbx (by simp; omega)).trans q2⟩
    first | (go_must (go_region_held3 (fun w' => StyAfter w0 S cA cs cc w1 w' ∧ w'.cell? ⟨w.heap.size, 1, none⟩ = some (Value.string text) ∧ w'.cell? ⟨w.heap.size, 2, none⟩ = some (Value.string more)) (first | assumption | exact HC.out _ (HA.out.sty.with (Below.refl _ _).drew) | exact HC.out _ (StyAfter.alloc' (And.left (by assumption)) _) | exact HC.out _ HP.out) (first | (go_at_call 19; go_must (refine Calls.mono (text_n _ (by omega) (StyAfter.sty (And.left (by assumption)))) ?_; rintro e w6 ⟨⟨v, rfl, hv⟩, haw⟩; (try clear HP); have HP := Lib.hid (StyAfter.trans (And.left (by assumption)) haw); clear haw)) | (go_at_call 29; go_must (refine Calls.mono (extSorted_calls more (by omega) hrise _) ?_; rintro e w6 ⟨v, rfl, hv, hbw⟩; (try clear HP); have HP := Lib.hid (StyAfter.with (And.left (by assumption)) hbw); clear hbw)) | (go_at_call 25; go_must (refine Calls.mono (quoted_calls _ (by omega) _) ?_; rintro e w6 ⟨⟨v, rfl, hv⟩, hw6⟩; subst hw6; (try clear HP); have HP := Lib.hid (StyAfter.self (And.left (by assumption : StyAfter w0 S cA cs cc w1 _ ∧ _))))) | (go_at_call_of 24 (Value.bool true); go_must (refine Calls.mono (obj2T _ _ _ _ 4000 4000 (by omega) (by omega) (Nat.add_le_add (by decide : _ ≤ 20) (by omega : _ ≤ 4000 - 20)) (Nat.add_le_add (by decide : _ ≤ 20) (by omega : _ ≤ 4000 - 20)) HP.out.sty) ?_; rintro e w6 ⟨⟨v, rfl, hv⟩, haw⟩; have HP2 := Lib.hid (HP.out.trans haw); clear HP haw; have HP := HP2; clear HP2)) | (go_at_call 24; go_must ((first | refine Calls.mono (obj1 _ _ 1000 (by omega) (Nat.add_le_add (by decide : _ ≤ 20) (by omega : _ ≤ 980)) HP.out.sty) ?_ | refine Calls.mono (obj1 _ _ 16100 (by omega) (Nat.add_le_add (by decide : _ ≤ 20) (by omega : _ ≤ 16080)) HP.out.sty) ?_); rintro e w6 ⟨⟨v, rfl, hv⟩, haw⟩; have HP2 := Lib.hid (HP.out.trans haw); clear HP haw; have HP := HP2; clear HP2))))) | skip
    all_goals go_wp2_with fail
    all_goals go_ret2
    all_goals exact ValAns.small rfl (by omega) (HA.out.trans (And.left (by assumption)))
end Go.Proofs.YtlgmlfhalgnppaaGreatDoor
