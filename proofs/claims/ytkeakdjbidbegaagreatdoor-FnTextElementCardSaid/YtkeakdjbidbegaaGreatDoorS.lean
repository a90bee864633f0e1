/- A part of the proof that laws.FnTextElement returns true at every input: Lng, Lngx. -/
import Derived.Test.YtkeakdjbidbegaaGreatDoorRa
import Derived.Test.YtkeakdjbidbegaaGreatDoorR
set_option linter.unusedSimpArgs false
set_option linter.unusedVariables false
set_option maxRecDepth 100000
set_option maxHeartbeats 8000000
namespace Go.Proofs.YtkeakdjbidbegaaGreatDoor
open Go.RowKit
open Go.Proofs.YtkeakdjbidbegaaGreatDoorW.PrintWords
theorem ExtMember_calls (name : ByteArray) (t : VT) (l : List Int) (hn : name.size ≤ 300) (hl : l.length ≤ 90000000) (w : World)
  (HV : ∀ W, Below w.heap.size w W → Calls Tryz.prog 15 #[t.val] W (TxtIs l W)) :
  Calls Tryz.prog 7 #[elemVal name t] w (TxtIs (memL name l) w) := by
 obtain ⟨kind, text, more, n, bits, high, bA, bs, bc, kA, kids, kc⟩ := t
 simp only [elemVal, VT.val, VT.kind, VT.text, VT.more, VT.n, VT.bits, VT.high, VT.bA, VT.bs, VT.bc, VT.kA, VT.kids, VT.kc] at HV ⊢
 have HVV := Lib.hid HV
 have HL := Lib.hid hl
 clear HV hl
 obtain ⟨W0, hW0⟩ : ∃ W, w.alloc (.cells #[.string name, .int .i64 kind, .string text, .string more, .int .i64 n, .int .u64 bits, .int .u64 high, .slice bA bs.length bc, .slice kA kids.length kc] 30) = W := ⟨_, rfl⟩
 have HW0 : Hid (Below w.heap.size w W0) := by rw [← hW0]; exact (Below.refl _ _).alloc (Nat.le_refl _) _
 have q : ∀ j, W0.cell? ⟨w.heap.size, j, none⟩ = _ := fun j => by rw [← hW0, World.cell?_alloc_new]
 have q0 := (q 0).trans (show _ = some (Value.string name) from rfl)
 have q1 := (q 1).trans (show _ = some (Value.int .i64 kind) from rfl)
 have q2 := (q 2).trans (show _ = some (Value.string text) from rfl)
 have q3 := (q 3).trans (show _ = some (Value.string more) from rfl)
 have q4 := (q 4).trans (show _ = some (Value.int .i64 n) from rfl)
 have q5 := (q 5).trans (show _ = some (Value.int .u64 bits) from rfl)
 have q6 := (q 6).trans (show _ = some (Value.int .u64 high) from rfl)
 have q7 := (q 7).trans (show _ = some (Value.slice bA bs.length bc) from rfl)
 have q8 := (q 8).trans (show _ = some (Value.slice kA kids.length kc) from rfl)
 have HZ := Lib.hid (show w.heap.size < W0.heap.size by rw [← hW0]; simp)
 clear q
 go_enter Tryz.func7, Tryz.ntmps7
 go_wp2_with fail
 go_region_with (go_at_call 15; refine (HVV.out _ (by first | exact HW0.out | exact HW0.out.drew)).mono ?_; rintro e w1 ⟨⟨u, rfl, hu⟩, hw⟩; have r0 : w1.cell? ⟨w.heap.size, 0, none⟩ = some (.string name) := (hw.cell (p := ⟨w.heap.size, 0, none⟩) (by first | exact HZ.out | (simp; exact HZ.out))).trans (by first | exact q0 | simpa [go_sem] using q0); have HU := Lib.hid hu; have hs : u.size ≤ 90000000 := (by rw [hu.size]; exact HL.out); have HB1 : Hid (Below w.heap.size w w1) := (by first | exact HW0.out.trans (hw.mono HW0.out.size) | exact HW0.out.drew.trans (hw.mono HW0.out.drew.size)); clear hw hu)
 all_goals go_wp2_with fail
 all_goals go_ret
 all_goals exact ⟨⟨_, rfl, (((StrIs.of [34]).append (strIs_bytes name)).append (StrIs.of [34, 58, 32])).append HU.out |>.cast (by unfold memL; simp)⟩, by first | exact HB1.out | exact HB1.out.drew⟩
theorem ExtLong_3 (d : Nat) (text more : ByteArray) (n bits high : Int) (bA : Option Addr) (bl bc : Nat) (kA : Option Addr) (kids : List (ByteArray × VT)) (kc : Nat) (w : World) (g : ByteArray × VT → List Int) (hk3 : kids.length ≤ 300) (hl : (preL 123 g kids kids.length).length ≤ 80000000)
  (hcell : 0 < kids.length → ∃ ad, kA = some ad ∧ ∀ i (h : i < kids.length), w.cell? (ad.add (9 * i)) = some (.string kids[i].1) ∧ kids[i].1.size ≤ maxLen ∧
    (∀ j (hj : j < 8), w.cell? (ad.add (9 * i + 1 + j)) = some (kids[i].2.cells[j]'(by simpa [VT.cells] using hj))) ∧ VT.In w d kids[i].2)
  (HV : ∀ i (h : i < kids.length) (W : World), Below w.heap.size w W → Calls Tryz.prog 7 #[elemVal kids[i].1 kids[i].2] W (TxtIs (g kids[i]) W)) :
  Calls Tryz.prog 15 #[.agg #[.int .i64 3, .string text, .string more, .int .i64 n, .int .u64 bits, .int .u64 high, .slice bA bl bc, .slice kA kids.length kc]] w (TxtIs (preL 123 g kids kids.length ++ [125]) w) := by
 have HVV := Lib.hid HV
 have HCE := Lib.hid hcell
 have HL := Lib.hid hl
 clear HV hcell hl
 have HW00 : Hid (Below w.heap.size w (w.alloc (.cells #[.int .i64 3, .string text, .string more, .int .i64 n, .int .u64 bits, .int .u64 high, .slice bA bl bc, .slice kA kids.length kc] 26))) := (Below.refl _ _).alloc (Nat.le_refl _) _
 go_enter Tryz.func15, Tryz.ntmps15
 go_wp2_with fail
 go_loopw [3, 18] (fun s i wr => ∃ (k : Nat) (u : ByteArray), k ≤ kids.length ∧ i = .int .i64 k ∧ s = .string u ∧ Hid (StrIs u (preL 123 g kids k)) ∧ Hid (Below w.heap.size w wr)) (fun _ i _ => kids.length - (intOf i).toNat)
 case atStart => exact ⟨0, _, Nat.zero_le _, rfl, rfl, StrIs.of [123], HW00⟩
 case round =>
  obtain ⟨k, u, hk, rfl, rfl, HU, HW⟩ := hrel
  clear HW00
  have hus : u.size ≤ 80000000 := by rw [HU.out.size]; have := preL_le 123 g kids k (kids.length - k) (by omega); have := HL.out; omega
  by_cases hlt : k < kids.length
  ·have hd' : decide ((k : Int) < kids.length) = true := decide_eq_true (by omega)
   obtain ⟨ad, rfl, hkid⟩ := HCE.out (by omega)
   obtain ⟨p, name, t, hp, hkt, hn, ht, hpb, c0, c1, c2, c3, c4, c5, c6, c7, c8⟩ := VT.kid HW.out hlt hkid
   clear hkid
   have HKT := Lib.hid hkt
   clear hkt ht
   have hs := preL_succ 123 g kids k hlt
   rw [kidAt_lt hlt, HKT.out] at hs
   have hle := preL_le 123 g kids (k + 1) (kids.length - (k + 1)) (by omega)
   have HS := Lib.hid hs
   have hx : (g (name, t)).length ≤ 80000000 := by have := HL.out; rw [hs] at hle; simp only [List.length_append] at hle; omega
   have HX := Lib.hid hx
   clear hs hle hx
   obtain ⟨W1, hW1⟩ : ∃ W, (wr.alloc (.cells #[.string name, .int .i64 t.kind, .string t.text, .string t.more, .int .i64 t.n, .int .u64 t.bits, .int .u64 t.high, .slice t.bA t.bs.length t.bc, .slice t.kA t.kids.length t.kc] 30)) = W := ⟨_, rfl⟩
   have HW1 : Hid (Below w.heap.size w W1) := by rw [← hW1]; exact HW.out.alloc HW.out.size _
   have HC := Lib.hid (HVV.out k hlt)
   rw [HKT.out] at HC
   simp only [elemVal] at HC
   have q : ∀ j, W1.cell? ⟨wr.heap.size, j, none⟩ = _ := fun j => by rw [← hW1, World.cell?_alloc_new]
   have q0 := (q 0).trans (show _ = some (Value.string name) from rfl)
   have q1 := (q 1).trans (show _ = some (Value.int .i64 t.kind) from rfl)
   have q2 := (q 2).trans (show _ = some (Value.string t.text) from rfl)
   have q3 := (q 3).trans (show _ = some (Value.string t.more) from rfl)
   have q4 := (q 4).trans (show _ = some (Value.int .i64 t.n) from rfl)
   have q5 := (q 5).trans (show _ = some (Value.int .u64 t.bits) from rfl)
   have q6 := (q 6).trans (show _ = some (Value.int .u64 t.high) from rfl)
   have q7 := (q 7).trans (show _ = some (Value.slice t.bA t.bs.length t.bc) from rfl)
   have q8 := (q 8).trans (show _ = some (Value.slice t.kA t.kids.length t.kc) from rfl)
   clear q
   by_cases hk0 : k = 0
   ·have dk : decide ((0 : Int) < (k : Int)) = false := decide_eq_false (by omega)
    have dkb : decide (0 < k) = false := decide_eq_false (by omega)
    have HS2 : Hid (preL 123 g kids (k + 1) = preL 123 g kids k ++ g (name, t)) := by
     have h := HS.out
     rw [if_pos hk0, List.append_nil] at h
     exact h
    have HK0 := Lib.hid hk0
    clear hk0
    go_wp2_with fail
    refine (HC.out _ HW1.out).mono ?_
    rintro e w2 ⟨⟨u2, rfl, hu2⟩, hw2⟩
    have HU2 := Lib.hid hu2
    have hs2 : u2.size ≤ 80000000 := by rw [hu2.size]; exact HX.out
    have HW2 := Lib.hid (HW1.out.trans (hw2.mono HW1.out.size))
    clear hu2 hw2 q0 q1 q2 q3 q4 q5 q6 q7 q8
    go_wp2_with fail
    go_roundw
    case rel => exact ⟨k + 1, _, by omega, by first | rfl | (congr 1; omega), rfl, (HU.out.append HU2.out).cast HS2.out.symm, HW2.out⟩
    case measure => simp [intOf] <;> omega
   ·have dk : decide ((0 : Int) < (k : Int)) = true := decide_eq_true (by omega)
    have dkb : decide (0 < k) = true := decide_eq_true (by omega)
    have HS2 : Hid (preL 123 g kids (k + 1) = preL 123 g kids k ++ [44] ++ g (name, t)) := by
     have h := HS.out
     rw [if_neg hk0] at h
     exact h
    have hk1 : 0 < k := by omega
    clear hk0
    go_wp2_with fail
    refine (HC.out _ HW1.out).mono ?_
    rintro e w2 ⟨⟨u2, rfl, hu2⟩, hw2⟩
    have HU2 := Lib.hid hu2
    have hs2 : u2.size ≤ 80000000 := by rw [hu2.size]; exact HX.out
    have HW2 := Lib.hid (HW1.out.trans (hw2.mono HW1.out.size))
    clear hu2 hw2 q0 q1 q2 q3 q4 q5 q6 q7 q8
    go_wp2_with fail
    go_roundw
    case rel => exact ⟨k + 1, _, by omega, by first | rfl | (congr 1; omega), rfl, ((HU.out.append (StrIs.of [44])).append HU2.out).cast HS2.out.symm, HW2.out⟩
    case measure => simp [intOf] <;> omega
  ·obtain rfl : k = kids.length := by omega
   go_wp2_with fail
   go_ret
   exact ⟨⟨_, rfl, HU.out.append (StrIs.of [125])⟩, HW.out⟩
theorem ExtLong_4 (d : Nat) (text more : ByteArray) (n bits high : Int) (bA : Option Addr) (bl bc : Nat) (kA : Option Addr) (kids : List (ByteArray × VT)) (kc : Nat) (w : World) (g : ByteArray × VT → List Int) (hk3 : kids.length ≤ 300) (hl : (preL 91 g kids kids.length).length ≤ 80000000)
  (hcell : 0 < kids.length → ∃ ad, kA = some ad ∧ ∀ i (h : i < kids.length), w.cell? (ad.add (9 * i)) = some (.string kids[i].1) ∧ kids[i].1.size ≤ maxLen ∧
    (∀ j (hj : j < 8), w.cell? (ad.add (9 * i + 1 + j)) = some (kids[i].2.cells[j]'(by simpa [VT.cells] using hj))) ∧ VT.In w d kids[i].2)
  (HV : ∀ i (h : i < kids.length) (W : World), Below w.heap.size w W → Calls Tryz.prog 15 #[kids[i].2.val] W (TxtIs (g kids[i]) W)) :
  Calls Tryz.prog 15 #[.agg #[.int .i64 4, .string text, .string more, .int .i64 n, .int .u64 bits, .int .u64 high, .slice bA bl bc, .slice kA kids.length kc]] w (TxtIs (preL 91 g kids kids.length ++ [93]) w) := by
 have HVV := Lib.hid HV
 have HCE := Lib.hid hcell
 have HL := Lib.hid hl
 clear HV hcell hl
 have HW00 : Hid (Below w.heap.size w (w.alloc (.cells #[.int .i64 4, .string text, .string more, .int .i64 n, .int .u64 bits, .int .u64 high, .slice bA bl bc, .slice kA kids.length kc] 26))) := (Below.refl _ _).alloc (Nat.le_refl _) _
 go_enter Tryz.func15, Tryz.ntmps15
 go_wp2_with fail
 go_loopw [6, 39] (fun s i wr => ∃ (k : Nat) (u : ByteArray), k ≤ kids.length ∧ i = .int .i64 k ∧ s = .string u ∧ Hid (StrIs u (preL 91 g kids k)) ∧ Hid (Below w.heap.size w wr)) (fun _ i _ => kids.length - (intOf i).toNat)
 case atStart => exact ⟨0, _, Nat.zero_le _, rfl, rfl, StrIs.of [91], HW00⟩
 case round =>
  obtain ⟨k, u, hk, rfl, rfl, HU, HW⟩ := hrel
  clear HW00
  have hus : u.size ≤ 80000000 := by rw [HU.out.size]; have := preL_le 91 g kids k (kids.length - k) (by omega); have := HL.out; omega
  by_cases hlt : k < kids.length
  ·have hd' : decide ((k : Int) < kids.length) = true := decide_eq_true (by omega)
   obtain ⟨ad, rfl, hkid⟩ := HCE.out (by omega)
   obtain ⟨p, name, t, hp, hkt, hn, ht, hpb, c0, c1, c2, c3, c4, c5, c6, c7, c8⟩ := VT.kid HW.out hlt hkid
   clear hkid
   have HKT := Lib.hid hkt
   clear hkt ht
   have hs := preL_succ 91 g kids k hlt
   rw [kidAt_lt hlt, HKT.out] at hs
   have hle := preL_le 91 g kids (k + 1) (kids.length - (k + 1)) (by omega)
   have HS := Lib.hid hs
   have hx : (g (name, t)).length ≤ 80000000 := by have := HL.out; rw [hs] at hle; simp only [List.length_append] at hle; omega
   have HX := Lib.hid hx
   clear hs hle hx
   obtain ⟨W1, hW1⟩ : ∃ W, (wr.alloc (.cells #[.string name, .int .i64 t.kind, .string t.text, .string t.more, .int .i64 t.n, .int .u64 t.bits, .int .u64 t.high, .slice t.bA t.bs.length t.bc, .slice t.kA t.kids.length t.kc] 30)) = W := ⟨_, rfl⟩
   have HW1 : Hid (Below w.heap.size w W1) := by rw [← hW1]; exact HW.out.alloc HW.out.size _
   have HC := Lib.hid (HVV.out k hlt)
   rw [HKT.out] at HC
   simp only [VT.val] at HC
   have q : ∀ j, W1.cell? ⟨wr.heap.size, j, none⟩ = _ := fun j => by rw [← hW1, World.cell?_alloc_new]
   have q0 := (q 0).trans (show _ = some (Value.string name) from rfl)
   have q1 := (q 1).trans (show _ = some (Value.int .i64 t.kind) from rfl)
   have q2 := (q 2).trans (show _ = some (Value.string t.text) from rfl)
   have q3 := (q 3).trans (show _ = some (Value.string t.more) from rfl)
   have q4 := (q 4).trans (show _ = some (Value.int .i64 t.n) from rfl)
   have q5 := (q 5).trans (show _ = some (Value.int .u64 t.bits) from rfl)
   have q6 := (q 6).trans (show _ = some (Value.int .u64 t.high) from rfl)
   have q7 := (q 7).trans (show _ = some (Value.slice t.bA t.bs.length t.bc) from rfl)
   have q8 := (q 8).trans (show _ = some (Value.slice t.kA t.kids.length t.kc) from rfl)
   clear q
   by_cases hk0 : k = 0
   ·have dk : decide ((0 : Int) < (k : Int)) = false := decide_eq_false (by omega)
    have dkb : decide (0 < k) = false := decide_eq_false (by omega)
    have HS2 : Hid (preL 91 g kids (k + 1) = preL 91 g kids k ++ g (name, t)) := by
     have h := HS.out
     rw [if_pos hk0, List.append_nil] at h
     exact h
    have HK0 := Lib.hid hk0
    clear hk0
    go_wp2_with fail
    refine (HC.out _ HW1.out).mono ?_
    rintro e w2 ⟨⟨u2, rfl, hu2⟩, hw2⟩
    have HU2 := Lib.hid hu2
    have hs2 : u2.size ≤ 80000000 := by rw [hu2.size]; exact HX.out
    have HW2 := Lib.hid (HW1.out.trans (hw2.mono HW1.out.size))
    clear hu2 hw2 q0 q1 q2 q3 q4 q5 q6 q7 q8
    go_wp2_with fail
    go_roundw
    case rel => exact ⟨k + 1, _, by omega, by first | rfl | (congr 1; omega), rfl, (HU.out.append HU2.out).cast HS2.out.symm, HW2.out⟩
    case measure => simp [intOf] <;> omega
   ·have dk : decide ((0 : Int) < (k : Int)) = true := decide_eq_true (by omega)
    have dkb : decide (0 < k) = true := decide_eq_true (by omega)
    have HS2 : Hid (preL 91 g kids (k + 1) = preL 91 g kids k ++ [44] ++ g (name, t)) := by
     have h := HS.out
     rw [if_neg hk0] at h
     exact h
    have hk1 : 0 < k := by omega
    clear hk0
    go_wp2_with fail
    refine (HC.out _ HW1.out).mono ?_
    rintro e w2 ⟨⟨u2, rfl, hu2⟩, hw2⟩
    have HU2 := Lib.hid hu2
    have hs2 : u2.size ≤ 80000000 := by rw [hu2.size]; exact HX.out
    have HW2 := Lib.hid (HW1.out.trans (hw2.mono HW1.out.size))
    clear hu2 hw2 q0 q1 q2 q3 q4 q5 q6 q7 q8
    go_wp2_with fail
    go_roundw
    case rel => exact ⟨k + 1, _, by omega, by first | rfl | (congr 1; omega), rfl, ((HU.out.append (StrIs.of [44])).append HU2.out).cast HS2.out.symm, HW2.out⟩
    case measure => simp [intOf] <;> omega
  ·obtain rfl : k = kids.length := by omega
   go_wp2_with fail
   go_ret
   exact ⟨⟨_, rfl, HU.out.append (StrIs.of [93])⟩, HW.out⟩
theorem ExtLong_leaf (t : VT) (l : List Int) (h3 : t.kind ≠ 3) (h4 : t.kind ≠ 4) (w : World) (HT : ∀ W, Below w.heap.size w W → Calls Tryz.prog 22 #[t.val, .bool true, .bool true] W (TextOk l W)) :
  Calls Tryz.prog 15 #[t.val] w (TxtIs l w) := by
 have HTT := Lib.hid HT
 have d3 : (t.kind == 3) = false := beq_eq_false_iff_ne.2 h3
 have d4 : (t.kind == 4) = false := beq_eq_false_iff_ne.2 h4
 clear HT h3 h4
 simp only [VT.val] at HTT ⊢
 have HB1 : Hid (Below w.heap.size w (w.alloc (.cells #[.int .i64 t.kind, .string t.text, .string t.more, .int .i64 t.n, .int .u64 t.bits, .int .u64 t.high, .slice t.bA t.bs.length t.bc, .slice t.kA t.kids.length t.kc] 26))) := (Below.refl _ _).alloc (Nat.le_refl _) _
 go_enter Tryz.func15, Tryz.ntmps15
 go_wp2_with fail
 refine (HTT.out _ HB1.out).mono ?_
 rintro e w2 ⟨u, rfl, hu, hw⟩
 have HU := Lib.hid hu
 have HW := Lib.hid (HB1.out.trans (hw.mono HB1.out.size))
 clear hu hw
 go_wp2_with fail
 go_ret
 exact ⟨⟨_, rfl, HU.out⟩, HW.out⟩
theorem ExtText_leaf {D : Int → List Int} {w0 : World} (E : PEnv D w0) {d : Nat} {t : VT} {w : World} (hw : Below w0.heap.size w0 w) (hin : t.In w (d + 1)) (O : LeafOk D t) (h3 : t.kind ≠ 3) (h4 : t.kind ≠ 4) :
  Calls Tryz.prog 22 #[t.val, .bool true, .bool true] w (TextOk (leafL D t) w) := by
 obtain ⟨kind, text, more, n, bits, high, bA, bs, bc, kA, kids, kc⟩ := t
 obtain ⟨g1, g2, g3, g4, g5, g6, g7, g8, g9, g10, g11, g12⟩ := hin
 have hP : ∀ W, Below w.heap.size w W → Pow10W W := fun W h => E.pow.below (hw.trans (h.mono hw.size))
 have ht := O.text
 have hm := O.more
 have hb := O.bs
 have hns := O.noscope
 simp only [VT.val, VT.kind, VT.text, VT.more, VT.n, VT.bits, VT.high, VT.bA, VT.bs, VT.bc, VT.kA, VT.kids, VT.kc] at *
 rcases known_cases O.known with h | h | h | h | h | h | h | h | h | h | h | h | h | h | h | h | h | h | h | h | h <;> (have h' : kind = _ := h; clear h; subst h')
 ·exact (ExtText_1 text more n bits high bA bs bc kA kids.length kc w (x := D bits) (fun W h => (E.dbl.spec bits W g3.1 g3.2 (hw.trans (h.mono hw.size)))) (E.dbl.len bits)).mono fun e w' h => h.cast (by unfold leafL; simp only [VT.kind]; rfl)
 ·exact (ExtText_2 text more n bits high bA bs bc kA kids.length kc w ht).mono fun e w' h => h.cast (by unfold leafL; simp only [VT.kind]; rfl)
 ·exact absurd rfl h3
 ·exact absurd rfl h4
 ·exact (ExtText_5 text more n bits high bA bs bc kA kids.length kc w (O.bin rfl) ⟨hb, g9⟩ g7).mono fun e w' h => h.cast (by unfold leafL; simp only [VT.kind]; rfl)
 ·exact (ExtText_6 text more n bits high bA bs bc kA kids.length kc w).mono fun e w' h => h.cast (by unfold leafL; simp only [VT.kind]; rfl)
 ·exact (ExtText_7 text more n bits high bA bs bc kA kids.length kc w ⟨O.id (.inl rfl), g9⟩ g7).mono fun e w' h => h.cast (by unfold leafL; simp only [VT.kind]; rfl)
 ·exact (ExtText_8 text more n bits high bA bs bc kA kids.length kc w).mono fun e w' h => h.cast (by unfold leafL; simp only [VT.kind]; rfl)
 ·exact (ExtText_9 text more n bits high bA bs bc kA kids.length kc w hP g2).mono fun e w' h => h.cast (by unfold leafL; simp only [VT.kind]; rfl)
 ·exact (ExtText_10 text more n bits high bA bs bc kA kids.length kc w).mono fun e w' h => h.cast (by unfold leafL; simp only [VT.kind]; rfl)
 ·exact (ExtText_11 text more n bits high bA bs bc kA kids.length kc w ht hm (O.rex rfl).2.2).mono fun e w' h => h.cast (by unfold leafL; simp only [VT.kind]; rfl)
 ·exact (ExtText_12 text more n bits high bA bs bc kA kids.length kc w ht ⟨O.id (.inr rfl), g9⟩ g7).mono fun e w' h => h.cast (by unfold leafL; simp only [VT.kind]; rfl)
 ·exact (ExtText_13 text more n bits high bA bs bc kA kids.length kc w ht).mono fun e w' h => h.cast (by unfold leafL; simp only [VT.kind]; rfl)
 ·exact (ExtText_14 text more n bits high bA bs bc kA kids.length kc w ht).mono fun e w' h => h.cast (by unfold leafL; simp only [VT.kind]; rfl)
 ·exact absurd rfl hns
 ·exact (ExtText_16 text more n bits high bA bs bc kA kids.length kc w hP g2).mono fun e w' h => h.cast (by unfold leafL; simp only [VT.kind]; rfl)
 ·exact (ExtText_17 text more n bits high bA bs bc kA kids.length kc w hP g3).mono fun e w' h => h.cast (by unfold leafL; simp only [VT.kind]; rfl)
 ·exact (ExtText_18 text more n bits high bA bs bc kA kids.length kc w hP g2).mono fun e w' h => h.cast (by unfold leafL; simp only [VT.kind]; rfl)
 ·exact (ExtText_19 text more n bits high bA bs bc kA kids.length kc w g3 g4).mono fun e w' h => h.cast (by unfold leafL; simp only [VT.kind]; rfl)
 ·exact (ExtText_255 text more n bits high bA bs bc kA kids.length kc w).mono fun e w' h => h.cast (by unfold leafL; simp only [VT.kind]; rfl)
 ·exact (ExtText_127 text more n bits high bA bs bc kA kids.length kc w).mono fun e w' h => h.cast (by unfold leafL; simp only [VT.kind]; rfl)
theorem ExtLong_all {D : Int → List Int} {w0 : World} (E : PEnv D w0) : ∀ (d : Nat) (t : VT) (w : World), Below w0.heap.size w0 w → t.In w d → t.Ok D d → t.cnt d ≤ 400 → Calls Tryz.prog 15 #[t.val] w (TxtIs (t.long D d) w) := by
 intro d
 induction d with
 | zero => intro t w _ _ h; exact h.elim
 | succ d ih =>
  intro t w hw hin hok hcnt
  have hlen := long_length E.dbl.len (d + 1) t hok hin.rng
  have hkc : ∀ i (h : i < t.kids.length), (t.kids[i].2).cnt d < t.cnt (d + 1) := fun i h => cnt_kid h
  by_cases h34 : t.kind = 3 ∨ t.kind = 4
  ·obtain ⟨O, hk3, hkid⟩ := hok
   have hin0 := hin
   obtain ⟨g1, g2, g3, g4, g5, g6, g7, g8, g9, g10, g11, g12⟩ := hin
   have hIN : ∀ i (h : i < t.kids.length) (W : World), Below w.heap.size w W → VT.In W d t.kids[i].2 := fun i h W hW => by
    obtain ⟨ad, _, hc⟩ := g12 (by omega)
    exact (hc i h).2.2.2.below hW
   rcases h34 with h3 | h4
   ·have e : t.long D (d + 1) = preL 123 (fun x => memL x.1 (VT.long D d x.2)) t.kids t.kids.length ++ [125] := by
     rw [preL_all]
     show (if t.kind = 3 then _ else _) = _
     rw [if_pos h3]
     rfl
    rw [e] at hlen ⊢
    have hl : (preL 123 (fun x => memL x.1 (VT.long D d x.2)) t.kids t.kids.length).length ≤ 80000000 := by rw [List.length_append] at hlen; omega
    have h := ExtLong_3 d t.text t.more t.n t.bits t.high t.bA t.bs.length t.bc t.kA t.kids t.kc w (fun x => memL x.1 (VT.long D d x.2)) hk3 hl g12 fun i hi W hW => by
     obtain ⟨hn, ho⟩ := hkid i hi (.inl h3)
     have hc := hkc i hi
     have hk1 := long_length E.dbl.len d t.kids[i].2 ho ((hIN i hi W hW).rng)
     exact ExtMember_calls t.kids[i].1 t.kids[i].2 (VT.long D d t.kids[i].2) hn.2.1 (by omega) W fun W2 h2 => ih _ W2 (hw.trans ((hW.trans (h2.mono hW.size)).mono hw.size)) (hIN i hi W2 (hW.trans (h2.mono hW.size))) ho (by omega)
    rw [← h3] at h
    exact h
   ·have e : t.long D (d + 1) = preL 91 (fun x => VT.long D d x.2) t.kids t.kids.length ++ [93] := by
     rw [preL_all]
     show (if t.kind = 3 then _ else if t.kind = 4 then _ else _) = _
     rw [if_neg (by omega), if_pos h4]
     rfl
    rw [e] at hlen ⊢
    have hl : (preL 91 (fun x => VT.long D d x.2) t.kids t.kids.length).length ≤ 80000000 := by rw [List.length_append] at hlen; omega
    have h := ExtLong_4 d t.text t.more t.n t.bits t.high t.bA t.bs.length t.bc t.kA t.kids t.kc w (fun x => VT.long D d x.2) hk3 hl g12 fun i hi W hW => by
     obtain ⟨hn, ho⟩ := hkid i hi (.inr h4)
     have hc := hkc i hi
     exact ih _ W (hw.trans (hW.mono hw.size)) (hIN i hi W hW) ho (by omega)
    rw [← h4] at h
    exact h
  ·have h3 : t.kind ≠ 3 := fun h => h34 (.inl h)
   have h4 : t.kind ≠ 4 := fun h => h34 (.inr h)
   have e : t.long D (d + 1) = leafL D t := by
    unfold VT.long
    rw [if_neg h3, if_neg h4]
   rw [e]
   exact ExtLong_leaf t _ h3 h4 w fun W hW => ExtText_leaf E (hw.trans (hW.mono hw.size)) (hin.below hW) hok.1 h3 h4
end Go.Proofs.YtkeakdjbidbegaaGreatDoor
