/- A part of the proof that laws.FnExtKind returns true at every input: Kids, Val3, Value, Law1. -/
import Derived.Test.YtlgmlfhalgnppaaGreatDoorI
import Derived.Test.YtlgmlfhalgnppaaGreatDoorK
import Derived.Test.YtlgmlfhalgnppaaGreatDoorJ
import Derived.Test.YtlgmlfhalgnppaaGreatDoorC
/-! spec.extStyle.kids, by value's contract for the kids. -/
set_option linter.unusedSimpArgs false
set_option linter.unusedVariables false
namespace Go.Proofs.YtlgmlfhalgnppaaGreatDoor
open Go.RowKit
open Go.Proofs.YtlgmlfhalgnppaaGreatDoorW.PrintWords hiding bt bt_at bt_range
/-- How many values a tree holds. -/
def VT.cnt : Nat → VT → Nat
  | 0, _ => 1
  | e + 1, t => 1 + (t.kids.map fun k => cnt e k.2).sum
theorem VT.cnt_pos (e : Nat) (t : VT) : 1 ≤ t.cnt e := by
  cases e with
  | zero => exact Nat.le_refl _
  | succ e => unfold VT.cnt; omega
/-- What a document's text begins with. -/
def DocHead (l : List Int) : Prop := ∃ g r, l = 123 :: (g ++ r) ∧ Bl g ∧ ((∃ r', r = 125 :: r') ∨ ∃ b r', r = 34 :: (b ++ 34 :: r') ∧ JB b)
def ArrHead (l : List Int) : Prop := ∃ r, l = 91 :: r
/-- What the text so far begins with: k kids are written. -/
def HeadSo (doc : Bool) (k : Nat) (l : List Int) : Prop :=
  if doc then (∃ g, Bl g ∧ ((k = 0 ∧ l = 123 :: g) ∨ (0 < k ∧ ∃ b r, l = 123 :: (g ++ 34 :: (b ++ 34 :: r)) ∧ JB b))) else ∃ r, l = 91 :: r
theorem HeadSo.more {doc : Bool} {k k2 : Nat} {l : List Int} (h : HeadSo doc k l) (hk : 0 < k) (hk2 : 0 < k2) (m : List Int) : HeadSo doc k2 (l ++ m) := by
  cases doc
  · obtain ⟨r, rfl⟩ := h
    exact ⟨r ++ m, rfl⟩
  · obtain ⟨g, hg, ⟨h0, _⟩ | ⟨_, b, r, rfl, hb⟩⟩ := h
    · omega
    · exact ⟨g, hg, Or.inr ⟨hk2, b, r ++ m, by simp, hb⟩⟩
theorem HeadSo.first {l : List Int} (h : HeadSo true 0 l) (b : List Int) (hb : JB b) (m : List Int) : HeadSo true 1 (l ++ (34 :: b ++ [34]) ++ m) := by
  obtain ⟨g, hg, ⟨_, rfl⟩ | ⟨h0, _⟩⟩ := h
  · exact ⟨g, hg, Or.inr ⟨by omega, b, m, by simp, hb⟩⟩
  · omega
theorem HeadSo.arr {k : Nat} {l : List Int} (h : HeadSo false k l) (k2 : Nat) (m : List Int) : HeadSo false k2 (l ++ m) := by
  obtain ⟨r, rfl⟩ := h
  exact ⟨r ++ m, rfl⟩
theorem HeadSo.doc_end {k : Nat} {l : List Int} (h : HeadSo true k l) : DocHead (l ++ [125]) := by
  obtain ⟨g, hg, ⟨_, rfl⟩ | ⟨_, b, r, rfl, hb⟩⟩ := h
  · exact ⟨g, [125], by simp, hg, Or.inl ⟨[], rfl⟩⟩
  · exact ⟨g, 34 :: (b ++ 34 :: (r ++ [125])), by simp, hg, Or.inr ⟨b, r ++ [125], rfl, hb⟩⟩
/-- The cells of kids in w0, and what value says of each. -/
structure KidsOK (d : Nat) (bnd : VT → Nat) (w0 : World) (S : Nat) (cA : Option Addr) (cs : List Int) (cc : Nat) (kA : Option Addr) (kids : List (ByteArray × VT)) (kc : Nat) : Prop where
  len : kids.length ≤ 300
  le : kids.length ≤ kc
  cap : kc ≤ maxLen
  lies : 0 < kids.length → ∃ ad, kA = some ad ∧ ∀ i (h : i < kids.length), w0.cell? (ad.add (9 * i)) = some (.string kids[i].1) ∧ kids[i].1.size ≤ maxLen ∧
        (∀ j (hj : j < 8), w0.cell? (ad.add (9 * i + 1 + j)) = some (kids[i].2.cells[j]'(by simpa [VT.cells] using hj))) ∧ VT.In w0 d kids[i].2
  names : ∀ i (h : i < kids.length), kids[i].1.size ≤ 300
  val : ∀ i (h : i < kids.length) (w : World), Sty w0 S cA cs cc w → Calls Tryz.prog 10 #[.pointer (some ⟨S, 0, none⟩), kids[i].2.val] w (ValAns (fun l => l.length + 4000 ≤ bnd kids[i].2) w0 S cA cs cc w)
  bnd : ∀ i (h : i < kids.length), bnd kids[i].2 ≤ 1000000000
def sumTo (bnd : VT → Nat) (kids : List (ByteArray × VT)) (k : Nat) : Nat := ((kids.take k).map fun x => bnd x.2).sum
theorem sumTo_succ (bnd : VT → Nat) (kids : List (ByteArray × VT)) (k : Nat) (h : k < kids.length) : sumTo bnd kids (k + 1) = sumTo bnd kids k + bnd kids[k].2 := by
  unfold sumTo
  rw [List.take_add_one, List.getElem?_eq_getElem h, Option.toList_some, List.map_append, List.sum_append]
  simp only [List.map_cons, List.map_nil, List.sum_cons, List.sum_nil, Nat.add_zero]
theorem sumTo_le (bnd : VT → Nat) (kids : List (ByteArray × VT)) (hb : ∀ i (h : i < kids.length), bnd kids[i].2 ≤ 1000000000) : ∀ k, k ≤ kids.length → sumTo bnd kids k ≤ k * 1000000000 := by
  intro k
  induction k with
  | zero => intro _; simp [sumTo]
  | succ k ih =>
    intro h
    rw [sumTo_succ bnd kids k (by omega)]
    have := ih (by omega)
    have := hb k (by omega)
    omega
theorem Sty.self {w0 : World} {S : Nat} {cA : Option Addr} {cs : List Int} {cc : Nat} {w : World} (h : Sty w0 S cA cs cc w) : StyAfter w0 S cA cs cc w w := ⟨h, Keeps.refl _ _ _⟩
set_option maxRecDepth 100000 in
set_option maxHeartbeats 4000000 in
theorem kids3_calls (text more : ByteArray) (n bits high : Int) (bA : Option Addr) (bl bc : Nat) {d : Nat} {bnd : VT → Nat} {w0 : World} {S : Nat} {cA : Option Addr} {cs : List Int} {cc : Nat} {kA : Option Addr} {kids : List (ByteArray × VT)} {kc : Nat} {w : World}
    (hs : Sty w0 S cA cs cc w) (hk : KidsOK d bnd w0 S cA cs cc kA kids kc) :
    Calls Tryz.prog 18 #[.pointer (some ⟨S, 0, none⟩), .agg #[.int .i64 3, .string text, .string more, .int .i64 n, .int .u64 bits, .int .u64 high, .slice bA bl bc, .slice kA kids.length kc]] w (ValAns (fun l => l.length ≤ 10 + sumTo bnd kids kids.length ∧ DocHead l) w0 S cA cs cc w) := by
  have HS := Lib.hid hs
  have hlt := hs.size
  clear hs
  have hkl := hk.len
  have hkc := hk.le
  have HB := Lib.hid (sumTo_le bnd kids hk.bnd)
  have HK := Lib.hid hk
  clear hk
  go_enter Tryz.func18, Tryz.ntmps18
  go_wp2_with fail
  refine (gap_b (HS.out.alloc _).sty).mono ?_
  rintro e w1 ⟨⟨g0, rfl, hbg0, hg0⟩, ha⟩
  rw [bytesOf_length] at hg0
  have q0 : w1.cell? ⟨w.heap.size, 0, none⟩ = some (.int .i64 3) := (ha.keeps.cell (p := ⟨w.heap.size, 0, none⟩) (by simp) (by simp; omega)).trans (by simp [go_sem])
  have q7 : w1.cell? ⟨w.heap.size, 7, none⟩ = some (.slice kA kids.length kc) := (ha.keeps.cell (p := ⟨w.heap.size, 7, none⟩) (by simp) (by simp; omega)).trans (by simp [go_sem])
  have hbx : w.heap.size < w1.heap.size := by have := ha.keeps.size; simp at this; omega
  have HA1 := Lib.hid ((HS.out.alloc _).trans ha)
  clear ha
  go_wp2_with fail
  go_loopw [8, 9, 10, 11, 12, 23] (fun o i b t ok q wr => ∃ (k : Nat) (u : ByteArray), k ≤ kids.length ∧ q = .int .i64 k ∧ o = .string u ∧ u.size ≤ 3 + sumTo bnd kids k ∧ Hid (HeadSo true k (bytesOf u)) ∧ Hid (StyAfter w0 S cA cs cc w1 wr)) (fun _ _ _ _ _ q _ => kids.length - (intOf q).toNat)
  case atStart =>
    refine ⟨0, _, Nat.zero_le _, rfl, rfl, ?_, ?_, HA1.out.sty.self⟩
    · simp only [ByteArray.size_append]
      show 1 + g0.size ≤ _
      omega
    · show HeadSo _ _ _
      rw [bytes_append]
      exact ⟨bytesOf g0, hbg0, Or.inl ⟨rfl, rfl⟩⟩
  case round =>
    obtain ⟨k, u, hk, rfl, rfl, hu, HH, HR⟩ := hrel
    have q0r : wr.cell? ⟨w.heap.size, 0, none⟩ = some (.int .i64 3) := (HR.out.keeps.cell (p := ⟨w.heap.size, 0, none⟩) hbx (by simp; omega)).trans q0
    have q7r : wr.cell? ⟨w.heap.size, 7, none⟩ = some (.slice kA kids.length kc) := (HR.out.keeps.cell (p := ⟨w.heap.size, 7, none⟩) hbx (by simp; omega)).trans q7
    have hbr : w.heap.size < wr.heap.size := Nat.lt_of_lt_of_le hbx HR.out.keeps.size
    have hsb := HB.out k hk
    have hu2 : u.size ≤ 400000000000 := by omega
    by_cases hlt2 : k < kids.length
    · have hd' : decide ((k : Int) < kids.length) = true := by simp; omega
      obtain ⟨ad, rfl, hkid⟩ := HK.out.lies (by omega)
      obtain ⟨p, name, t, hp, hkt, hn, ht, hpb, c0, c1, c2, c3, c4, c5, c6, c7, c8⟩ := VT.kid HR.out.sty.below hlt2 hkid
      have hnm : name.size ≤ 300 := by have := HK.out.names k hlt2; rw [hkt] at this; exact this
      have hv := HK.out.val k hlt2
      have hbk := HK.out.bnd k hlt2
      have hss := sumTo_succ bnd kids k hlt2
      rw [hkt] at hv hbk hss
      have HV := Lib.hid hv
      have HSS := Lib.hid hss
      clear hkid hkt hn ht hpb hv hss q0 q7
      go_wp2_with fail
      refine (HV.out _ (HR.out.sty.alloc _).sty).mono ?_
      rintro e w2 ⟨⟨v, rfl, hvl⟩, ha⟩
      rw [bytesOf_length] at hvl
      have hvl : v.size + 4000 ≤ bnd t := hvl
      have hbk : bnd t ≤ 1000000000 := hbk
      have hv2 : v.size ≤ 1000000000 := by omega
      have e0 : w2.cell? ⟨wr.heap.size, 0, none⟩ = some (.string name) := (ha.keeps.cell (p := ⟨wr.heap.size, 0, none⟩) (by simp) (by have := HR.out.sty.size; simp; omega)).trans (by simp [go_sem])
      have q0s : w2.cell? ⟨w.heap.size, 0, none⟩ = some (.int .i64 3) := (ha.keeps.cell (p := ⟨w.heap.size, 0, none⟩) (by simp; omega) (by simp; omega)).trans (by simp [go_sem, hbr, q0r])
      have hbe : wr.heap.size < w2.heap.size := by have := ha.keeps.size; simp at this; omega
      have HA := Lib.hid ((HR.out.sty.alloc _).trans ha)
      have hSr := HR.out.sty.size
      clear ha c0 c1 c2 c3 c4 c5 c6 c7 c8 q0r q7r
      have hap := @ByteArray.size_append
      have e0k : ∀ w', StyAfter w0 S cA cs cc w2 w' → w'.cell? ⟨wr.heap.size, 0, none⟩ = some (.string name) := fun w' h => (h.keeps.cell (p := ⟨wr.heap.size, 0, none⟩) hbe (by simp; omega)).trans e0
      have q0k : ∀ w', StyAfter w0 S cA cs cc w2 w' → w'.cell? ⟨w.heap.size, 0, none⟩ = some (.int .i64 3) := fun w' h => (h.keeps.cell (p := ⟨w.heap.size, 0, none⟩) (by show w.heap.size < _; omega) (by simp; omega)).trans q0s
      have HE0 := Lib.hid e0k
      have HQ0 := Lib.hid q0k
      clear e0k q0k e0 q0s
      have HW := Lib.hid HA.out
      obtain ⟨_, hself⟩ : ∃ x : Nat, StyAfter w0 S cA cs cc w2 w2 := ⟨0, ⟨HA.out.sty, Keeps.refl _ _ _⟩⟩
      clear HA
      have HA := Lib.hid hself
      clear hself
      by_cases hk0 : 0 < k
      · have hd0 : decide (0 < (k : Int)) = true := by simp; omega
        have q0c := HQ0.out _ HA.out
        go_wp2_with fail
        refine (gap_b HA.out.sty).mono ?_
        rintro e w21 ⟨⟨c1, rfl, hbc1, hc1⟩, haw⟩
        rw [bytesOf_length] at hc1
        have HA2 := Lib.hid (HA.out.trans haw)
        clear HA haw
        have HA := HA2
        clear HA2
        clear q0c
        have q0c := HQ0.out _ HA.out
        have e0c := HE0.out _ HA.out
        go_wp2_with fail
        refine (text_b name (by omega) HA.out.sty).mono ?_
        rintro e w31 ⟨⟨x, rfl, b, hx, hjb, hxl⟩, haw⟩
        have hxs : x.size ≤ 3602 := by rw [← bytesOf_length, hx]; simp only [List.length_append, List.length_cons, List.length_nil]; omega
        have HX := Lib.hid (And.intro hx hjb)
        clear hx hjb q0c e0c
        have HA2 := Lib.hid (HA.out.trans haw)
        clear HA haw
        have HA := HA2
        clear HA2
        go_wp2_with fail
        refine (gap_b HA.out.sty).mono ?_
        rintro e w22 ⟨⟨c2, rfl, hbc2, hc2⟩, haw⟩
        rw [bytesOf_length] at hc2
        have HA2 := Lib.hid (HA.out.trans haw)
        clear HA haw
        have HA := HA2
        clear HA2
        go_wp2_with fail
        refine (gap_b HA.out.sty).mono ?_
        rintro e w23 ⟨⟨c3, rfl, hbc3, hc3⟩, haw⟩
        rw [bytesOf_length] at hc3
        have HA2 := Lib.hid (HA.out.trans haw)
        clear HA haw
        have HA := HA2
        clear HA2
        go_wp2_with fail
        refine (gap_b HA.out.sty).mono ?_
        rintro e w24 ⟨⟨c4, rfl, hbc4, hc4⟩, haw⟩
        rw [bytesOf_length] at hc4
        have HA2 := Lib.hid (HA.out.trans haw)
        clear HA haw
        have HA := HA2
        clear HA2
        go_wp2_with fail
        refine ⟨⟨k + 1, _, by omega, by first | rfl | (congr 1; omega), rfl, ?_, ?_, HR.out.trans (HW.out.trans HA.out)⟩, by (try rw [wrap64_id _ (by omega) (by omega)]); simp [intOf] <;> omega⟩
        · have e44 : (ByteArray.mk #[44]).size = 1 := rfl
          have e58 : (ByteArray.mk #[58]).size = 1 := rfl
          have := HSS.out
          simp only [ByteArray.size_append, e44, e58]
          omega
        · show HeadSo _ _ _
          simp only [bytes_append]
          simp only [List.append_assoc]
          exact HH.out.more hk0 (by omega) _
      · obtain rfl : k = 0 := by omega
        have q0c := HQ0.out _ HA.out
        have e0c := HE0.out _ HA.out
        go_wp2_with fail
        refine (text_b name (by omega) HA.out.sty).mono ?_
        rintro e w31 ⟨⟨x, rfl, b, hx, hjb, hxl⟩, haw⟩
        have hxs : x.size ≤ 3602 := by rw [← bytesOf_length, hx]; simp only [List.length_append, List.length_cons, List.length_nil]; omega
        have HX := Lib.hid (And.intro hx hjb)
        clear hx hjb q0c e0c
        have HA2 := Lib.hid (HA.out.trans haw)
        clear HA haw
        have HA := HA2
        clear HA2
        go_wp2_with fail
        refine (gap_b HA.out.sty).mono ?_
        rintro e w25 ⟨⟨c2, rfl, hbc2, hc2⟩, haw⟩
        rw [bytesOf_length] at hc2
        have HA2 := Lib.hid (HA.out.trans haw)
        clear HA haw
        have HA := HA2
        clear HA2
        go_wp2_with fail
        refine (gap_b HA.out.sty).mono ?_
        rintro e w26 ⟨⟨c3, rfl, hbc3, hc3⟩, haw⟩
        rw [bytesOf_length] at hc3
        have HA2 := Lib.hid (HA.out.trans haw)
        clear HA haw
        have HA := HA2
        clear HA2
        go_wp2_with fail
        refine (gap_b HA.out.sty).mono ?_
        rintro e w27 ⟨⟨c4, rfl, hbc4, hc4⟩, haw⟩
        rw [bytesOf_length] at hc4
        have HA2 := Lib.hid (HA.out.trans haw)
        clear HA haw
        have HA := HA2
        clear HA2
        go_wp2_with fail
        refine ⟨⟨0 + 1, _, by omega, by first | rfl | (congr 1; omega), rfl, ?_, ?_, HR.out.trans (HW.out.trans HA.out)⟩, by (try rw [wrap64_id _ (by omega) (by omega)]); simp [intOf] <;> omega⟩
        · have e44 : (ByteArray.mk #[44]).size = 1 := rfl
          have e58 : (ByteArray.mk #[58]).size = 1 := rfl
          have := HSS.out
          simp only [ByteArray.size_append, e44, e58]
          omega
        · show HeadSo _ _ _
          simp only [bytes_append]
          obtain ⟨hx, hjb⟩ := HX.out
          have := HH.out.first b hjb (bytesOf c2 ++ bytesOf ⟨#[58]⟩ ++ bytesOf c3 ++ (bytesOf v ++ bytesOf c4))
          rw [hx]
          simpa [List.append_assoc] using this
    · have hd' : decide ((k : Int) < kids.length) = false := by simp; omega
      obtain rfl : k = kids.length := by omega
      go_wp2_with fail
      go_ret2
      refine ⟨⟨_, rfl, ?_, ?_⟩, HA1.out.trans HR.out⟩
      · rw [bytesOf_length, ByteArray.size_append]
        show u.size + 1 ≤ _
        omega
      · rw [bytes_append]
        exact HH.out.doc_end
set_option maxRecDepth 100000 in
set_option maxHeartbeats 4000000 in
theorem kids4_calls (text more : ByteArray) (n bits high : Int) (bA : Option Addr) (bl bc : Nat) {d : Nat} {bnd : VT → Nat} {w0 : World} {S : Nat} {cA : Option Addr} {cs : List Int} {cc : Nat} {kA : Option Addr} {kids : List (ByteArray × VT)} {kc : Nat} {w : World}
    (hs : Sty w0 S cA cs cc w) (hk : KidsOK d bnd w0 S cA cs cc kA kids kc) :
    Calls Tryz.prog 18 #[.pointer (some ⟨S, 0, none⟩), .agg #[.int .i64 4, .string text, .string more, .int .i64 n, .int .u64 bits, .int .u64 high, .slice bA bl bc, .slice kA kids.length kc]] w (ValAns (fun l => l.length ≤ 10 + sumTo bnd kids kids.length ∧ ArrHead l) w0 S cA cs cc w) := by
  have HS := Lib.hid hs
  have hlt := hs.size
  clear hs
  have hkl := hk.len
  have hkc := hk.le
  have HB := Lib.hid (sumTo_le bnd kids hk.bnd)
  have HK := Lib.hid hk
  clear hk
  go_enter Tryz.func18, Tryz.ntmps18
  go_wp2_with fail
  refine (gap_b (HS.out.alloc _).sty).mono ?_
  rintro e w1 ⟨⟨g0, rfl, hbg0, hg0⟩, ha⟩
  rw [bytesOf_length] at hg0
  have q0 : w1.cell? ⟨w.heap.size, 0, none⟩ = some (.int .i64 4) := (ha.keeps.cell (p := ⟨w.heap.size, 0, none⟩) (by simp) (by simp; omega)).trans (by simp [go_sem])
  have q7 : w1.cell? ⟨w.heap.size, 7, none⟩ = some (.slice kA kids.length kc) := (ha.keeps.cell (p := ⟨w.heap.size, 7, none⟩) (by simp) (by simp; omega)).trans (by simp [go_sem])
  have hbx : w.heap.size < w1.heap.size := by have := ha.keeps.size; simp at this; omega
  have HA1 := Lib.hid ((HS.out.alloc _).trans ha)
  clear ha
  go_wp2_with fail
  go_loopw [8, 9, 10, 11, 12, 23] (fun o i b t ok q wr => ∃ (k : Nat) (u : ByteArray), k ≤ kids.length ∧ q = .int .i64 k ∧ o = .string u ∧ u.size ≤ 3 + sumTo bnd kids k ∧ Hid (HeadSo false k (bytesOf u)) ∧ Hid (StyAfter w0 S cA cs cc w1 wr)) (fun _ _ _ _ _ q _ => kids.length - (intOf q).toNat)
  case atStart =>
    refine ⟨0, _, Nat.zero_le _, rfl, rfl, ?_, ?_, HA1.out.sty.self⟩
    · simp only [ByteArray.size_append]
      show 1 + g0.size ≤ _
      omega
    · show HeadSo _ _ _
      rw [bytes_append]
      exact ⟨bytesOf g0, rfl⟩
  case round =>
    obtain ⟨k, u, hk, rfl, rfl, hu, HH, HR⟩ := hrel
    have q0r : wr.cell? ⟨w.heap.size, 0, none⟩ = some (.int .i64 4) := (HR.out.keeps.cell (p := ⟨w.heap.size, 0, none⟩) hbx (by simp; omega)).trans q0
    have q7r : wr.cell? ⟨w.heap.size, 7, none⟩ = some (.slice kA kids.length kc) := (HR.out.keeps.cell (p := ⟨w.heap.size, 7, none⟩) hbx (by simp; omega)).trans q7
    have hbr : w.heap.size < wr.heap.size := Nat.lt_of_lt_of_le hbx HR.out.keeps.size
    have hsb := HB.out k hk
    have hu2 : u.size ≤ 400000000000 := by omega
    by_cases hlt2 : k < kids.length
    · have hd' : decide ((k : Int) < kids.length) = true := by simp; omega
      obtain ⟨ad, rfl, hkid⟩ := HK.out.lies (by omega)
      obtain ⟨p, name, t, hp, hkt, hn, ht, hpb, c0, c1, c2, c3, c4, c5, c6, c7, c8⟩ := VT.kid HR.out.sty.below hlt2 hkid
      have hnm : name.size ≤ 300 := by have := HK.out.names k hlt2; rw [hkt] at this; exact this
      have hv := HK.out.val k hlt2
      have hbk := HK.out.bnd k hlt2
      have hss := sumTo_succ bnd kids k hlt2
      rw [hkt] at hv hbk hss
      have HV := Lib.hid hv
      have HSS := Lib.hid hss
      clear hkid hkt hn ht hpb hv hss q0 q7
      go_wp2_with fail
      refine (HV.out _ (HR.out.sty.alloc _).sty).mono ?_
      rintro e w2 ⟨⟨v, rfl, hvl⟩, ha⟩
      rw [bytesOf_length] at hvl
      have hvl : v.size + 4000 ≤ bnd t := hvl
      have hbk : bnd t ≤ 1000000000 := hbk
      have hv2 : v.size ≤ 1000000000 := by omega
      have e0 : w2.cell? ⟨wr.heap.size, 0, none⟩ = some (.string name) := (ha.keeps.cell (p := ⟨wr.heap.size, 0, none⟩) (by simp) (by have := HR.out.sty.size; simp; omega)).trans (by simp [go_sem])
      have q0s : w2.cell? ⟨w.heap.size, 0, none⟩ = some (.int .i64 4) := (ha.keeps.cell (p := ⟨w.heap.size, 0, none⟩) (by simp; omega) (by simp; omega)).trans (by simp [go_sem, hbr, q0r])
      have hbe : wr.heap.size < w2.heap.size := by have := ha.keeps.size; simp at this; omega
      have HA := Lib.hid ((HR.out.sty.alloc _).trans ha)
      have hSr := HR.out.sty.size
      clear ha c0 c1 c2 c3 c4 c5 c6 c7 c8 q0r q7r
      have hap := @ByteArray.size_append
      have e0k : ∀ w', StyAfter w0 S cA cs cc w2 w' → w'.cell? ⟨wr.heap.size, 0, none⟩ = some (.string name) := fun w' h => (h.keeps.cell (p := ⟨wr.heap.size, 0, none⟩) hbe (by simp; omega)).trans e0
      have q0k : ∀ w', StyAfter w0 S cA cs cc w2 w' → w'.cell? ⟨w.heap.size, 0, none⟩ = some (.int .i64 4) := fun w' h => (h.keeps.cell (p := ⟨w.heap.size, 0, none⟩) (by show w.heap.size < _; omega) (by simp; omega)).trans q0s
      have HE0 := Lib.hid e0k
      have HQ0 := Lib.hid q0k
      clear e0k q0k e0 q0s
      have HW := Lib.hid HA.out
      obtain ⟨_, hself⟩ : ∃ x : Nat, StyAfter w0 S cA cs cc w2 w2 := ⟨0, ⟨HA.out.sty, Keeps.refl _ _ _⟩⟩
      clear HA
      have HA := Lib.hid hself
      clear hself
      by_cases hk0 : 0 < k
      · have hd0 : decide (0 < (k : Int)) = true := by simp; omega
        have q0c := HQ0.out _ HA.out
        go_wp2_with fail
        refine (gap_b HA.out.sty).mono ?_
        rintro e w28 ⟨⟨c1, rfl, hbc1, hc1⟩, haw⟩
        rw [bytesOf_length] at hc1
        have HA2 := Lib.hid (HA.out.trans haw)
        clear HA haw
        have HA := HA2
        clear HA2
        clear q0c
        have q0c := HQ0.out _ HA.out
        go_wp2_with fail
        refine (gap_b HA.out.sty).mono ?_
        rintro e w29 ⟨⟨c4, rfl, hbc4, hc4⟩, haw⟩
        rw [bytesOf_length] at hc4
        have HA2 := Lib.hid (HA.out.trans haw)
        clear HA haw
        have HA := HA2
        clear HA2
        go_wp2_with fail
        refine ⟨⟨k + 1, _, by omega, by first | rfl | (congr 1; omega), rfl, ?_, ?_, HR.out.trans (HW.out.trans HA.out)⟩, by (try rw [wrap64_id _ (by omega) (by omega)]); simp [intOf] <;> omega⟩
        · have e44 : (ByteArray.mk #[44]).size = 1 := rfl
          have e58 : (ByteArray.mk #[58]).size = 1 := rfl
          have := HSS.out
          simp only [ByteArray.size_append, e44, e58]
          omega
        · show HeadSo _ _ _
          simp only [bytes_append]
          (try simp only [List.append_assoc])
          exact HH.out.arr _ _
      · obtain rfl : k = 0 := by omega
        have q0c := HQ0.out _ HA.out
        go_wp2_with fail
        refine (gap_b HA.out.sty).mono ?_
        rintro e w30 ⟨⟨c4, rfl, hbc4, hc4⟩, haw⟩
        rw [bytesOf_length] at hc4
        have HA2 := Lib.hid (HA.out.trans haw)
        clear HA haw
        have HA := HA2
        clear HA2
        go_wp2_with fail
        refine ⟨⟨0 + 1, _, by omega, by first | rfl | (congr 1; omega), rfl, ?_, ?_, HR.out.trans (HW.out.trans HA.out)⟩, by (try rw [wrap64_id _ (by omega) (by omega)]); simp [intOf] <;> omega⟩
        · have e44 : (ByteArray.mk #[44]).size = 1 := rfl
          have e58 : (ByteArray.mk #[58]).size = 1 := rfl
          have := HSS.out
          simp only [ByteArray.size_append, e44, e58]
          omega
        · show HeadSo _ _ _
          simp only [bytes_append]
          (try simp only [List.append_assoc])
          exact HH.out.arr _ _
    · have hd' : decide ((k : Int) < kids.length) = false := by simp; omega
      obtain rfl : k = kids.length := by omega
      go_wp2_with fail
      go_ret2
      refine ⟨⟨_, rfl, ?_, ?_⟩, HA1.out.trans HR.out⟩
      · rw [bytesOf_length, ByteArray.size_append]
        show u.size + 1 ≤ _
        omega
      · rw [bytes_append]
        exact HH.out.arr 0 _
end Go.Proofs.YtlgmlfhalgnppaaGreatDoor
/-! spec.extStyle.value of the kinds with kids. -/
set_option linter.unusedSimpArgs false
set_option linter.unusedVariables false
namespace Go.Proofs.YtlgmlfhalgnppaaGreatDoor
open Go.RowKit
open Go.Proofs.YtlgmlfhalgnppaaGreatDoorW.PrintWords hiding bt bt_at bt_range
set_option maxRecDepth 100000 in
set_option maxHeartbeats 4000000 in
theorem val3_calls {w0 : World} {S : Nat} {cA : Option Addr} {cs : List Int} {cc : Nat} {w : World} (hs : Sty w0 S cA cs cc w) (E : Env w0) (text more : ByteArray) (n bits high : Int) (bA kA : Option Addr) (bs : List Int) (bc kc : Nat) (ht : text.size ≤ 300) (hm : more.size ≤ 300) (n0 : -9223372036854775808 ≤ n) (n1 : n ≤ 9223372036854775807) (b0 : 0 ≤ bits) (b1 : bits < 18446744073709551616) (g0 : 0 ≤ high) (g1 : high < 18446744073709551616) (hbs : bs.length ≤ 300) (hbr : ∀ x ∈ bs, 0 ≤ x ∧ x ≤ 255) (hbR : ReadsInt w0 .u8 bA bs.length bs) {d : Nat} {bnd : VT → Nat} {kids : List (ByteArray × VT)} (hkids : KidsOK d bnd w0 S cA cs cc kA kids kc) :
    Calls Tryz.prog 10 #[.pointer (some ⟨S, 0, none⟩), .agg #[.int .i64 3, .string text, .string more, .int .i64 n, .int .u64 bits, .int .u64 high, .slice bA bs.length bc, .slice kA kids.length kc]] w (ValAns (fun l => l.length ≤ 10 + sumTo bnd kids kids.length ∧ DocHead l) w0 S cA cs cc w) := by
  have HK := Lib.hid hkids
  have hsl := sumTo_le bnd kids hkids.bnd kids.length (Nat.le_refl _)
  have hkl := hkids.len
  clear hkids
  have HS := Lib.hid hs
  have c3 := (hs.alloc (.cells #[.int .i64 3, .string text, .string more, .int .i64 n, .int .u64 bits, .int .u64 high, .slice bA bs.length bc, .slice kA kids.length kc] 26)).sty.c3
  have hlt := hs.size
  clear hs
  have HE := Lib.hid E
  clear E
  have HR := Lib.hid hbR
  clear hbR
  have HBR := Lib.hid hbr
  clear hbr
  go_enter Tryz.func10, Tryz.ntmps10
  go_wp2_with fail
  refine (next_calls 2 (by omega) (by omega) (HS.out.alloc _).sty).mono ?_
  rintro e w1 ⟨r, rfl, hr, ha⟩
  have q0 : w1.cell? ⟨w.heap.size, 0, none⟩ = some (Value.int .i64 3) := (ha.keeps.cell (p := ⟨w.heap.size, 0, none⟩) (by simp) (by simp; omega)).trans (by simp [go_sem])
  have q1 : w1.cell? ⟨w.heap.size, 1, none⟩ = some (Value.string text) := (ha.keeps.cell (p := ⟨w.heap.size, 1, none⟩) (by simp) (by simp; omega)).trans (by simp [go_sem])
  have q2 : w1.cell? ⟨w.heap.size, 2, none⟩ = some (Value.string more) := (ha.keeps.cell (p := ⟨w.heap.size, 2, none⟩) (by simp) (by simp; omega)).trans (by simp [go_sem])
  have q3 : w1.cell? ⟨w.heap.size, 3, none⟩ = some (Value.int .i64 n) := (ha.keeps.cell (p := ⟨w.heap.size, 3, none⟩) (by simp) (by simp; omega)).trans (by simp [go_sem])
  have q4 : w1.cell? ⟨w.heap.size, 4, none⟩ = some (Value.int .u64 bits) := (ha.keeps.cell (p := ⟨w.heap.size, 4, none⟩) (by simp) (by simp; omega)).trans (by simp [go_sem])
  have q5 : w1.cell? ⟨w.heap.size, 5, none⟩ = some (Value.int .u64 high) := (ha.keeps.cell (p := ⟨w.heap.size, 5, none⟩) (by simp) (by simp; omega)).trans (by simp [go_sem])
  have q6 : w1.cell? ⟨w.heap.size, 6, none⟩ = some (Value.slice bA bs.length bc) := (ha.keeps.cell (p := ⟨w.heap.size, 6, none⟩) (by simp) (by simp; omega)).trans (by simp [go_sem])
  have q7 : w1.cell? ⟨w.heap.size, 7, none⟩ = some (Value.slice kA kids.length kc) := (ha.keeps.cell (p := ⟨w.heap.size, 7, none⟩) (by simp) (by simp; omega)).trans (by simp [go_sem])
  have hbx : w.heap.size < w1.heap.size := by have := ha.keeps.size; simp at this; omega
  have HA := Lib.hid ((HS.out.alloc _).trans ha)
  clear ha c3
  have hr8 : r = 0 ∨ r = 1 := by omega
  clear hr
  rcases hr8 with rfl | rfl
  all_goals
    go_wp2_with fail
    refine (kids3_calls text more n bits high bA bs.length bc HA.out.sty HK.out).mono ?_
    rintro e w30 ⟨⟨u, rfl, hu⟩, haw⟩
    have HA2 := Lib.hid (HA.out.trans haw)
    clear HA haw
    have HA := HA2
    clear HA2
    go_wp2
    go_ret2
    exact ⟨⟨_, rfl, hu⟩, HA.out⟩
set_option maxRecDepth 100000 in
set_option maxHeartbeats 4000000 in
theorem val4_calls {w0 : World} {S : Nat} {cA : Option Addr} {cs : List Int} {cc : Nat} {w : World} (hs : Sty w0 S cA cs cc w) (E : Env w0) (text more : ByteArray) (n bits high : Int) (bA kA : Option Addr) (bs : List Int) (bc kc : Nat) (ht : text.size ≤ 300) (hm : more.size ≤ 300) (n0 : -9223372036854775808 ≤ n) (n1 : n ≤ 9223372036854775807) (b0 : 0 ≤ bits) (b1 : bits < 18446744073709551616) (g0 : 0 ≤ high) (g1 : high < 18446744073709551616) (hbs : bs.length ≤ 300) (hbr : ∀ x ∈ bs, 0 ≤ x ∧ x ≤ 255) (hbR : ReadsInt w0 .u8 bA bs.length bs) {d : Nat} {bnd : VT → Nat} {kids : List (ByteArray × VT)} (hkids : KidsOK d bnd w0 S cA cs cc kA kids kc) :
    Calls Tryz.prog 10 #[.pointer (some ⟨S, 0, none⟩), .agg #[.int .i64 4, .string text, .string more, .int .i64 n, .int .u64 bits, .int .u64 high, .slice bA bs.length bc, .slice kA kids.length kc]] w (ValAns (fun l => l.length ≤ 10 + sumTo bnd kids kids.length ∧ ArrHead l) w0 S cA cs cc w) := by
  have HK := Lib.hid hkids
  have hsl := sumTo_le bnd kids hkids.bnd kids.length (Nat.le_refl _)
  have hkl := hkids.len
  clear hkids
  have HS := Lib.hid hs
  have c3 := (hs.alloc (.cells #[.int .i64 4, .string text, .string more, .int .i64 n, .int .u64 bits, .int .u64 high, .slice bA bs.length bc, .slice kA kids.length kc] 26)).sty.c3
  have hlt := hs.size
  clear hs
  have HE := Lib.hid E
  clear E
  have HR := Lib.hid hbR
  clear hbR
  have HBR := Lib.hid hbr
  clear hbr
  go_enter Tryz.func10, Tryz.ntmps10
  go_wp2_with fail
  refine (next_calls 2 (by omega) (by omega) (HS.out.alloc _).sty).mono ?_
  rintro e w1 ⟨r, rfl, hr, ha⟩
  have q0 : w1.cell? ⟨w.heap.size, 0, none⟩ = some (Value.int .i64 4) := (ha.keeps.cell (p := ⟨w.heap.size, 0, none⟩) (by simp) (by simp; omega)).trans (by simp [go_sem])
  have q1 : w1.cell? ⟨w.heap.size, 1, none⟩ = some (Value.string text) := (ha.keeps.cell (p := ⟨w.heap.size, 1, none⟩) (by simp) (by simp; omega)).trans (by simp [go_sem])
  have q2 : w1.cell? ⟨w.heap.size, 2, none⟩ = some (Value.string more) := (ha.keeps.cell (p := ⟨w.heap.size, 2, none⟩) (by simp) (by simp; omega)).trans (by simp [go_sem])
  have q3 : w1.cell? ⟨w.heap.size, 3, none⟩ = some (Value.int .i64 n) := (ha.keeps.cell (p := ⟨w.heap.size, 3, none⟩) (by simp) (by simp; omega)).trans (by simp [go_sem])
  have q4 : w1.cell? ⟨w.heap.size, 4, none⟩ = some (Value.int .u64 bits) := (ha.keeps.cell (p := ⟨w.heap.size, 4, none⟩) (by simp) (by simp; omega)).trans (by simp [go_sem])
  have q5 : w1.cell? ⟨w.heap.size, 5, none⟩ = some (Value.int .u64 high) := (ha.keeps.cell (p := ⟨w.heap.size, 5, none⟩) (by simp) (by simp; omega)).trans (by simp [go_sem])
  have q6 : w1.cell? ⟨w.heap.size, 6, none⟩ = some (Value.slice bA bs.length bc) := (ha.keeps.cell (p := ⟨w.heap.size, 6, none⟩) (by simp) (by simp; omega)).trans (by simp [go_sem])
  have q7 : w1.cell? ⟨w.heap.size, 7, none⟩ = some (Value.slice kA kids.length kc) := (ha.keeps.cell (p := ⟨w.heap.size, 7, none⟩) (by simp) (by simp; omega)).trans (by simp [go_sem])
  have hbx : w.heap.size < w1.heap.size := by have := ha.keeps.size; simp at this; omega
  have HA := Lib.hid ((HS.out.alloc _).trans ha)
  clear ha c3
  have hr8 : r = 0 ∨ r = 1 := by omega
  clear hr
  rcases hr8 with rfl | rfl
  all_goals
    go_wp2_with fail
    refine (kids4_calls text more n bits high bA bs.length bc HA.out.sty HK.out).mono ?_
    rintro e w30 ⟨⟨u, rfl, hu⟩, haw⟩
    have HA2 := Lib.hid (HA.out.trans haw)
    clear HA haw
    have HA := HA2
    clear HA2
    go_wp2
    go_ret2
    exact ⟨⟨_, rfl, hu⟩, HA.out⟩
set_option maxRecDepth 100000 in
set_option maxHeartbeats 4000000 in
theorem val15_calls {w0 : World} {S : Nat} {cA : Option Addr} {cs : List Int} {cc : Nat} {w : World} (hs : Sty w0 S cA cs cc w) (E : Env w0) (text more : ByteArray) (n bits high : Int) (bA kA : Option Addr) (bs : List Int) (bc kc : Nat) (ht : text.size ≤ 300) (hm : more.size ≤ 300) (n0 : -9223372036854775808 ≤ n) (n1 : n ≤ 9223372036854775807) (b0 : 0 ≤ bits) (b1 : bits < 18446744073709551616) (g0 : 0 ≤ high) (g1 : high < 18446744073709551616) (hbs : bs.length ≤ 300) (hbr : ∀ x ∈ bs, 0 ≤ x ∧ x ≤ 255) (hbR : ReadsInt w0 .u8 bA bs.length bs) {d : Nat} {bnd : VT → Nat} {kids : List (ByteArray × VT)} (hkids : KidsOK d bnd w0 S cA cs cc kA kids kc) :
    Calls Tryz.prog 10 #[.pointer (some ⟨S, 0, none⟩), .agg #[.int .i64 15, .string text, .string more, .int .i64 n, .int .u64 bits, .int .u64 high, .slice bA bs.length bc, .slice kA kids.length kc]] w (ValAns (fun l => l.length ≤ 4000 + sumTo bnd kids kids.length) w0 S cA cs cc w) := by
  have HK := Lib.hid hkids
  have hsl := sumTo_le bnd kids hkids.bnd kids.length (Nat.le_refl _)
  have hkl := hkids.len
  clear hkids
  have HS := Lib.hid hs
  have c3 := (hs.alloc (.cells #[.int .i64 15, .string text, .string more, .int .i64 n, .int .u64 bits, .int .u64 high, .slice bA bs.length bc, .slice kA kids.length kc] 26)).sty.c3
  have hlt := hs.size
  clear hs
  have HE := Lib.hid E
  clear E
  have HR := Lib.hid hbR
  clear hbR
  have HBR := Lib.hid hbr
  clear hbr
  go_enter Tryz.func10, Tryz.ntmps10
  go_wp2_with fail
  refine (next_calls 2 (by omega) (by omega) (HS.out.alloc _).sty).mono ?_
  rintro e w1 ⟨r, rfl, hr, ha⟩
  have q0 : w1.cell? ⟨w.heap.size, 0, none⟩ = some (Value.int .i64 15) := (ha.keeps.cell (p := ⟨w.heap.size, 0, none⟩) (by simp) (by simp; omega)).trans (by simp [go_sem])
  have q1 : w1.cell? ⟨w.heap.size, 1, none⟩ = some (Value.string text) := (ha.keeps.cell (p := ⟨w.heap.size, 1, none⟩) (by simp) (by simp; omega)).trans (by simp [go_sem])
  have q2 : w1.cell? ⟨w.heap.size, 2, none⟩ = some (Value.string more) := (ha.keeps.cell (p := ⟨w.heap.size, 2, none⟩) (by simp) (by simp; omega)).trans (by simp [go_sem])
  have q3 : w1.cell? ⟨w.heap.size, 3, none⟩ = some (Value.int .i64 n) := (ha.keeps.cell (p := ⟨w.heap.size, 3, none⟩) (by simp) (by simp; omega)).trans (by simp [go_sem])
  have q4 : w1.cell? ⟨w.heap.size, 4, none⟩ = some (Value.int .u64 bits) := (ha.keeps.cell (p := ⟨w.heap.size, 4, none⟩) (by simp) (by simp; omega)).trans (by simp [go_sem])
  have q5 : w1.cell? ⟨w.heap.size, 5, none⟩ = some (Value.int .u64 high) := (ha.keeps.cell (p := ⟨w.heap.size, 5, none⟩) (by simp) (by simp; omega)).trans (by simp [go_sem])
  have q6 : w1.cell? ⟨w.heap.size, 6, none⟩ = some (Value.slice bA bs.length bc) := (ha.keeps.cell (p := ⟨w.heap.size, 6, none⟩) (by simp) (by simp; omega)).trans (by simp [go_sem])
  have q7 : w1.cell? ⟨w.heap.size, 7, none⟩ = some (Value.slice kA kids.length kc) := (ha.keeps.cell (p := ⟨w.heap.size, 7, none⟩) (by simp) (by simp; omega)).trans (by simp [go_sem])
  have hbx : w.heap.size < w1.heap.size := by have := ha.keeps.size; simp at this; omega
  have HA := Lib.hid ((HS.out.alloc _).trans ha)
  clear ha c3
  have hr8 : r = 0 ∨ r = 1 := by omega
  clear hr
  rcases hr8 with rfl | rfl
  all_goals
    go_wp2_with fail
    refine (kids3_calls ⟨#[]⟩ ⟨#[]⟩ 0 0 0 none 0 0 HA.out.sty HK.out).mono ?_
    rintro e w30 ⟨⟨u, rfl, hu, _⟩, haw⟩
    rw [bytesOf_length] at hu
    have q1b := (haw.keeps.cell (p := ⟨w.heap.size, 1, none⟩) hbx (by simp; omega)).trans q1
    have HA2 := Lib.hid (HA.out.trans haw)
    clear HA haw
    have HA := HA2
    clear HA2
    go_wp2_with fail
    refine (text_n text ht HA.out.sty).mono ?_
    rintro e w11 ⟨⟨u1, rfl, hu1⟩, haw⟩
    have HA2 := Lib.hid (HA.out.trans haw)
    clear HA haw
    have HA := HA2
    clear HA2
    go_wp2_with fail
    refine (obj2 ⟨#[36, 99, 111, 100, 101]⟩ u1 ⟨#[36, 115, 99, 111, 112, 101]⟩ u 3607 (16 + sumTo bnd kids kids.length) (by omega) (by omega) (by show 5 + u1.size ≤ _; omega) (by show 6 + u.size ≤ _; omega) HA.out.sty).mono ?_
    rintro e w12 ⟨⟨u2, rfl, hu2⟩, haw⟩
    have HA2 := Lib.hid (HA.out.trans haw)
    clear HA haw
    have HA := HA2
    clear HA2
    go_wp2
    go_ret2
    exact ⟨⟨_, rfl, by rw [bytesOf_length]; omega⟩, HA.out⟩
end Go.Proofs.YtlgmlfhalgnppaaGreatDoor
/-! spec.extStyle.value, spec.ExtStyled. -/
set_option linter.unusedSimpArgs false
set_option linter.unusedVariables false
namespace Go.Proofs.YtlgmlfhalgnppaaGreatDoor
open Go.RowKit
open Go.Proofs.YtlgmlfhalgnppaaGreatDoorW.PrintWords hiding bt bt_at bt_range
/-- The letters rise. -/
def Rises (s : ByteArray) : Prop := ∀ k, 0 < k → k < s.size → rd (bytesOf s) ((k - 1 : Nat) : Int) ≤ rd (bytesOf s) (k : Int)
/-- What extCounts tells: the lengths, so many levels deep and no deeper. -/
def VT.Fit : Nat → VT → Prop
  | 0, _ => False
  | e + 1, t => t.text.size ≤ 300 ∧ t.more.size ≤ 300 ∧ t.bs.length ≤ 300 ∧ (t.kind = 11 → Rises t.more) ∧ t.kids.length ≤ 300 ∧ ∀ i (h : i < t.kids.length), t.kids[i].1.size ≤ 300 ∧ Fit e t.kids[i].2
theorem VT.Fit.few : ∀ (e : Nat) (t : VT), t.Fit e → t.Few e := by
  intro e
  induction e with
  | zero => intro t h; exact h
  | succ e ih => intro t h; obtain ⟨_, _, _, _, h5, h6⟩ := h; exact ⟨h5, fun i hi => ih _ (h6 i hi).2⟩
theorem VT.In.less {w : World} : ∀ (d : Nat) (t : VT), t.In w (d + 1) → t.In w d := by
  intro d
  induction d with
  | zero => intro t _; trivial
  | succ d ih =>
    intro t h
    obtain ⟨h1, h2, h3, h4, h5, h6, h7, h8, h9, h10, h11, h12⟩ := h
    refine ⟨h1, h2, h3, h4, h5, h6, h7, h8, h9, h10, h11, fun hk => ?_⟩
    obtain ⟨ad, ha, hc⟩ := h12 hk
    refine ⟨ad, ha, fun i hi => ?_⟩
    obtain ⟨c1, c2, c3, c4⟩ := hc i hi
    exact ⟨c1, c2, c3, ih _ c4⟩
theorem VT.In.le {w : World} {d e : Nat} {t : VT} (h : t.In w d) (he : e ≤ d) : t.In w e := by
  induction d with
  | zero => obtain rfl : e = 0 := by omega
            exact h
  | succ d ih =>
    by_cases hh : e = d + 1
    · subst hh; exact h
    · exact ih h.less (by omega)
theorem sum_take_all (bnd : VT → Nat) (kids : List (ByteArray × VT)) : sumTo bnd kids kids.length = (kids.map fun x => bnd x.2).sum := by
  unfold sumTo
  rw [List.take_length]
theorem sum_mul (c : Nat) (f : VT → Nat) : ∀ kids : List (ByteArray × VT), (kids.map fun x => c * f x.2).sum = c * (kids.map fun x => f x.2).sum
  | [] => by simp
  | x :: l => by
    simp only [List.map_cons, List.sum_cons]
    rw [sum_mul c f l, Nat.mul_add]
theorem le_sum (f : VT → Nat) : ∀ (kids : List (ByteArray × VT)) (i : Nat) (h : i < kids.length), f kids[i].2 ≤ (kids.map fun x => f x.2).sum
  | x :: l, 0, _ => by simp
  | x :: l, i + 1, h => by
    have := le_sum f l i (by simpa using h)
    simp only [List.map_cons, List.sum_cons, List.getElem_cons_succ]
    omega
theorem known_cases {k : Int} (h : knownF k = true) : k = 1 ∨ k = 2 ∨ k = 3 ∨ k = 4 ∨ k = 5 ∨ k = 6 ∨ k = 7 ∨ k = 8 ∨ k = 9 ∨ k = 10 ∨ k = 11 ∨ k = 12 ∨ k = 13 ∨ k = 14 ∨ k = 15 ∨ k = 16 ∨ k = 17 ∨ k = 18 ∨ k = 19 ∨ k = 255 ∨ k = 127 := by
  simp only [knownF, Bool.or_eq_true, decide_eq_true_eq, beq_iff_eq] at h
  omega
/-- What a value's text begins with. -/
def ValHead (t : VT) (l : List Int) : Prop := (t.kind = 3 → DocHead l) ∧ (t.kind = 4 → ArrHead l)
theorem ValAns.weak {P Q : List Int → Prop} {w0 : World} {S : Nat} {cA : Option Addr} {cs : List Int} {cc : Nat} {w : World} {e : Ending} {w' : World} (h : ValAns P w0 S cA cs cc w e w') (hq : ∀ l, P l → Q l) : ValAns Q w0 S cA cs cc w e w' :=
  ⟨by obtain ⟨u, he, hp⟩ := h.out; exact ⟨u, he, hq _ hp⟩, h.after⟩
set_option maxRecDepth 100000 in
theorem value_calls : ∀ (e k : Nat) (t : VT) (w0 w : World) (S : Nat) (cA : Option Addr) (cs : List Int) (cc : Nat), t.In w0 e → t.Fit e → Known k t → t.cnt e ≤ 400 → Env w0 → Sty w0 S cA cs cc w →
    Calls Tryz.prog 10 #[.pointer (some ⟨S, 0, none⟩), t.val] w (ValAns (fun l => l.length + 4000 ≤ 64000 * t.cnt e ∧ ValHead t l) w0 S cA cs cc w) := by
  intro e
  induction e with
  | zero => intro k t w0 w S cA cs cc _ hf; exact hf.elim
  | succ e ih =>
    intro k t w0 w S cA cs cc hin hfit hkn hcnt hE hs
    obtain _ | k := k
    · exact hkn.elim
    obtain ⟨hk1, hk2⟩ := hkn
    obtain ⟨kind, text, more, n, bits, high, bA, bs, bc, kA, kids, kc⟩ := t
    simp only [VT.In, VT.Fit, VT.cnt, VT.val, VT.kind, VT.text, VT.more, VT.n, VT.bits, VT.high, VT.bA, VT.bs, VT.bc, VT.kA, VT.kids, VT.kc] at hin hfit hk1 hk2 hcnt ⊢
    obtain ⟨h1, h2, h3, h4, h5, h6, h7, h8, h9, h10, h11, h12⟩ := hin
    obtain ⟨f1, f2, f3, f4, f5, f6⟩ := hfit
    have hK : (kind = 3 ∨ kind = 4 ∨ kind = 15) → KidsOK e (fun x => 64000 * x.cnt e) w0 S cA cs cc kA kids kc := fun hkk => {
      len := f5
      le := h10
      cap := h11
      lies := h12
      names := fun i hi => (f6 i hi).1
      bnd := fun i hi => by have := le_sum (VT.cnt e) kids i hi; omega
      val := fun i hi w' hs' => (ih k kids[i].2 w0 w' S cA cs cc (by obtain ⟨ad, _, hc⟩ := h12 (by omega); exact (hc i hi).2.2.2) (f6 i hi).2 (hk2 hkk i hi) (by have := le_sum (VT.cnt e) kids i hi; omega) hE hs').mono fun e' w'' hv => hv.weak (fun l hl => hl.1) }
    have hsum : sumTo (fun x => 64000 * x.cnt e) kids kids.length = 64000 * (kids.map fun x => x.2.cnt e).sum := by rw [sum_take_all]; exact sum_mul 64000 (VT.cnt e) kids
    have hbig : ∀ l : List Int, l.length ≤ 60000 → l.length + 4000 ≤ 64000 * (1 + (kids.map fun x => x.2.cnt e).sum) := fun l hl => by omega
    rcases known_cases hk1 with rfl | rfl | rfl | rfl | rfl | rfl | rfl | rfl | rfl | rfl | rfl | rfl | rfl | rfl | rfl | rfl | rfl | rfl | rfl | rfl | rfl
    · exact (val1_calls hs hE text more n bits high bA kA bs bc kids.length kc f1 f2 h2.1 h2.2 h3.1 h3.2 h4.1 h4.2 f3 h9 h7).mono fun e' w' hv => hv.weak (fun l hl => ⟨hbig l hl, fun h => absurd (show (1 : Int) = 3 from h) (by decide), fun h => absurd (show (1 : Int) = 4 from h) (by decide)⟩)
    · exact (val2_calls hs hE text more n bits high bA kA bs bc kids.length kc f1 f2 h2.1 h2.2 h3.1 h3.2 h4.1 h4.2 f3 h9 h7).mono fun e' w' hv => hv.weak (fun l hl => ⟨hbig l hl, fun h => absurd (show (2 : Int) = 3 from h) (by decide), fun h => absurd (show (2 : Int) = 4 from h) (by decide)⟩)
    · exact (val3_calls hs hE text more n bits high bA kA bs bc kc f1 f2 h2.1 h2.2 h3.1 h3.2 h4.1 h4.2 f3 h9 h7 (hK (by decide))).mono fun e' w' hv => hv.weak (fun l hl => ⟨by have h1 := hl.1; rw [hsum] at h1; omega, fun _ => hl.2, fun h => absurd (show (3 : Int) = 4 from h) (by decide)⟩)
    · exact (val4_calls hs hE text more n bits high bA kA bs bc kc f1 f2 h2.1 h2.2 h3.1 h3.2 h4.1 h4.2 f3 h9 h7 (hK (by decide))).mono fun e' w' hv => hv.weak (fun l hl => ⟨by have h1 := hl.1; rw [hsum] at h1; omega, fun h => absurd (show (4 : Int) = 3 from h) (by decide), fun _ => hl.2⟩)
    · exact (val5_calls hs hE text more n bits high bA kA bs bc kids.length kc f1 f2 h2.1 h2.2 h3.1 h3.2 h4.1 h4.2 f3 h9 h7).mono fun e' w' hv => hv.weak (fun l hl => ⟨hbig l hl, fun h => absurd (show (5 : Int) = 3 from h) (by decide), fun h => absurd (show (5 : Int) = 4 from h) (by decide)⟩)
    · exact (val6_calls hs hE text more n bits high bA kA bs bc kids.length kc f1 f2 h2.1 h2.2 h3.1 h3.2 h4.1 h4.2 f3 h9 h7).mono fun e' w' hv => hv.weak (fun l hl => ⟨hbig l hl, fun h => absurd (show (6 : Int) = 3 from h) (by decide), fun h => absurd (show (6 : Int) = 4 from h) (by decide)⟩)
    · exact (val7_calls hs hE text more n bits high bA kA bs bc kids.length kc f1 f2 h2.1 h2.2 h3.1 h3.2 h4.1 h4.2 f3 h9 h7).mono fun e' w' hv => hv.weak (fun l hl => ⟨hbig l hl, fun h => absurd (show (7 : Int) = 3 from h) (by decide), fun h => absurd (show (7 : Int) = 4 from h) (by decide)⟩)
    · exact (val8_calls hs hE text more n bits high bA kA bs bc kids.length kc f1 f2 h2.1 h2.2 h3.1 h3.2 h4.1 h4.2 f3 h9 h7).mono fun e' w' hv => hv.weak (fun l hl => ⟨hbig l hl, fun h => absurd (show (8 : Int) = 3 from h) (by decide), fun h => absurd (show (8 : Int) = 4 from h) (by decide)⟩)
    · exact (val9_calls hs hE text more n bits high bA kA bs bc kids.length kc f1 f2 h2.1 h2.2 h3.1 h3.2 h4.1 h4.2 f3 h9 h7).mono fun e' w' hv => hv.weak (fun l hl => ⟨hbig l hl, fun h => absurd (show (9 : Int) = 3 from h) (by decide), fun h => absurd (show (9 : Int) = 4 from h) (by decide)⟩)
    · exact (val10_calls hs hE text more n bits high bA kA bs bc kids.length kc f1 f2 h2.1 h2.2 h3.1 h3.2 h4.1 h4.2 f3 h9 h7).mono fun e' w' hv => hv.weak (fun l hl => ⟨hbig l hl, fun h => absurd (show (10 : Int) = 3 from h) (by decide), fun h => absurd (show (10 : Int) = 4 from h) (by decide)⟩)
    · exact (val11_calls hs hE text more n bits high bA kA bs bc kids.length kc f1 f2 h2.1 h2.2 h3.1 h3.2 h4.1 h4.2 f3 h9 h7 (f4 rfl)).mono fun e' w' hv => hv.weak (fun l hl => ⟨hbig l hl, fun h => absurd (show (11 : Int) = 3 from h) (by decide), fun h => absurd (show (11 : Int) = 4 from h) (by decide)⟩)
    · exact (val12_calls hs hE text more n bits high bA kA bs bc kids.length kc f1 f2 h2.1 h2.2 h3.1 h3.2 h4.1 h4.2 f3 h9 h7).mono fun e' w' hv => hv.weak (fun l hl => ⟨hbig l hl, fun h => absurd (show (12 : Int) = 3 from h) (by decide), fun h => absurd (show (12 : Int) = 4 from h) (by decide)⟩)
    · exact (val13_calls hs hE text more n bits high bA kA bs bc kids.length kc f1 f2 h2.1 h2.2 h3.1 h3.2 h4.1 h4.2 f3 h9 h7).mono fun e' w' hv => hv.weak (fun l hl => ⟨hbig l hl, fun h => absurd (show (13 : Int) = 3 from h) (by decide), fun h => absurd (show (13 : Int) = 4 from h) (by decide)⟩)
    · exact (val14_calls hs hE text more n bits high bA kA bs bc kids.length kc f1 f2 h2.1 h2.2 h3.1 h3.2 h4.1 h4.2 f3 h9 h7).mono fun e' w' hv => hv.weak (fun l hl => ⟨hbig l hl, fun h => absurd (show (14 : Int) = 3 from h) (by decide), fun h => absurd (show (14 : Int) = 4 from h) (by decide)⟩)
    · exact (val15_calls hs hE text more n bits high bA kA bs bc kc f1 f2 h2.1 h2.2 h3.1 h3.2 h4.1 h4.2 f3 h9 h7 (hK (by decide))).mono fun e' w' hv => hv.weak (fun l hl => ⟨by rw [hsum] at hl; omega, fun h => absurd (show (15 : Int) = 3 from h) (by decide), fun h => absurd (show (15 : Int) = 4 from h) (by decide)⟩)
    · exact (val16_calls hs hE text more n bits high bA kA bs bc kids.length kc f1 f2 h2.1 h2.2 h3.1 h3.2 h4.1 h4.2 f3 h9 h7).mono fun e' w' hv => hv.weak (fun l hl => ⟨hbig l hl, fun h => absurd (show (16 : Int) = 3 from h) (by decide), fun h => absurd (show (16 : Int) = 4 from h) (by decide)⟩)
    · exact (val17_calls hs hE text more n bits high bA kA bs bc kids.length kc f1 f2 h2.1 h2.2 h3.1 h3.2 h4.1 h4.2 f3 h9 h7).mono fun e' w' hv => hv.weak (fun l hl => ⟨hbig l hl, fun h => absurd (show (17 : Int) = 3 from h) (by decide), fun h => absurd (show (17 : Int) = 4 from h) (by decide)⟩)
    · exact (val18_calls hs hE text more n bits high bA kA bs bc kids.length kc f1 f2 h2.1 h2.2 h3.1 h3.2 h4.1 h4.2 f3 h9 h7).mono fun e' w' hv => hv.weak (fun l hl => ⟨hbig l hl, fun h => absurd (show (18 : Int) = 3 from h) (by decide), fun h => absurd (show (18 : Int) = 4 from h) (by decide)⟩)
    · exact (val19_calls hs hE text more n bits high bA kA bs bc kids.length kc f1 f2 h2.1 h2.2 h3.1 h3.2 h4.1 h4.2 f3 h9 h7).mono fun e' w' hv => hv.weak (fun l hl => ⟨hbig l hl, fun h => absurd (show (19 : Int) = 3 from h) (by decide), fun h => absurd (show (19 : Int) = 4 from h) (by decide)⟩)
    · exact (val255_calls hs hE text more n bits high bA kA bs bc kids.length kc f1 f2 h2.1 h2.2 h3.1 h3.2 h4.1 h4.2 f3 h9 h7).mono fun e' w' hv => hv.weak (fun l hl => ⟨hbig l hl, fun h => absurd (show (255 : Int) = 3 from h) (by decide), fun h => absurd (show (255 : Int) = 4 from h) (by decide)⟩)
    · exact (val127_calls hs hE text more n bits high bA kA bs bc kids.length kc f1 f2 h2.1 h2.2 h3.1 h3.2 h4.1 h4.2 f3 h9 h7).mono fun e' w' hv => hv.weak (fun l hl => ⟨hbig l hl, fun h => absurd (show (127 : Int) = 3 from h) (by decide), fun h => absurd (show (127 : Int) = 4 from h) (by decide)⟩)
/-- What ExtStyled leaves: a text and true; blanks ahead of what it is. -/
structure StyledAns (t : VT) (w : World) (e : Ending) (w' : World) : Prop where
  out : ∃ u g r, e = .returned (.tuple #[.string u, .bool true]) ∧ bytesOf u = g ++ r ∧ Bl g ∧ ValHead t r ∧ u.size ≤ 30000000
  below : Below w.heap.size w w'
theorem DocHead.more {l : List Int} (h : DocHead l) (m : List Int) : DocHead (l ++ m) := by
  obtain ⟨g, r, rfl, hg, ⟨r', rfl⟩ | ⟨b, r', rfl, hb⟩⟩ := h
  · exact ⟨g, 125 :: (r' ++ m), by simp, hg, Or.inl ⟨_, rfl⟩⟩
  · exact ⟨g, 34 :: (b ++ 34 :: (r' ++ m)), by simp, hg, Or.inr ⟨b, r' ++ m, rfl, hb⟩⟩
theorem ArrHead.more {l : List Int} (h : ArrHead l) (m : List Int) : ArrHead (l ++ m) := by
  obtain ⟨r, rfl⟩ := h
  exact ⟨r ++ m, rfl⟩
theorem ValHead.more {t : VT} {l : List Int} (h : ValHead t l) (m : List Int) : ValHead t (l ++ m) := ⟨fun k => (h.1 k).more m, fun k => (h.2 k).more m⟩
set_option maxRecDepth 100000 in
theorem ExtStyled_calls (e k : Nat) (t : VT) (w : World) (cA : Option Addr) (cs : List Int) (cc : Nat) (hin : t.In w e) (hfit : t.Fit e) (hkn : Known k t) (hcnt : t.cnt e ≤ 400) (hE : Env w)
    (hc : ReadsInt w .u8 cA cs.length cs) (hcr : ∀ x ∈ cs, 0 ≤ x ∧ x ≤ 255) (hcl : cs.length ≤ cc) (hcc : cc ≤ maxLen) :
    Calls Tryz.prog 7 #[t.val, .slice cA cs.length cc, .bool false, .bool false] w (StyledAns t w) := by
  have H : ∀ b, Sty w (w.heap.size + 1) cA cs cc ((w.alloc (.cells #[.int .i64 t.kind, .string t.text, .string t.more, .int .i64 t.n, .int .u64 t.bits, .int .u64 t.high, .slice t.bA t.bs.length t.bc, .slice t.kA t.kids.length t.kc] 26)).alloc (.cells #[.slice cA cs.length cc, .int .i64 0, .bool false, .bool false] b)) := fun b => {
    base := by omega
    below := ((Below.refl _ _).alloc (Nat.le_refl _) _).alloc (by simp) _
    code := hc
    range := hcr
    len := hcl
    cap := hcc
    size := by simp
    c0 := by simp [go_sem]
    c1 := ⟨0, by omega, by simp [go_sem]⟩
    c2 := by simp [go_sem]
    c3 := by simp [go_sem]
    fr := fun o => by simp [go_sem] }
  have HV := Lib.hid (fun W (hs : Sty w (w.heap.size + 1) cA cs cc W) => value_calls e k t w W (w.heap.size + 1) cA cs cc hin hfit hkn hcnt hE hs)
  have HH := Lib.hid H
  have hap := @ByteArray.size_append
  have hcn := Lib.hid hcnt
  clear H hin hfit hkn hcnt hE hc hcr
  obtain ⟨kind, text, more, n, bits, high, bA, bs, bc, kA, kids, kc⟩ := t
  simp only [VT.val, VT.kind, VT.text, VT.more, VT.n, VT.bits, VT.high, VT.bA, VT.bs, VT.bc, VT.kA, VT.kids, VT.kc] at *
  go_enter Tryz.func7, Tryz.ntmps7
  go_wp2_with fail
  refine (HV.out _ (HH.out _)).mono ?_
  rintro e w1 ⟨⟨u, rfl, hu, hhead⟩, ha⟩
  rw [bytesOf_length] at hu
  have hu2 : u.size ≤ 25600000 := by have := hcn.out; omega
  have HA := Lib.hid ha
  have HU := Lib.hid hhead
  clear ha hu hhead
  go_wp2_with fail
  refine (gap_b HA.out.sty).mono ?_
  rintro e w2 ⟨⟨g1, rfl, hb1, hg1⟩, ha⟩
  rw [bytesOf_length] at hg1
  have HA2 := Lib.hid (HA.out.trans ha)
  clear HA ha
  go_wp2_with fail
  refine (gap_b HA2.out.sty).mono ?_
  rintro e w3 ⟨⟨g2, rfl, hb2, hg2⟩, ha⟩
  rw [bytesOf_length] at hg2
  have HA := Lib.hid (HA2.out.trans ha)
  clear HA2 ha
  go_wp2
  go_ret2
  refine ⟨⟨_, bytesOf g1, bytesOf u ++ bytesOf g2, rfl, by rw [bytes_append, bytes_append, List.append_assoc], hb1, HU.out.more _, by simp only [ByteArray.size_append]; omega⟩, ?_⟩
  have h1 := (HH.out 39).below
  exact h1.trans (HA.out.keeps.below (by simp; omega) (by intro s hs; simp at hs; omega))
end Go.Proofs.YtlgmlfhalgnppaaGreatDoor
/-! laws.zzFits1, laws.extDocument. -/
set_option linter.unusedSimpArgs false
set_option linter.unusedVariables false
namespace Go.Proofs.YtlgmlfhalgnppaaGreatDoor
open Go.RowKit
open Go.Proofs.YtlgmlfhalgnppaaGreatDoorW.PrintWords hiding bt bt_at bt_range
theorem zzFits1_calls (t : VT) (w : World) (h1 : t.text.size ≤ maxLen) (h2 : t.more.size ≤ maxLen) (h3 : t.bs.length ≤ 9223372036854775807) (h4 : t.kids.length ≤ 9223372036854775807) :
    Calls Tryz.prog 4 #[t.val] w (AnsB (fun _ => True) w) := by
  obtain ⟨kind, text, more, n, bits, high, bA, bs, bc, kA, kids, kc⟩ := t
  simp only [VT.val, VT.kind, VT.text, VT.more, VT.n, VT.bits, VT.high, VT.bA, VT.bs, VT.bc, VT.kA, VT.kids, VT.kc] at *
  have g1 : text.size ≤ 9223372036854775807 := by unfold maxLen at h1; omega
  have g2 : more.size ≤ 9223372036854775807 := by unfold maxLen at h2; omega
  clear h1 h2
  by_cases k1 : 2147483647 < text.size
  · have d1 : decide (2147483647 < (text.size : Int)) = true := by simp; omega
    go_enter Tryz.func4, Tryz.ntmps4
    go_wp2
    go_ret
    exact AnsB.of rfl trivial ((Below.refl _ _).alloc (Nat.le_refl _) _)
  have d1 : decide (2147483647 < (text.size : Int)) = false := by simp; omega
  by_cases k2 : 2147483647 < more.size
  · have d2 : decide (2147483647 < (more.size : Int)) = true := by simp; omega
    go_enter Tryz.func4, Tryz.ntmps4
    go_wp2
    go_ret
    exact AnsB.of rfl trivial ((Below.refl _ _).alloc (Nat.le_refl _) _)
  have d2 : decide (2147483647 < (more.size : Int)) = false := by simp; omega
  by_cases k3 : 2147483647 < bs.length
  · have d3 : decide (2147483647 < (bs.length : Int)) = true := by simp; omega
    go_enter Tryz.func4, Tryz.ntmps4
    go_wp2
    go_ret
    exact AnsB.of rfl trivial ((Below.refl _ _).alloc (Nat.le_refl _) _)
  have d3 : decide (2147483647 < (bs.length : Int)) = false := by simp; omega
  by_cases k4 : 2147483647 < kids.length
  · have d4 : decide (2147483647 < (kids.length : Int)) = true := by simp; omega
    go_enter Tryz.func4, Tryz.ntmps4
    go_wp2
    go_ret
    exact AnsB.of rfl trivial ((Below.refl _ _).alloc (Nat.le_refl _) _)
  have d4 : decide (2147483647 < (kids.length : Int)) = false := by simp; omega
  go_enter Tryz.func4, Tryz.ntmps4
  go_wp2
  go_ret
  exact AnsB.of rfl trivial ((Below.refl _ _).alloc (Nat.le_refl _) _)
/-- A value that holds t alone, under a name. -/
def VT.one (k : Int) (name : ByteArray) (t : VT) (B : Nat) : VT := .mk k ⟨#[]⟩ ⟨#[]⟩ 0 0 0 none [] 0 (some ⟨B, 0, none⟩) [(name, t)] 1
theorem VT.one_in {k : Int} {name : ByteArray} {t : VT} {B d : Nat} {w : World} (hk : 0 ≤ k ∧ k ≤ 255) (hn : name.size ≤ 10) (ht : t.In w d) (h0 : w.cell? ⟨B, 0, none⟩ = some (.string name))
    (h1 : ∀ j (hj : j < 8), w.cell? ⟨B, 1 + j, none⟩ = some (t.cells[j]'(by simpa [VT.cells] using hj))) : (VT.one k name t B).In w (d + 1) := by
  refine ⟨by show -9223372036854775808 ≤ k ∧ k ≤ _; omega, by show (-9223372036854775808 : Int) ≤ 0 ∧ (0 : Int) ≤ _; omega, by show (0 : Int) ≤ 0 ∧ (0 : Int) < _; omega, by show (0 : Int) ≤ 0 ∧ (0 : Int) < _; omega, by show 0 ≤ maxLen; omega, by show 0 ≤ maxLen; omega, ⟨rfl, by show 0 ≤ _; omega, fun h => absurd h (by show ¬ 0 < 0; omega)⟩, by show 0 ≤ 0; omega, fun x hx => absurd hx (List.not_mem_nil), by show 1 ≤ 1; omega, by show 1 ≤ maxLen; unfold maxLen; omega, fun _ => ⟨⟨B, 0, none⟩, rfl, fun i hi => ?_⟩⟩
  have hi0 : i = 0 := by have : i < 1 := hi; omega
  subst hi0
  refine ⟨?_, by show name.size ≤ maxLen; unfold maxLen; omega, fun j hj => ?_, ht⟩
  · rw [add_plain]; exact h0
  · rw [add_plain]
    have e1 : 9 * 0 + 1 + j = 1 + j := by omega
    rw [e1]
    exact h1 j hj
theorem VT.In.pred {w : World} : ∀ {d : Nat} {t : VT}, t.In w (d + 1) → t.In w d := by
  intro d
  induction d with
  | zero => intro t _; trivial
  | succ d ih =>
    intro t h
    obtain ⟨h1, h2, h3, h4, h5, h6, h7, h8, h9, h10, h11, h12⟩ := h
    refine ⟨h1, h2, h3, h4, h5, h6, h7, h8, h9, h10, h11, fun hk => ?_⟩
    obtain ⟨ad, ha, hc⟩ := h12 hk
    refine ⟨ad, ha, fun i hi => ?_⟩
    obtain ⟨c1, c2, c3, c4⟩ := hc i hi
    exact ⟨c1, c2, c3, ih c4⟩
/-- What extDocument gives. -/
structure DocAns (t : VT) (d : Nat) (w : World) (e : Ending) (w' : World) : Prop where
  out : ∃ x : VT, e = .returned x.val ∧ x.kind = 3 ∧ x.In w' d ∧ ((t.kind = 3 ∧ x = t) ∨ (t.kind ≠ 3 ∧ ∃ B, x = VT.one 3 ⟨#[97]⟩ t B))
  below : Below w.heap.size w w'
set_option maxRecDepth 100000 in
theorem extDocument_calls (t : VT) (d : Nat) (w : World) (hin : t.In w (d + 1)) :
    Calls Tryz.prog 5 #[t.val] w (DocAns t (d + 1) w) := by
  have HI := Lib.hid hin
  clear hin
  have HV : Hid (∃ v, t.val = v) := ⟨_, rfl⟩
  by_cases hk : t.kind = 3
  · have HK := Lib.hid hk
    obtain ⟨kind, text, more, n, bits, high, bA, bs, bc, kA, kids, kc⟩ := t
    simp only [VT.val, VT.kind, VT.text, VT.more, VT.n, VT.bits, VT.high, VT.bA, VT.bs, VT.bc, VT.kA, VT.kids, VT.kc] at hk ⊢
    subst hk
    go_enter Tryz.func5, Tryz.ntmps5
    go_wp2
    exact bodyPost_ret (v := .agg #[.int .i64 3, .string text, .string more, .int .i64 n, .int .u64 bits, .int .u64 high, .slice bA bs.length bc, .slice kA kids.length kc]) (by simp [results, Tryz.results5, go_sem]) rfl ⟨⟨_, rfl, HK.out, HI.out.below (((Below.refl _ _).alloc (Nat.le_refl _) _).alloc (by simp) _), Or.inl ⟨HK.out, rfl⟩⟩, ((Below.refl _ _).alloc (Nat.le_refl _) _).alloc (by simp) _⟩
  · have hkb : (t.kind == 3) = false := by rw [beq_eq_false_iff_ne]; exact hk
    have HK := Lib.hid hk
    clear hk
    simp only [VT.val]
    go_enter Tryz.func5, Tryz.ntmps5
    go_wp2
    have hb := (((Below.refl w.heap.size w).alloc (Nat.le_refl _) (.cells #[.int .i64 t.kind, .string t.text, .string t.more, .int .i64 t.n, .int .u64 t.bits, .int .u64 t.high, .slice t.bA t.bs.length t.bc, .slice t.kA t.kids.length t.kc] 26)).alloc (by simp) (.cells #[.int .i64 3, .string ⟨#[]⟩, .string ⟨#[]⟩, .int .i64 0, .int .u64 0, .int .u64 0, .slice none 0 0, .slice (some ⟨w.heap.size + 1 + 1, 0, none⟩) 1 1] 26)).alloc (by simp; omega) (.cells #[.string ⟨#[97]⟩, .int .i64 t.kind, .string t.text, .string t.more, .int .i64 t.n, .int .u64 t.bits, .int .u64 t.high, .slice t.bA t.bs.length t.bc, .slice t.kA t.kids.length t.kc] 32)
    refine bodyPost_ret (v := (VT.one 3 ⟨#[97]⟩ t (w.heap.size + 1 + 1)).val) (by simp [results, Tryz.results5, go_sem, VT.one, VT.val, VT.kind, VT.text, VT.more, VT.n, VT.bits, VT.high, VT.bA, VT.bs, VT.bc, VT.kA, VT.kids, VT.kc]) rfl ⟨⟨VT.one 3 ⟨#[97]⟩ t (w.heap.size + 1 + 1), rfl, rfl, ?_, Or.inr ⟨HK.out, _, rfl⟩⟩, hb⟩
    refine VT.one_in (by omega) (by decide) ((VT.In.pred HI.out).below hb) (by simp [go_sem]) (fun j hj => ?_)
    have h8 : j = 0 ∨ j = 1 ∨ j = 2 ∨ j = 3 ∨ j = 4 ∨ j = 5 ∨ j = 6 ∨ j = 7 := by omega
    rcases h8 with rfl | rfl | rfl | rfl | rfl | rfl | rfl | rfl <;> simp [go_sem, VT.cells]
end Go.Proofs.YtlgmlfhalgnppaaGreatDoor
