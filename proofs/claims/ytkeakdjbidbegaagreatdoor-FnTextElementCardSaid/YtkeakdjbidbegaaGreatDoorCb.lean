/- A part of the proof that laws.FnTextElement returns true at every input: Cnt, Countx. -/
import Derived.Test.YtkeakdjbidbegaaGreatDoorC
import Derived.Lib.OthersKept
set_option linter.unusedSimpArgs false
set_option linter.unusedVariables false
set_option maxRecDepth 100000
set_option maxHeartbeats 8000000
namespace Go.Proofs.YtkeakdjbidbegaaGreatDoor
open Go.RowKit
open Go.Proofs.YtkeakdjbidbegaaGreatDoorW.PrintWords
def VT.cnt : Nat → VT → Nat
 | 0, _ => 1
 | d + 1, t => 1 + (t.kids.map fun x => VT.cnt d x.2).sum
theorem VT.cnt_pos (e : Nat) (t : VT) : 1 ≤ t.cnt e := by
 cases e with
 | zero => exact Nat.le_refl 1
 | succ e => unfold VT.cnt; omega
theorem leafB_length {t : VT} (h1 : t.text.size ≤ 300) (h2 : t.more.size ≤ 300) (h3 : t.bs.length ≤ 300) : (leafB t).length ≤ 1000 := by
 have e1 : (txtB t.text).length = t.text.size + 5 := by
  unfold txtB
  rw [List.length_append, List.length_append, leI_length, bytesOf_length]
  simp; omega
 have e2 := bytesOf_length t.text
 have e3 := bytesOf_length t.more
 unfold leafB
 split
 ·rw [leI_length]; omega
 split
 ·omega
 split
 ·split <;> simp only [List.length_append, List.length_cons, List.length_nil, leI_length] <;> omega
 split
 ·omega
 split
 ·simp
 split
 ·rw [leI_length]; omega
 split
 ·rw [leI_length]; omega
 split
 ·simp only [List.length_append, List.length_cons, List.length_nil, e2, e3]; omega
 split
 ·rw [List.length_append]; omega
 split
 ·rw [List.length_append, leI_length, leI_length]; omega
 ·simp
theorem headB_length (k : Int) (name : ByteArray) : (headB k name).length = name.size + 2 := by
 unfold headB
 rw [List.length_cons, List.length_append, bytesOf_length]
 simp
theorem flat_le (f : ByteArray × VT → List Int) (g : ByteArray × VT → Nat) : ∀ l : List (ByteArray × VT), (∀ x ∈ l, (f x).length ≤ 2000 * g x) → ((l.map f).flatten).length ≤ 2000 * (l.map g).sum
 | [], _ => by simp
 | x :: r, h => by
  have h1 := h x (by simp)
  have h2 := flat_le f g r fun y hy => h y (by simp [hy])
  simp only [List.map_cons, List.flatten_cons, List.length_append, List.sum_cons]
  omega
theorem doc_length {D : Int → List Int} : ∀ (d : Nat) (t : VT), t.Ok D d → (t.doc d).length + 302 ≤ 2000 * t.cnt d := by
 intro d
 induction d with
 | zero => intro t h; exact h.elim
 | succ d ih =>
  intro t h
  obtain ⟨hl, hk, hkid⟩ := h
  unfold VT.doc
  by_cases h3 : t.kind = 3 ∨ t.kind = 4
  ·rw [if_pos h3]
   have hb : ((t.kids.map fun x => headB x.2.kind x.1 ++ VT.doc d x.2).flatten).length ≤ 2000 * (t.kids.map fun x => VT.cnt d x.2).sum := by
    refine flat_le _ _ _ fun x hx => ?_
    obtain ⟨i, hi, rfl⟩ := List.getElem_of_mem hx
    obtain ⟨hn, ho⟩ := hkid i hi h3
    have h1 := ih _ ho
    have h2 := hn.2.1
    rw [List.length_append, headB_length]
    omega
   unfold docOf VT.cnt
   rw [List.length_append, List.length_append, leI_length]
   simp only [List.length_cons, List.length_nil]
   omega
  ·rw [if_neg h3]
   have h1 := leafB_length hl.text.1 hl.more.1 hl.bs
   have h2 := VT.cnt_pos (d + 1) t
   omega
def RisesTo (s : ByteArray) (pos : Nat) : Prop := ∀ j, j < pos → 97 ≤ bt s j ∧ bt s j ≤ 122 ∧ (0 < j → bt s (j - 1) ≤ bt s j)
structure CRest (kind : Int) (more : ByteArray) (bits high : Int) : Prop where
 rex : kind = 11 → RisesTo more more.size
 dec : kind = 19 → decKind high = 0 → (decDig high bits).length ≤ 34 ∧ high / 2305843009213693952 % 4 ≠ 3
 nan : kind = 1 → isNaNF bits.toNat = true → bits = 9221120237041090561
structure CLeaf (t : VT) : Prop where
 text : t.text.size ≤ 300 ∧ utf8F t.text = true
 more : t.more.size ≤ 300 ∧ utf8F t.more = true
 bs : t.bs.length ≤ 300
 rest : CRest t.kind t.more t.bits t.high
def VT.Fitx : Nat → VT → Prop
 | 0, _ => False
 | d + 1, t => CLeaf t ∧ t.kids.length ≤ 300 ∧ ∀ i (h : i < t.kids.length), (t.kids[i].1.size ≤ 300 ∧ utf8F t.kids[i].1 = true) ∧ VT.Fitx d t.kids[i].2
structure LeftAt (L : Nat) (c : Int) (w : World) : Prop where
 lt : L < w.heap.size
 cell : w.cell? ⟨L, 0, none⟩ = some (.int .i64 c)
 fr : w.frozen? ⟨L, 0, none⟩ = false
theorem LeftAt.keeps {L : Nat} {c : Int} {w w' : World} (h : LeftAt L c w) {B : Nat} (k : Below B w w') (hB : L < B) : LeftAt L c w' :=
 ⟨Nat.lt_of_lt_of_le h.lt k.size, (k.cell (p := ⟨L, 0, none⟩) hB).trans h.cell, (k.frozen (p := ⟨L, 0, none⟩) hB).trans h.fr⟩
structure CountAns (d : Nat) (t : VT) (L : Nat) (c : Int) (w : World) (e : Ending) (w' : World) : Prop where
 out : ∃ (b : Bool) (c' : Int), e = .returned (.bool b) ∧ LeftAt L c' w' ∧ (b = true → t.Fitx d ∧ c' = c - t.cnt d ∧ 0 ≤ c')
 keeps : Keeps w.heap.size [L] w w'
theorem CountAns.no {d : Nat} {t : VT} {L : Nat} {c c' : Int} {w w' : World} {e : Ending} (he : e = .returned (.bool false)) (hl : LeftAt L c' w') (hk : Keeps w.heap.size [L] w w') : CountAns d t L c w e w' := ⟨⟨false, c', he, hl, fun h => absurd h (by decide)⟩, hk⟩
theorem rises_step {s : ByteArray} {pos : Nat} (h : RisesTo s pos) (h1 : 97 ≤ bt s pos) (h2 : bt s pos ≤ 122) (h3 : 0 < pos → bt s (pos - 1) ≤ bt s pos) : RisesTo s (pos + 1) := by
 intro j hj
 by_cases e : j = pos
 ·subst e; exact ⟨h1, h2, h3⟩
 ·exact h j (by omega)
def cntTo (d : Nat) (kids : List (ByteArray × VT)) (k : Nat) : Nat := ((kids.take k).map fun x => x.2.cnt d).sum
theorem cntTo_succ (d : Nat) (kids : List (ByteArray × VT)) (k : Nat) (h : k < kids.length) : cntTo d kids (k + 1) = cntTo d kids k + kids[k].2.cnt d := by
 unfold cntTo
 rw [List.take_add_one, List.getElem?_eq_getElem h, Option.toList_some, List.map_append, List.sum_append]
 simp only [List.map_cons, List.map_nil, List.sum_cons, List.sum_nil, Nat.add_zero]
theorem textF_size {s : ByteArray} (h : textF s = true) : s.size ≤ 300 := by
 simp only [textF, Bool.and_eq_true, decide_eq_true_eq] at h
 exact h.1
theorem textF_utf8 {s : ByteArray} (h : textF s = true) : utf8F s = true := by
 simp only [textF, Bool.and_eq_true] at h
 exact h.2
theorem cntTo_ge (d : Nat) (kids : List (ByteArray × VT)) : ∀ k, k ≤ kids.length → k ≤ cntTo d kids k := by
 intro k
 induction k with
 | zero => intro _; omega
 | succ k ih =>
  intro h
  rw [cntTo_succ d kids k (by omega)]
  have := ih (by omega)
  have := VT.cnt_pos d kids[k].2
  omega
theorem fit_step {d k : Nat} {kids : List (ByteArray × VT)} {name : ByteArray} {t : VT} (h : ∀ j (h : j < k) (hj : j < kids.length), (kids[j].1.size ≤ 300 ∧ utf8F kids[j].1 = true) ∧ VT.Fitx d kids[j].2) {hk : k < kids.length} (hkt : kids[k] = (name, t)) (hn : name.size ≤ 300 ∧ utf8F name = true) (ht : t.Fitx d) :
  Hid (∀ j (h : j < k + 1) (hj : j < kids.length), (kids[j].1.size ≤ 300 ∧ utf8F kids[j].1 = true) ∧ VT.Fitx d kids[j].2) := by
 intro j h1 hj
 by_cases e : j = k
 ·subst e
  rw [hkt]
  exact ⟨hn, ht⟩
 ·exact h j (by omega) hj
theorem extCounts_calls : ∀ (d : Nat) (t : VT) (w0 w : World) (L : Nat) (c : Int), t.In w0 d → Below w0.heap.size w0 w → w0.heap.size ≤ L → LeftAt L c w → 0 ≤ c → c ≤ 300 → d ≤ 1000 →
  Calls Tryz.prog 19 #[t.val, .int .i64 d, .pointer (some ⟨L, 0, none⟩)] w (CountAns d t L c w) := by
 intro d
 induction d with
 | zero =>
  intro t w0 w L c hin hb hLw hl hc0 hc1 hd
  obtain ⟨kind, text, more, n, bits, high, bA, bs, bc, kA, kids, kc⟩ := t
  simp only [VT.val, VT.kind, VT.text, VT.more, VT.n, VT.bits, VT.high, VT.bA, VT.bs, VT.bc, VT.kA, VT.kids, VT.kc]
  have hcw := hl.cell
  have hfw := hl.fr
  have hlt := hl.lt
  have HLL := Lib.hid hl
  clear hl
  have HLX : ∀ o, Hid (LeftAt L (c - 1) ((w.setCell ⟨L, 0, none⟩ (.int .i64 (c - 1))).alloc o)) := fun o => ⟨by simp [World.setCell]; omega, by simp [go_sem, hlt, hcw], by simp [go_sem, hlt, hfw]⟩
  have HKX : ∀ o, Hid (Keeps w.heap.size [L] w ((w.setCell ⟨L, 0, none⟩ (.int .i64 (c - 1))).alloc o)) := fun o => ((Keeps.refl _ _ _).setCell (Or.inl (by simp)) _).alloc (by simp [World.setCell]) o
  by_cases hcz : c = 0
  ·subst hcz
   go_enter Tryz.func19, Tryz.ntmps19
   go_wp2_with fail
   go_ret
   exact CountAns.no rfl (HLX _).out (HKX _).out
  ·have hcd : decide (c - 1 < 0) = false := by simp; omega
   go_enter Tryz.func19, Tryz.ntmps19
   go_wp2_with fail
   go_ret
   exact CountAns.no rfl (HLX _).out (HKX _).out
 | succ d ih =>
  intro t w0 w L c hin hb hLw hl hc0 hc1 hd
  have IH := Lib.hid ih
  clear ih
  obtain ⟨kind, text, more, n, bits, high, bA, bs, bc, kA, kids, kc⟩ := t
  simp only [VT.In, VT.val, VT.kind, VT.text, VT.more, VT.n, VT.bits, VT.high, VT.bA, VT.bs, VT.bc, VT.kA, VT.kids, VT.kc] at hin ⊢
  obtain ⟨h1, h2, h3, h4, h5, h6, h7, h8, h9, h10, h11, h12⟩ := hin
  have HI := Lib.hid (And.intro h7 (And.intro h9 h12))
  clear h7 h9 h12
  have hkl : kids.length ≤ 9223372036854775807 := by unfold maxLen at h11; omega
  have hbl : bs.length ≤ 9223372036854775807 := HI.out.1.2.1
  have hcw := hl.cell
  have hfw := hl.fr
  have hlt := hl.lt
  have HLW := Lib.hid hLw
  have HB := Lib.hid hb
  have HLX' : ∀ o, Hid (LeftAt L (c - 1) ((w.setCell ⟨L, 0, none⟩ (.int .i64 (c - 1))).alloc o)) := fun o => ⟨by simp [World.setCell]; omega, by simp [go_sem, hlt, hcw], by simp [go_sem, hlt, hfw]⟩
  have HKX' : ∀ o, Hid (Keeps w.heap.size [L] w ((w.setCell ⟨L, 0, none⟩ (.int .i64 (c - 1))).alloc o)) := fun o => ((Keeps.refl _ _ _).setCell (Or.inl (by simp)) _).alloc (by simp [World.setCell]) o
  have HBX' : ∀ o, Hid (Below w0.heap.size w0 ((w.setCell ⟨L, 0, none⟩ (.int .i64 (c - 1))).alloc o)) := fun o => (hb.setCell (p := ⟨L, 0, none⟩) hLw _).alloc (by have := hb.size; simpa [World.setCell] using this) o
  clear hl hb hLw
  have HLA := Lib.hid HLX'
  have HKA := Lib.hid HKX'
  have HBA := Lib.hid HBX'
  clear HLX' HKX' HBX'
  by_cases hcz : c = 0
  ·subst hcz
   go_enter Tryz.func19, Tryz.ntmps19
   go_wp2_with fail
   go_ret
   exact CountAns.no rfl (HLA.out _).out (HKA.out _).out
  have hcd : decide (c - 1 < 0) = false := by simp; omega
  have hcpos : 1 ≤ c := by omega
  have hdz : ((d : Int) + 1 == 0) = false := by rw [beq_eq_false_iff_ne]; omega
  clear hcz
  go_enter Tryz.func19, Tryz.ntmps19
  cases ht : textF text with
  | false =>
   have HTT := Lib.hid ht
   clear ht
   go_wp2_with fail
   refine (extText_calls text h5 _).mono ?_
   rintro e w1 ⟨rfl, rfl⟩
   rw [HTT.out]
   go_wp2_with fail
   go_ret
   exact CountAns.no rfl (HLA.out _).out (HKA.out _).out
  | true =>
   have HTT := Lib.hid ht
   have ht300 := textF_size ht
   clear ht
   go_wp2_with fail
   refine (extText_calls text h5 _).mono ?_
   rintro e w1 ⟨rfl, rfl⟩
   rw [HTT.out]
   cases hm : textF more with
   | false =>
    have HTM := Lib.hid hm
    clear hm
    go_wp2_with fail
    refine (extText_calls more h6 _).mono ?_
    rintro e w1 ⟨rfl, rfl⟩
    rw [HTM.out]
    go_wp2_with fail
    go_ret
    exact CountAns.no rfl (HLA.out _).out (HKA.out _).out
   | true =>
    have HTM := Lib.hid hm
    have hm300 := textF_size hm
    clear hm
    go_wp2_with fail
    refine (extText_calls more h6 _).mono ?_
    rintro e w1 ⟨rfl, rfl⟩
    rw [HTM.out]
    by_cases hb3 : 300 < bs.length
    ·have hb3d : decide (300 < (bs.length : Int)) = true := by simp; omega
     go_wp2_with fail
     go_ret
     exact CountAns.no rfl (HLA.out _).out (HKA.out _).out
    have hb3d : decide (300 < (bs.length : Int)) = false := by simp; omega
    have hbs300 : bs.length ≤ 300 := by omega
    clear hb3
    by_cases k1 : kind = 1
    ·subst k1
     have kfb := fun W => frombits_run bits W
     have kbr := fun (m : Nat) W => bits_run m W
     have HL := Lib.hid (HLA.out (.cells #[.int .i64 1, .string text, .string more, .int .i64 n, .int .u64 bits, .int .u64 high, .slice bA bs.length bc, .slice kA kids.length kc] 26)).out
     have HK2 := Lib.hid (HKA.out (.cells #[.int .i64 1, .string text, .string more, .int .i64 n, .int .u64 bits, .int .u64 high, .slice bA bs.length bc, .slice kA kids.length kc] 26)).out
     have HB2 := Lib.hid (HBA.out (.cells #[.int .i64 1, .string text, .string more, .int .i64 n, .int .u64 bits, .int .u64 high, .slice bA bs.length bc, .slice kA kids.length kc] 26)).out
     clear HLA HKA HBA
     cases hnan : isNaNF bits.toNat with
     | false =>
      have hn1 : (FloatKind.f64.format.order bits.toNat bits.toNat != some Ordering.eq) = false := hnan
      go_wp2_with fail
      go_quiet (fail)
      have HL3 := Lib.hid (HL.out.keeps (pw_below_drewN (Below.refl _ _) nq) HL.out.lt)
      have HK3 := Lib.hid (HK2.out.drewN nq)
      have HB3 := Lib.hid (pw_below_drewN HB2.out nq)
      clear HL HK2 HB2
      have HL := HL3; have HK2 := HK3; have HB2 := HB3; clear HL3 HK3 HB3
      have HRISE : Hid (CRest 1 more bits high) := ⟨fun h => absurd h (by decide), fun h => absurd h (by decide), fun _ h => absurd h (by rw [hnan]; decide)⟩
      go_wp2_with fail
      go_loopw [10, 116] (fun eb q wr => ∃ (k : Nat) (c2 : Int), k ≤ kids.length ∧ q = .int .i64 k ∧ Hid (c2 = c - 1 - cntTo d kids k) ∧ (0 ≤ c2 ∧ c2 ≤ 300) ∧ Hid (∀ j (h : j < k) (hj : j < kids.length), (kids[j].1.size ≤ 300 ∧ utf8F kids[j].1 = true) ∧ VT.Fitx d kids[j].2) ∧ Hid (LeftAt L c2 wr) ∧ Hid (Keeps w.heap.size [L] w wr) ∧ Hid (Below w0.heap.size w0 wr)) (fun _ q _ => kids.length - (intOf q).toNat)
      case atStart => exact ⟨0, c - 1, Nat.zero_le _, rfl, by show _ = _; simp [cntTo], ⟨by omega, by omega⟩, fun j h => absurd h (Nat.not_lt_zero _), HL.out, HK2.out, HB2.out⟩
      case round =>
       obtain ⟨k, c2, hk, rfl, HC, hc2, HX, HLr, HKr, HBr⟩ := hrel
       by_cases hlt2 : k < kids.length
       ·have hd' : decide ((k : Int) < kids.length) = true := by simp; omega
        obtain ⟨ad, rfl, hkid⟩ := HI.out.2.2 (by omega)
        obtain ⟨p, name, t, hp, hkt, hn, ht, hpb, c0, c1, c2', c3, c4, c5, c6, c7, c8⟩ := VT.kid HBr.out hlt2 hkid
        have HT0 : Hid (VT.In w0 d t) := by have := (hkid k hlt2).2.2.2; rw [hkt] at this; exact this
        have HKT := Lib.hid hkt
        have hLr := HLr.out.lt
        clear hkid hkt ht
        have HLX : Hid (LeftAt L c2 (wr.alloc (.cells #[.string name, .int .i64 t.kind, .string t.text, .string t.more, .int .i64 t.n, .int .u64 t.bits, .int .u64 t.high, .slice t.bA t.bs.length t.bc, .slice t.kA t.kids.length t.kc] 30))) := HLr.out.keeps ((Below.refl _ _).alloc (Nat.le_refl _) _) HLr.out.lt
        have HKX : Hid (Keeps w.heap.size [L] w (wr.alloc (.cells #[.string name, .int .i64 t.kind, .string t.text, .string t.more, .int .i64 t.n, .int .u64 t.bits, .int .u64 t.high, .slice t.bA t.bs.length t.bc, .slice t.kA t.kids.length t.kc] 30))) := HKr.out.alloc (by have := HKr.out.size; exact this) _
        have HBX : Hid (Below w0.heap.size w0 (wr.alloc (.cells #[.string name, .int .i64 t.kind, .string t.text, .string t.more, .int .i64 t.n, .int .u64 t.bits, .int .u64 t.high, .slice t.bA t.bs.length t.bc, .slice t.kA t.kids.length t.kc] 30))) := HBr.out.alloc (by have := HBr.out.size; exact this) _
        cases htn : textF name with
        | false =>
         have HTN := Lib.hid htn
         clear htn
         go_wp2_with fail
         refine (extText_calls name hn _).mono ?_
         rintro e w5 ⟨rfl, rfl⟩
         rw [HTN.out]
         go_wp2_with fail
         go_ret
         exact CountAns.no rfl HLX.out HKX.out
        | true =>
         have HTN := Lib.hid htn
         have hns := textF_size htn
         clear htn
         by_cases hz : name.size = 0
         ·have g := str_empty hz
          go_wp2_with fail
          refine (extText_calls name hn _).mono ?_
          rintro e w5 ⟨rfl, rfl⟩
          rw [HTN.out]
          have hdw : IntKind.i64.wrap (d : Int) = d := by rw [IntKind.wrap_i64]; omega
          go_wp2_with fail
          refine (IH.out t w0 _ L c2 HT0.out HBX.out HLW.out HLX.out hc2.1 hc2.2 (by omega)).mono ?_
          rintro e w6 ⟨⟨b, c3, rfl, hl6, hb6⟩, hk6⟩
          have HL6 := Lib.hid hl6
          have HK6 : Hid (Keeps w.heap.size [L] w w6) := HKX.out.trans (hk6.mono HKX.out.size (fun s hs _ => hs))
          have HB6 : Hid (Below w0.heap.size w0 w6) := HBX.out.trans (hk6.below (by have := HBX.out.size; omega) (by intro s hs; simp at hs; subst hs; exact HLW.out))
          have HR6 := Lib.hid hb6
          clear hl6 hb6 hk6
          cases b
          ·go_wp2_with fail
           go_ret
           exact CountAns.no rfl HL6.out HK6.out
          ·go_wp2_with fail
           obtain ⟨hf6, hc6, hc60⟩ := HR6.out (by first | rfl | trivial)
           have hs6 := cntTo_succ d kids k hlt2
           have hcp := VT.cnt_pos d t
           rw [HKT.out] at hs6
           have hC := HC.out
           go_roundw
           case rel => exact ⟨k + 1, c3, by omega, by (try rw [wrap64_id _ (by omega) (by omega)]); rfl, by show _ = _; rw [hs6, hc6, hC]; push_cast; omega, ⟨hc60, by omega⟩, fit_step HX.out HKT.out ⟨hns, textF_utf8 HTN.out⟩ hf6, HL6.out, HK6.out, HB6.out⟩
           case measure => (try rw [wrap64_id _ (by omega) (by omega)]); simp [intOf] <;> omega
         ·have g := str_pos (s := name) (by omega)
          have g0 := str_at0 (s := name) (by omega)
          by_cases h36 : bt name 0 = 36
          ·have h36b : (bt name 0 == 36) = true := by rw [beq_iff_eq]; exact h36
           go_wp2_with fail
           refine (extText_calls name hn _).mono ?_
           rintro e w5 ⟨rfl, rfl⟩
           rw [HTN.out]
           go_wp2_with fail
           go_ret
           exact CountAns.no rfl HLX.out HKX.out
          ·have h36b : (bt name 0 == 36) = false := by rw [beq_eq_false_iff_ne]; exact h36
           go_wp2_with fail
           refine (extText_calls name hn _).mono ?_
           rintro e w5 ⟨rfl, rfl⟩
           rw [HTN.out]
           have hdw : IntKind.i64.wrap (d : Int) = d := by rw [IntKind.wrap_i64]; omega
           go_wp2_with fail
           refine (IH.out t w0 _ L c2 HT0.out HBX.out HLW.out HLX.out hc2.1 hc2.2 (by omega)).mono ?_
           rintro e w6 ⟨⟨b, c3, rfl, hl6, hb6⟩, hk6⟩
           have HL6 := Lib.hid hl6
           have HK6 : Hid (Keeps w.heap.size [L] w w6) := HKX.out.trans (hk6.mono HKX.out.size (fun s hs _ => hs))
           have HB6 : Hid (Below w0.heap.size w0 w6) := HBX.out.trans (hk6.below (by have := HBX.out.size; omega) (by intro s hs; simp at hs; subst hs; exact HLW.out))
           have HR6 := Lib.hid hb6
           clear hl6 hb6 hk6
           cases b
           ·go_wp2_with fail
            go_ret
            exact CountAns.no rfl HL6.out HK6.out
           ·go_wp2_with fail
            obtain ⟨hf6, hc6, hc60⟩ := HR6.out (by first | rfl | trivial)
            have hs6 := cntTo_succ d kids k hlt2
            have hcp := VT.cnt_pos d t
            rw [HKT.out] at hs6
            have hC := HC.out
            go_roundw
            case rel => exact ⟨k + 1, c3, by omega, by (try rw [wrap64_id _ (by omega) (by omega)]); rfl, by show _ = _; rw [hs6, hc6, hC]; push_cast; omega, ⟨hc60, by omega⟩, fit_step HX.out HKT.out ⟨hns, textF_utf8 HTN.out⟩ hf6, HL6.out, HK6.out, HB6.out⟩
            case measure => (try rw [wrap64_id _ (by omega) (by omega)]); simp [intOf] <;> omega
       ·have hd' : decide ((k : Int) < kids.length) = false := by simp; omega
        obtain rfl : k = kids.length := by omega
        go_wp2_with fail
        go_ret
        refine ⟨⟨true, c2, rfl, HLr.out, fun _ => ⟨⟨⟨⟨ht300, textF_utf8 HTT.out⟩, ⟨hm300, textF_utf8 HTM.out⟩, hbs300, HRISE.out⟩, (by show kids.length ≤ 300; have := cntTo_ge d kids kids.length (Nat.le_refl _); have := HC.out; omega), fun i hi => HX.out i hi hi⟩, ?_, hc2.1⟩⟩, HKr.out⟩
        have h1 := HC.out
        have h2 : cntTo d kids kids.length = (kids.map fun x => x.2.cnt d).sum := by unfold cntTo; rw [List.take_length]
        show c2 = c - ((1 + (kids.map fun x => x.2.cnt d).sum : Nat) : Int)
        rw [← h2]
        omega
     | true =>
      have hn1 : (FloatKind.f64.format.order bits.toNat bits.toNat != some Ordering.eq) = true := hnan
      by_cases hbe : bits = 9221120237041090561
      rotate_left
      ·have hbn : (bits == 9221120237041090561) = false := by rw [beq_eq_false_iff_ne]; exact hbe
       go_wp2_with fail
       go_quiet (first | (go_at_call 43; exact Calls.quiet_of_same (NaN_calls _)))
       go_wp2_with fail
       go_ret
       exact CountAns.no rfl (HL.out.keeps (pw_below_drewN (Below.refl _ _) nq) HL.out.lt) (HK2.out.drewN nq)
      ·subst hbe
       go_wp2_with fail
       go_quiet (first | (go_at_call 43; exact Calls.quiet_of_same (NaN_calls _)))
       have HL3 := Lib.hid (HL.out.keeps (pw_below_drewN (Below.refl _ _) nq) HL.out.lt)
       have HK3 := Lib.hid (HK2.out.drewN nq)
       have HB3 := Lib.hid (pw_below_drewN HB2.out nq)
       clear HL HK2 HB2
       have HL := HL3; have HK2 := HK3; have HB2 := HB3; clear HL3 HK3 HB3
       have HRISE : Hid (CRest 1 more 9221120237041090561 high) := ⟨fun h => absurd h (by decide), fun h => absurd h (by decide), fun _ _ => rfl⟩
       go_wp2_with fail
       go_loopw [10, 116] (fun eb q wr => ∃ (k : Nat) (c2 : Int), k ≤ kids.length ∧ q = .int .i64 k ∧ Hid (c2 = c - 1 - cntTo d kids k) ∧ (0 ≤ c2 ∧ c2 ≤ 300) ∧ Hid (∀ j (h : j < k) (hj : j < kids.length), (kids[j].1.size ≤ 300 ∧ utf8F kids[j].1 = true) ∧ VT.Fitx d kids[j].2) ∧ Hid (LeftAt L c2 wr) ∧ Hid (Keeps w.heap.size [L] w wr) ∧ Hid (Below w0.heap.size w0 wr)) (fun _ q _ => kids.length - (intOf q).toNat)
       case atStart => exact ⟨0, c - 1, Nat.zero_le _, rfl, by show _ = _; simp [cntTo], ⟨by omega, by omega⟩, fun j h => absurd h (Nat.not_lt_zero _), HL.out, HK2.out, HB2.out⟩
       case round =>
        obtain ⟨k, c2, hk, rfl, HC, hc2, HX, HLr, HKr, HBr⟩ := hrel
        by_cases hlt2 : k < kids.length
        ·have hd' : decide ((k : Int) < kids.length) = true := by simp; omega
         obtain ⟨ad, rfl, hkid⟩ := HI.out.2.2 (by omega)
         obtain ⟨p, name, t, hp, hkt, hn, ht, hpb, c0, c1, c2', c3, c4, c5, c6, c7, c8⟩ := VT.kid HBr.out hlt2 hkid
         have HT0 : Hid (VT.In w0 d t) := by have := (hkid k hlt2).2.2.2; rw [hkt] at this; exact this
         have HKT := Lib.hid hkt
         have hLr := HLr.out.lt
         clear hkid hkt ht
         have HLX : Hid (LeftAt L c2 (wr.alloc (.cells #[.string name, .int .i64 t.kind, .string t.text, .string t.more, .int .i64 t.n, .int .u64 t.bits, .int .u64 t.high, .slice t.bA t.bs.length t.bc, .slice t.kA t.kids.length t.kc] 30))) := HLr.out.keeps ((Below.refl _ _).alloc (Nat.le_refl _) _) HLr.out.lt
         have HKX : Hid (Keeps w.heap.size [L] w (wr.alloc (.cells #[.string name, .int .i64 t.kind, .string t.text, .string t.more, .int .i64 t.n, .int .u64 t.bits, .int .u64 t.high, .slice t.bA t.bs.length t.bc, .slice t.kA t.kids.length t.kc] 30))) := HKr.out.alloc (by have := HKr.out.size; exact this) _
         have HBX : Hid (Below w0.heap.size w0 (wr.alloc (.cells #[.string name, .int .i64 t.kind, .string t.text, .string t.more, .int .i64 t.n, .int .u64 t.bits, .int .u64 t.high, .slice t.bA t.bs.length t.bc, .slice t.kA t.kids.length t.kc] 30))) := HBr.out.alloc (by have := HBr.out.size; exact this) _
         cases htn : textF name with
         | false =>
          have HTN := Lib.hid htn
          clear htn
          go_wp2_with fail
          refine (extText_calls name hn _).mono ?_
          rintro e w5 ⟨rfl, rfl⟩
          rw [HTN.out]
          go_wp2_with fail
          go_ret
          exact CountAns.no rfl HLX.out HKX.out
         | true =>
          have HTN := Lib.hid htn
          have hns := textF_size htn
          clear htn
          by_cases hz : name.size = 0
          ·have g := str_empty hz
           go_wp2_with fail
           refine (extText_calls name hn _).mono ?_
           rintro e w5 ⟨rfl, rfl⟩
           rw [HTN.out]
           have hdw : IntKind.i64.wrap (d : Int) = d := by rw [IntKind.wrap_i64]; omega
           go_wp2_with fail
           refine (IH.out t w0 _ L c2 HT0.out HBX.out HLW.out HLX.out hc2.1 hc2.2 (by omega)).mono ?_
           rintro e w6 ⟨⟨b, c3, rfl, hl6, hb6⟩, hk6⟩
           have HL6 := Lib.hid hl6
           have HK6 : Hid (Keeps w.heap.size [L] w w6) := HKX.out.trans (hk6.mono HKX.out.size (fun s hs _ => hs))
           have HB6 : Hid (Below w0.heap.size w0 w6) := HBX.out.trans (hk6.below (by have := HBX.out.size; omega) (by intro s hs; simp at hs; subst hs; exact HLW.out))
           have HR6 := Lib.hid hb6
           clear hl6 hb6 hk6
           cases b
           ·go_wp2_with fail
            go_ret
            exact CountAns.no rfl HL6.out HK6.out
           ·go_wp2_with fail
            obtain ⟨hf6, hc6, hc60⟩ := HR6.out (by first | rfl | trivial)
            have hs6 := cntTo_succ d kids k hlt2
            have hcp := VT.cnt_pos d t
            rw [HKT.out] at hs6
            have hC := HC.out
            go_roundw
            case rel => exact ⟨k + 1, c3, by omega, by (try rw [wrap64_id _ (by omega) (by omega)]); rfl, by show _ = _; rw [hs6, hc6, hC]; push_cast; omega, ⟨hc60, by omega⟩, fit_step HX.out HKT.out ⟨hns, textF_utf8 HTN.out⟩ hf6, HL6.out, HK6.out, HB6.out⟩
            case measure => (try rw [wrap64_id _ (by omega) (by omega)]); simp [intOf] <;> omega
          ·have g := str_pos (s := name) (by omega)
           have g0 := str_at0 (s := name) (by omega)
           by_cases h36 : bt name 0 = 36
           ·have h36b : (bt name 0 == 36) = true := by rw [beq_iff_eq]; exact h36
            go_wp2_with fail
            refine (extText_calls name hn _).mono ?_
            rintro e w5 ⟨rfl, rfl⟩
            rw [HTN.out]
            go_wp2_with fail
            go_ret
            exact CountAns.no rfl HLX.out HKX.out
           ·have h36b : (bt name 0 == 36) = false := by rw [beq_eq_false_iff_ne]; exact h36
            go_wp2_with fail
            refine (extText_calls name hn _).mono ?_
            rintro e w5 ⟨rfl, rfl⟩
            rw [HTN.out]
            have hdw : IntKind.i64.wrap (d : Int) = d := by rw [IntKind.wrap_i64]; omega
            go_wp2_with fail
            refine (IH.out t w0 _ L c2 HT0.out HBX.out HLW.out HLX.out hc2.1 hc2.2 (by omega)).mono ?_
            rintro e w6 ⟨⟨b, c3, rfl, hl6, hb6⟩, hk6⟩
            have HL6 := Lib.hid hl6
            have HK6 : Hid (Keeps w.heap.size [L] w w6) := HKX.out.trans (hk6.mono HKX.out.size (fun s hs _ => hs))
            have HB6 : Hid (Below w0.heap.size w0 w6) := HBX.out.trans (hk6.below (by have := HBX.out.size; omega) (by intro s hs; simp at hs; subst hs; exact HLW.out))
            have HR6 := Lib.hid hb6
            clear hl6 hb6 hk6
            cases b
            ·go_wp2_with fail
             go_ret
             exact CountAns.no rfl HL6.out HK6.out
            ·go_wp2_with fail
             obtain ⟨hf6, hc6, hc60⟩ := HR6.out (by first | rfl | trivial)
             have hs6 := cntTo_succ d kids k hlt2
             have hcp := VT.cnt_pos d t
             rw [HKT.out] at hs6
             have hC := HC.out
             go_roundw
             case rel => exact ⟨k + 1, c3, by omega, by (try rw [wrap64_id _ (by omega) (by omega)]); rfl, by show _ = _; rw [hs6, hc6, hC]; push_cast; omega, ⟨hc60, by omega⟩, fit_step HX.out HKT.out ⟨hns, textF_utf8 HTN.out⟩ hf6, HL6.out, HK6.out, HB6.out⟩
             case measure => (try rw [wrap64_id _ (by omega) (by omega)]); simp [intOf] <;> omega
        ·have hd' : decide ((k : Int) < kids.length) = false := by simp; omega
         obtain rfl : k = kids.length := by omega
         go_wp2_with fail
         go_ret
         refine ⟨⟨true, c2, rfl, HLr.out, fun _ => ⟨⟨⟨⟨ht300, textF_utf8 HTT.out⟩, ⟨hm300, textF_utf8 HTM.out⟩, hbs300, HRISE.out⟩, (by show kids.length ≤ 300; have := cntTo_ge d kids kids.length (Nat.le_refl _); have := HC.out; omega), fun i hi => HX.out i hi hi⟩, ?_, hc2.1⟩⟩, HKr.out⟩
         have h1 := HC.out
         have h2 : cntTo d kids kids.length = (kids.map fun x => x.2.cnt d).sum := by unfold cntTo; rw [List.take_length]
         show c2 = c - ((1 + (kids.map fun x => x.2.cnt d).sum : Nat) : Int)
         rw [← h2]
         omega
    by_cases k12 : kind = 12
    ·subst k12
     have HL := Lib.hid (HLA.out (.cells #[.int .i64 12, .string text, .string more, .int .i64 n, .int .u64 bits, .int .u64 high, .slice bA bs.length bc, .slice kA kids.length kc] 26)).out
     have HK2 := Lib.hid (HKA.out (.cells #[.int .i64 12, .string text, .string more, .int .i64 n, .int .u64 bits, .int .u64 high, .slice bA bs.length bc, .slice kA kids.length kc] 26)).out
     have HB2 := Lib.hid (HBA.out (.cells #[.int .i64 12, .string text, .string more, .int .i64 n, .int .u64 bits, .int .u64 high, .slice bA bs.length bc, .slice kA kids.length kc] 26)).out
     clear HLA HKA HBA
     have hap := @ByteArray.size_append
     have fa1 : (9223372036854775807 < 1 + text.size) = False := eq_false (by omega)
     have fa2 : (9223372036854775807 < 1 + text.size + 1) = False := eq_false (by omega)
     go_wp2_with fail
     have HC : Hid (∀ w', Below (w.heap.size + 1) ((w.setCell ⟨L, 0, none⟩ (.int .i64 (c - 1))).alloc (.cells #[.int .i64 12, .string text, .string more, .int .i64 n, .int .u64 bits, .int .u64 high, .slice bA bs.length bc, .slice kA kids.length kc] 26)) w' → Below (w.heap.size + 1) ((w.setCell ⟨L, 0, none⟩ (.int .i64 (c - 1))).alloc (.cells #[.int .i64 12, .string text, .string more, .int .i64 n, .int .u64 bits, .int .u64 high, .slice bA bs.length bc, .slice kA kids.length kc] 26)) w' ∧ w'.cell? ⟨w.heap.size, 1, none⟩ = some (.string text)) := fun w' h => ⟨h, (h.cell (p := ⟨w.heap.size, 1, none⟩) (by show w.heap.size < _; omega)).trans (by simp [go_sem, World.setCell])⟩
     first | (go_must (go_region_held3 (fun w' => Below (w.heap.size + 1) ((w.setCell ⟨L, 0, none⟩ (.int .i64 (c - 1))).alloc (.cells #[.int .i64 12, .string text, .string more, .int .i64 n, .int .u64 bits, .int .u64 high, .slice bA bs.length bc, .slice kA kids.length kc] 26)) w' ∧ w'.cell? ⟨w.heap.size, 1, none⟩ = some (.string text)) (first | assumption | exact HC.out _ (Below.refl _ _).drew | exact HC.out _ HP.out) (first | (go_at_call 21; go_must (refine Calls.mono (ExtString_calls text true (by omega) (textF_utf8 HTT.out) _) ?_; rintro e w6 ⟨u, rfl, hu, hbw⟩; have HP := Lib.hid ((And.left (by assumption : Below (w.heap.size + 1) ((w.setCell ⟨L, 0, none⟩ (.int .i64 (c - 1))).alloc (.cells #[.int .i64 12, .string text, .string more, .int .i64 n, .int .u64 bits, .int .u64 high, .slice bA bs.length bc, .slice kA kids.length kc] 26)) _ ∧ _)).trans (hbw.mono (by simp [World.setCell]))); clear hu hbw; obtain ⟨bb, hbb⟩ : ∃ bb, (u.toList == ((⟨#[34]⟩ : ByteArray) ++ text ++ ⟨#[34]⟩).toList) = bb := ⟨_, rfl⟩))))) | skip
     all_goals (have q7 : w6.cell? ⟨w.heap.size, 7, none⟩ = some (.slice kA kids.length kc) := (HP.out.cell (p := ⟨w.heap.size, 7, none⟩) (by show w.heap.size < _; omega)).trans (by simp [go_sem, World.setCell]))
     all_goals (have HL3 := Lib.hid (HL.out.keeps HP.out (by have := hlt; omega)))
     all_goals (have HK3 := Lib.hid (HK2.out.then_below (HP.out.mono (by omega))))
     all_goals (have HB3 := Lib.hid (HB2.out.trans (HP.out.mono (by have := HB.out.size; omega))))
     all_goals clear HL HK2 HB2 hap fa1 fa2 HC
     all_goals (have HL := HL3; have HK2 := HK3; have HB2 := HB3; clear HL3 HK3 HB3)
     have HRISE : Hid (CRest 12 more bits high) := ⟨fun h => absurd h (by decide), fun h => absurd h (by decide), fun h => absurd h (by decide)⟩
     cases bb
     all_goals (try simp only [Bool.not_true, Bool.not_false])
     ·go_wp2_with fail
      go_ret
      exact CountAns.no rfl HL.out HK2.out
     ·go_wp2_with fail
      go_loopw [10, 116] (fun eb q wr => ∃ (k : Nat) (c2 : Int), k ≤ kids.length ∧ q = .int .i64 k ∧ Hid (c2 = c - 1 - cntTo d kids k) ∧ (0 ≤ c2 ∧ c2 ≤ 300) ∧ Hid (∀ j (h : j < k) (hj : j < kids.length), (kids[j].1.size ≤ 300 ∧ utf8F kids[j].1 = true) ∧ VT.Fitx d kids[j].2) ∧ Hid (LeftAt L c2 wr) ∧ Hid (Keeps w.heap.size [L] w wr) ∧ Hid (Below w0.heap.size w0 wr)) (fun _ q _ => kids.length - (intOf q).toNat)
      case atStart => exact ⟨0, c - 1, Nat.zero_le _, rfl, by show _ = _; simp [cntTo], ⟨by omega, by omega⟩, fun j h => absurd h (Nat.not_lt_zero _), HL.out, HK2.out, HB2.out⟩
      case round =>
       obtain ⟨k, c2, hk, rfl, HC, hc2, HX, HLr, HKr, HBr⟩ := hrel
       by_cases hlt2 : k < kids.length
       ·have hd' : decide ((k : Int) < kids.length) = true := by simp; omega
        obtain ⟨ad, rfl, hkid⟩ := HI.out.2.2 (by omega)
        obtain ⟨p, name, t, hp, hkt, hn, ht, hpb, c0, c1, c2', c3, c4, c5, c6, c7, c8⟩ := VT.kid HBr.out hlt2 hkid
        have HT0 : Hid (VT.In w0 d t) := by have := (hkid k hlt2).2.2.2; rw [hkt] at this; exact this
        have HKT := Lib.hid hkt
        have hLr := HLr.out.lt
        clear hkid hkt ht
        have HLX : Hid (LeftAt L c2 (wr.alloc (.cells #[.string name, .int .i64 t.kind, .string t.text, .string t.more, .int .i64 t.n, .int .u64 t.bits, .int .u64 t.high, .slice t.bA t.bs.length t.bc, .slice t.kA t.kids.length t.kc] 30))) := HLr.out.keeps ((Below.refl _ _).alloc (Nat.le_refl _) _) HLr.out.lt
        have HKX : Hid (Keeps w.heap.size [L] w (wr.alloc (.cells #[.string name, .int .i64 t.kind, .string t.text, .string t.more, .int .i64 t.n, .int .u64 t.bits, .int .u64 t.high, .slice t.bA t.bs.length t.bc, .slice t.kA t.kids.length t.kc] 30))) := HKr.out.alloc (by have := HKr.out.size; exact this) _
        have HBX : Hid (Below w0.heap.size w0 (wr.alloc (.cells #[.string name, .int .i64 t.kind, .string t.text, .string t.more, .int .i64 t.n, .int .u64 t.bits, .int .u64 t.high, .slice t.bA t.bs.length t.bc, .slice t.kA t.kids.length t.kc] 30))) := HBr.out.alloc (by have := HBr.out.size; exact this) _
        cases htn : textF name with
        | false =>
         have HTN := Lib.hid htn
         clear htn
         go_wp2_with fail
         refine (extText_calls name hn _).mono ?_
         rintro e w5 ⟨rfl, rfl⟩
         rw [HTN.out]
         go_wp2_with fail
         go_ret
         exact CountAns.no rfl HLX.out HKX.out
        | true =>
         have HTN := Lib.hid htn
         have hns := textF_size htn
         clear htn
         by_cases hz : name.size = 0
         ·have g := str_empty hz
          go_wp2_with fail
          refine (extText_calls name hn _).mono ?_
          rintro e w5 ⟨rfl, rfl⟩
          rw [HTN.out]
          have hdw : IntKind.i64.wrap (d : Int) = d := by rw [IntKind.wrap_i64]; omega
          go_wp2_with fail
          refine (IH.out t w0 _ L c2 HT0.out HBX.out HLW.out HLX.out hc2.1 hc2.2 (by omega)).mono ?_
          rintro e w6 ⟨⟨b, c3, rfl, hl6, hb6⟩, hk6⟩
          have HL6 := Lib.hid hl6
          have HK6 : Hid (Keeps w.heap.size [L] w w6) := HKX.out.trans (hk6.mono HKX.out.size (fun s hs _ => hs))
          have HB6 : Hid (Below w0.heap.size w0 w6) := HBX.out.trans (hk6.below (by have := HBX.out.size; omega) (by intro s hs; simp at hs; subst hs; exact HLW.out))
          have HR6 := Lib.hid hb6
          clear hl6 hb6 hk6
          cases b
          ·go_wp2_with fail
           go_ret
           exact CountAns.no rfl HL6.out HK6.out
          ·go_wp2_with fail
           obtain ⟨hf6, hc6, hc60⟩ := HR6.out (by first | rfl | trivial)
           have hs6 := cntTo_succ d kids k hlt2
           have hcp := VT.cnt_pos d t
           rw [HKT.out] at hs6
           have hC := HC.out
           go_roundw
           case rel => exact ⟨k + 1, c3, by omega, by (try rw [wrap64_id _ (by omega) (by omega)]); rfl, by show _ = _; rw [hs6, hc6, hC]; push_cast; omega, ⟨hc60, by omega⟩, fit_step HX.out HKT.out ⟨hns, textF_utf8 HTN.out⟩ hf6, HL6.out, HK6.out, HB6.out⟩
           case measure => (try rw [wrap64_id _ (by omega) (by omega)]); simp [intOf] <;> omega
         ·have g := str_pos (s := name) (by omega)
          have g0 := str_at0 (s := name) (by omega)
          by_cases h36 : bt name 0 = 36
          ·have h36b : (bt name 0 == 36) = true := by rw [beq_iff_eq]; exact h36
           go_wp2_with fail
           refine (extText_calls name hn _).mono ?_
           rintro e w5 ⟨rfl, rfl⟩
           rw [HTN.out]
           go_wp2_with fail
           go_ret
           exact CountAns.no rfl HLX.out HKX.out
          ·have h36b : (bt name 0 == 36) = false := by rw [beq_eq_false_iff_ne]; exact h36
           go_wp2_with fail
           refine (extText_calls name hn _).mono ?_
           rintro e w5 ⟨rfl, rfl⟩
           rw [HTN.out]
           have hdw : IntKind.i64.wrap (d : Int) = d := by rw [IntKind.wrap_i64]; omega
           go_wp2_with fail
           refine (IH.out t w0 _ L c2 HT0.out HBX.out HLW.out HLX.out hc2.1 hc2.2 (by omega)).mono ?_
           rintro e w6 ⟨⟨b, c3, rfl, hl6, hb6⟩, hk6⟩
           have HL6 := Lib.hid hl6
           have HK6 : Hid (Keeps w.heap.size [L] w w6) := HKX.out.trans (hk6.mono HKX.out.size (fun s hs _ => hs))
           have HB6 : Hid (Below w0.heap.size w0 w6) := HBX.out.trans (hk6.below (by have := HBX.out.size; omega) (by intro s hs; simp at hs; subst hs; exact HLW.out))
           have HR6 := Lib.hid hb6
           clear hl6 hb6 hk6
           cases b
           ·go_wp2_with fail
            go_ret
            exact CountAns.no rfl HL6.out HK6.out
           ·go_wp2_with fail
            obtain ⟨hf6, hc6, hc60⟩ := HR6.out (by first | rfl | trivial)
            have hs6 := cntTo_succ d kids k hlt2
            have hcp := VT.cnt_pos d t
            rw [HKT.out] at hs6
            have hC := HC.out
            go_roundw
            case rel => exact ⟨k + 1, c3, by omega, by (try rw [wrap64_id _ (by omega) (by omega)]); rfl, by show _ = _; rw [hs6, hc6, hC]; push_cast; omega, ⟨hc60, by omega⟩, fit_step HX.out HKT.out ⟨hns, textF_utf8 HTN.out⟩ hf6, HL6.out, HK6.out, HB6.out⟩
            case measure => (try rw [wrap64_id _ (by omega) (by omega)]); simp [intOf] <;> omega
       ·have hd' : decide ((k : Int) < kids.length) = false := by simp; omega
        obtain rfl : k = kids.length := by omega
        go_wp2_with fail
        go_ret
        refine ⟨⟨true, c2, rfl, HLr.out, fun _ => ⟨⟨⟨⟨ht300, textF_utf8 HTT.out⟩, ⟨hm300, textF_utf8 HTM.out⟩, hbs300, HRISE.out⟩, (by show kids.length ≤ 300; have := cntTo_ge d kids kids.length (Nat.le_refl _); have := HC.out; omega), fun i hi => HX.out i hi hi⟩, ?_, hc2.1⟩⟩, HKr.out⟩
        have h1 := HC.out
        have h2 : cntTo d kids kids.length = (kids.map fun x => x.2.cnt d).sum := by unfold cntTo; rw [List.take_length]
        show c2 = c - ((1 + (kids.map fun x => x.2.cnt d).sum : Nat) : Int)
        rw [← h2]
        omega
    by_cases k19 : kind = 19
    ·subst k19
     have HL := Lib.hid (HLA.out (.cells #[.int .i64 19, .string text, .string more, .int .i64 n, .int .u64 bits, .int .u64 high, .slice bA bs.length bc, .slice kA kids.length kc] 26)).out
     have HK2 := Lib.hid (HKA.out (.cells #[.int .i64 19, .string text, .string more, .int .i64 n, .int .u64 bits, .int .u64 high, .slice bA bs.length bc, .slice kA kids.length kc] 26)).out
     have HB2 := Lib.hid (HBA.out (.cells #[.int .i64 19, .string text, .string more, .int .i64 n, .int .u64 bits, .int .u64 high, .slice bA bs.length bc, .slice kA kids.length kc] 26)).out
     clear HLA HKA HBA
     go_wp2_with fail
     refine (decFits_calls high bits h4.1 h4.2 h3.1 h3.2 _).mono ?_
     rintro e w3 ⟨b, rfl, hbq, hbw⟩
     have q7 : w3.cell? ⟨w.heap.size, 7, none⟩ = some (.slice kA kids.length kc) := (hbw.cell (p := ⟨w.heap.size, 7, none⟩) (by simp [World.setCell])).trans (by simp [go_sem, World.setCell])
     have HBQ := Lib.hid hbq
     clear hbq
     have HL3 := Lib.hid (HL.out.keeps hbw HL.out.lt)
     have HK3 := Lib.hid (HK2.out.then_below (hbw.mono HK2.out.size))
     have HB3 := Lib.hid (HB2.out.trans (hbw.mono HB2.out.size))
     clear HL HK2 HB2 hbw
     have HL := HL3
     have HK2 := HK3
     have HB2 := HB3
     clear HL3 HK3 HB3
     cases b
     ·go_wp2_with fail
      go_ret
      exact CountAns.no rfl HL.out HK2.out
     ·have HRISE : Hid (CRest 19 more bits high) := ⟨fun h => absurd h (by decide), fun _ => HBQ.out (by trivial), fun h => absurd h (by decide)⟩
      go_wp2_with fail
      go_loopw [10, 116] (fun eb q wr => ∃ (k : Nat) (c2 : Int), k ≤ kids.length ∧ q = .int .i64 k ∧ Hid (c2 = c - 1 - cntTo d kids k) ∧ (0 ≤ c2 ∧ c2 ≤ 300) ∧ Hid (∀ j (h : j < k) (hj : j < kids.length), (kids[j].1.size ≤ 300 ∧ utf8F kids[j].1 = true) ∧ VT.Fitx d kids[j].2) ∧ Hid (LeftAt L c2 wr) ∧ Hid (Keeps w.heap.size [L] w wr) ∧ Hid (Below w0.heap.size w0 wr)) (fun _ q _ => kids.length - (intOf q).toNat)
      case atStart => exact ⟨0, c - 1, Nat.zero_le _, rfl, by show _ = _; simp [cntTo], ⟨by omega, by omega⟩, fun j h => absurd h (Nat.not_lt_zero _), HL.out, HK2.out, HB2.out⟩
      case round =>
       obtain ⟨k, c2, hk, rfl, HC, hc2, HX, HLr, HKr, HBr⟩ := hrel
       by_cases hlt2 : k < kids.length
       ·have hd' : decide ((k : Int) < kids.length) = true := by simp; omega
        obtain ⟨ad, rfl, hkid⟩ := HI.out.2.2 (by omega)
        obtain ⟨p, name, t, hp, hkt, hn, ht, hpb, c0, c1, c2', c3, c4, c5, c6, c7, c8⟩ := VT.kid HBr.out hlt2 hkid
        have HT0 : Hid (VT.In w0 d t) := by have := (hkid k hlt2).2.2.2; rw [hkt] at this; exact this
        have HKT := Lib.hid hkt
        have hLr := HLr.out.lt
        clear hkid hkt ht
        have HLX : Hid (LeftAt L c2 (wr.alloc (.cells #[.string name, .int .i64 t.kind, .string t.text, .string t.more, .int .i64 t.n, .int .u64 t.bits, .int .u64 t.high, .slice t.bA t.bs.length t.bc, .slice t.kA t.kids.length t.kc] 30))) := HLr.out.keeps ((Below.refl _ _).alloc (Nat.le_refl _) _) HLr.out.lt
        have HKX : Hid (Keeps w.heap.size [L] w (wr.alloc (.cells #[.string name, .int .i64 t.kind, .string t.text, .string t.more, .int .i64 t.n, .int .u64 t.bits, .int .u64 t.high, .slice t.bA t.bs.length t.bc, .slice t.kA t.kids.length t.kc] 30))) := HKr.out.alloc (by have := HKr.out.size; exact this) _
        have HBX : Hid (Below w0.heap.size w0 (wr.alloc (.cells #[.string name, .int .i64 t.kind, .string t.text, .string t.more, .int .i64 t.n, .int .u64 t.bits, .int .u64 t.high, .slice t.bA t.bs.length t.bc, .slice t.kA t.kids.length t.kc] 30))) := HBr.out.alloc (by have := HBr.out.size; exact this) _
        cases htn : textF name with
        | false =>
         have HTN := Lib.hid htn
         clear htn
         go_wp2_with fail
         refine (extText_calls name hn _).mono ?_
         rintro e w5 ⟨rfl, rfl⟩
         rw [HTN.out]
         go_wp2_with fail
         go_ret
         exact CountAns.no rfl HLX.out HKX.out
        | true =>
         have HTN := Lib.hid htn
         have hns := textF_size htn
         clear htn
         by_cases hz : name.size = 0
         ·have g := str_empty hz
          go_wp2_with fail
          refine (extText_calls name hn _).mono ?_
          rintro e w5 ⟨rfl, rfl⟩
          rw [HTN.out]
          have hdw : IntKind.i64.wrap (d : Int) = d := by rw [IntKind.wrap_i64]; omega
          go_wp2_with fail
          refine (IH.out t w0 _ L c2 HT0.out HBX.out HLW.out HLX.out hc2.1 hc2.2 (by omega)).mono ?_
          rintro e w6 ⟨⟨b, c3, rfl, hl6, hb6⟩, hk6⟩
          have HL6 := Lib.hid hl6
          have HK6 : Hid (Keeps w.heap.size [L] w w6) := HKX.out.trans (hk6.mono HKX.out.size (fun s hs _ => hs))
          have HB6 : Hid (Below w0.heap.size w0 w6) := HBX.out.trans (hk6.below (by have := HBX.out.size; omega) (by intro s hs; simp at hs; subst hs; exact HLW.out))
          have HR6 := Lib.hid hb6
          clear hl6 hb6 hk6
          cases b
          ·go_wp2_with fail
           go_ret
           exact CountAns.no rfl HL6.out HK6.out
          ·go_wp2_with fail
           obtain ⟨hf6, hc6, hc60⟩ := HR6.out (by first | rfl | trivial)
           have hs6 := cntTo_succ d kids k hlt2
           have hcp := VT.cnt_pos d t
           rw [HKT.out] at hs6
           have hC := HC.out
           go_roundw
           case rel => exact ⟨k + 1, c3, by omega, by (try rw [wrap64_id _ (by omega) (by omega)]); rfl, by show _ = _; rw [hs6, hc6, hC]; push_cast; omega, ⟨hc60, by omega⟩, fit_step HX.out HKT.out ⟨hns, textF_utf8 HTN.out⟩ hf6, HL6.out, HK6.out, HB6.out⟩
           case measure => (try rw [wrap64_id _ (by omega) (by omega)]); simp [intOf] <;> omega
         ·have g := str_pos (s := name) (by omega)
          have g0 := str_at0 (s := name) (by omega)
          by_cases h36 : bt name 0 = 36
          ·have h36b : (bt name 0 == 36) = true := by rw [beq_iff_eq]; exact h36
           go_wp2_with fail
           refine (extText_calls name hn _).mono ?_
           rintro e w5 ⟨rfl, rfl⟩
           rw [HTN.out]
           go_wp2_with fail
           go_ret
           exact CountAns.no rfl HLX.out HKX.out
          ·have h36b : (bt name 0 == 36) = false := by rw [beq_eq_false_iff_ne]; exact h36
           go_wp2_with fail
           refine (extText_calls name hn _).mono ?_
           rintro e w5 ⟨rfl, rfl⟩
           rw [HTN.out]
           have hdw : IntKind.i64.wrap (d : Int) = d := by rw [IntKind.wrap_i64]; omega
           go_wp2_with fail
           refine (IH.out t w0 _ L c2 HT0.out HBX.out HLW.out HLX.out hc2.1 hc2.2 (by omega)).mono ?_
           rintro e w6 ⟨⟨b, c3, rfl, hl6, hb6⟩, hk6⟩
           have HL6 := Lib.hid hl6
           have HK6 : Hid (Keeps w.heap.size [L] w w6) := HKX.out.trans (hk6.mono HKX.out.size (fun s hs _ => hs))
           have HB6 : Hid (Below w0.heap.size w0 w6) := HBX.out.trans (hk6.below (by have := HBX.out.size; omega) (by intro s hs; simp at hs; subst hs; exact HLW.out))
           have HR6 := Lib.hid hb6
           clear hl6 hb6 hk6
           cases b
           ·go_wp2_with fail
            go_ret
            exact CountAns.no rfl HL6.out HK6.out
           ·go_wp2_with fail
            obtain ⟨hf6, hc6, hc60⟩ := HR6.out (by first | rfl | trivial)
            have hs6 := cntTo_succ d kids k hlt2
            have hcp := VT.cnt_pos d t
            rw [HKT.out] at hs6
            have hC := HC.out
            go_roundw
            case rel => exact ⟨k + 1, c3, by omega, by (try rw [wrap64_id _ (by omega) (by omega)]); rfl, by show _ = _; rw [hs6, hc6, hC]; push_cast; omega, ⟨hc60, by omega⟩, fit_step HX.out HKT.out ⟨hns, textF_utf8 HTN.out⟩ hf6, HL6.out, HK6.out, HB6.out⟩
            case measure => (try rw [wrap64_id _ (by omega) (by omega)]); simp [intOf] <;> omega
       ·have hd' : decide ((k : Int) < kids.length) = false := by simp; omega
        obtain rfl : k = kids.length := by omega
        go_wp2_with fail
        go_ret
        refine ⟨⟨true, c2, rfl, HLr.out, fun _ => ⟨⟨⟨⟨ht300, textF_utf8 HTT.out⟩, ⟨hm300, textF_utf8 HTM.out⟩, hbs300, HRISE.out⟩, (by show kids.length ≤ 300; have := cntTo_ge d kids kids.length (Nat.le_refl _); have := HC.out; omega), fun i hi => HX.out i hi hi⟩, ?_, hc2.1⟩⟩, HKr.out⟩
        have h1 := HC.out
        have h2 : cntTo d kids kids.length = (kids.map fun x => x.2.cnt d).sum := by unfold cntTo; rw [List.take_length]
        show c2 = c - ((1 + (kids.map fun x => x.2.cnt d).sum : Nat) : Int)
        rw [← h2]
        omega
    by_cases k11 : kind = 11
    ·subst k11
     have HL := Lib.hid (HLA.out (.cells #[.int .i64 11, .string text, .string more, .int .i64 n, .int .u64 bits, .int .u64 high, .slice bA bs.length bc, .slice kA kids.length kc] 26)).out
     have HK2 := Lib.hid (HKA.out (.cells #[.int .i64 11, .string text, .string more, .int .i64 n, .int .u64 bits, .int .u64 high, .slice bA bs.length bc, .slice kA kids.length kc] 26)).out
     have HB2 := Lib.hid (HBA.out (.cells #[.int .i64 11, .string text, .string more, .int .i64 n, .int .u64 bits, .int .u64 high, .slice bA bs.length bc, .slice kA kids.length kc] 26)).out
     clear HLA HKA HBA
     go_wp2_with fail
     have hbw : Below (w.heap.size + 1) ((w.setCell ⟨L, 0, none⟩ (.int .i64 (c - 1))).alloc (.cells #[.int .i64 11, .string text, .string more, .int .i64 n, .int .u64 bits, .int .u64 high, .slice bA bs.length bc, .slice kA kids.length kc] 26)) (((w.setCell ⟨L, 0, none⟩ (.int .i64 (c - 1))).alloc (.cells #[.int .i64 11, .string text, .string more, .int .i64 n, .int .u64 bits, .int .u64 high, .slice bA bs.length bc, .slice kA kids.length kc] 26)).iter more 0) := ⟨rfl, rfl, rfl, by simp [World.iter], fun k hk => Below.heap_alloc _ _ _ (by simp [World.setCell]; omega)⟩
     have HLi := Lib.hid (HL.out.keeps hbw (by omega))
     have HKi := Lib.hid (HK2.out.then_below (hbw.mono (by omega)))
     have HBi := Lib.hid (HB2.out.trans (hbw.mono (by have := HB.out.size; omega)))
     have ci2 : (((w.setCell ⟨L, 0, none⟩ (.int .i64 (c - 1))).alloc (.cells #[.int .i64 11, .string text, .string more, .int .i64 n, .int .u64 bits, .int .u64 high, .slice bA bs.length bc, .slice kA kids.length kc] 26)).iter more 0).cell? ⟨w.heap.size, 2, none⟩ = some (.string more) := (hbw.cell (p := ⟨w.heap.size, 2, none⟩) (by show w.heap.size < _; omega)).trans (by simp [go_sem, World.setCell])
     have ci7 : (((w.setCell ⟨L, 0, none⟩ (.int .i64 (c - 1))).alloc (.cells #[.int .i64 11, .string text, .string more, .int .i64 n, .int .u64 bits, .int .u64 high, .slice bA bs.length bc, .slice kA kids.length kc] 26)).iter more 0).cell? ⟨w.heap.size, 7, none⟩ = some (.slice kA kids.length kc) := (hbw.cell (p := ⟨w.heap.size, 7, none⟩) (by show w.heap.size < _; omega)).trans (by simp [go_sem, World.setCell])
     have hii : (((w.setCell ⟨L, 0, none⟩ (.int .i64 (c - 1))).alloc (.cells #[.int .i64 11, .string text, .string more, .int .i64 n, .int .u64 bits, .int .u64 high, .slice bA bs.length bc, .slice kA kids.length kc] 26)).iter more 0).heap[w.heap.size + 1]? = some (.stringIter more 0) := by
      show (((w.setCell ⟨L, 0, none⟩ (.int .i64 (c - 1))).alloc (.cells #[.int .i64 11, .string text, .string more, .int .i64 n, .int .u64 bits, .int .u64 high, .slice bA bs.length bc, .slice kA kids.length kc] 26)).heap.push _)[w.heap.size + 1]? = _
      rw [Array.getElem?_push, if_pos (by simp [World.setCell])]
     clear HL HK2 HB2 hbw
     go_loopw [8] (fun ib wr => ∃ pos : Nat, pos ≤ more.size ∧ Hid (RisesTo more pos) ∧ wr.heap[w.heap.size + 1]? = some (.stringIter more pos) ∧ Hid (LeftAt L (c - 1) wr) ∧ Hid (Keeps w.heap.size [L] w wr) ∧ Hid (Below w0.heap.size w0 wr) ∧ wr.cell? ⟨w.heap.size, 2, none⟩ = some (.string more) ∧ wr.cell? ⟨w.heap.size, 7, none⟩ = some (.slice kA kids.length kc)) (fun _ wr => more.size - wr.iterPos (w.heap.size + 1))
     case atStart => exact ⟨0, Nat.zero_le _, fun j h => absurd h (Nat.not_lt_zero _), hii, HLi.out, HKi.out, HBi.out, ci2, ci7⟩
     case round =>
      obtain ⟨pos, hpl, HP, hIt, HLr, HKr, HBr, c2r, c7r⟩ := hrel
      by_cases hp : pos < more.size
      ·have hnext := fun ty => Lib.run_next_any_at (P := Tryz.prog) wr (w.heap.size + 1) more pos ty hIt hp
       have hIt3 := Lib.iterAt_heap wr (w.heap.size + 1) more pos (pos + (Utf8.decode more pos).2) hIt
       have hb3 := Lib.below_iterAt (Below.refl (w.heap.size + 1) wr) (Nat.le_refl _) more (pos + (Utf8.decode more pos).2)
       generalize wr.iterAt (w.heap.size + 1) more (pos + (Utf8.decode more pos).2) = w3 at hnext hIt3 hb3
       have c23 := (hb3.cell (p := ⟨w.heap.size, 2, none⟩) (by show w.heap.size < _; omega)).trans c2r
       have c27 := (hb3.cell (p := ⟨w.heap.size, 7, none⟩) (by show w.heap.size < _; omega)).trans c7r
       have HL3 := Lib.hid (HLr.out.keeps hb3 (by omega))
       have HK3 := Lib.hid (HKr.out.then_below (hb3.mono (by omega)))
       have HB3 := Lib.hid (HBr.out.trans (hb3.mono (by have := HB.out.size; omega)))
       have hat := bt_at more pos hp
       have hml : more.size ≤ 300 := hm300
       clear hb3
       by_cases z1 : bt more pos < 97
       ·have d1 : decide (bt more pos < 97) = true := decide_eq_true z1
        go_wp2_with fail
        go_quiet (fail)
        go_wp2_with fail
        go_ret
        exact CountAns.no rfl (HL3.out.keeps (pw_below_drewN (Below.refl _ _) nq) HL3.out.lt) (HK3.out.drewN nq)
       have d1 : decide (bt more pos < 97) = false := decide_eq_false z1
       by_cases z2 : 122 < bt more pos
       ·have d2 : decide (122 < bt more pos) = true := decide_eq_true z2
        go_wp2_with fail
        go_quiet (fail)
        go_wp2_with fail
        go_ret
        exact CountAns.no rfl (HL3.out.keeps (pw_below_drewN (Below.refl _ _) nq) HL3.out.lt) (HK3.out.drewN nq)
       have d2 : decide (122 < bt more pos) = false := decide_eq_false z2
       have hdec2 : (Utf8.decode more pos).2 = 1 := by rw [decode_ascii more pos hp (by omega)]
       rw [hdec2] at hIt3
       clear hdec2
       by_cases z3 : pos = 0
       ·subst z3
        go_wp2_with fail
        go_quiet (fail)
        go_wp2_with fail
        go_roundw
        case rel => exact ⟨0 + 1, by omega, rises_step HP.out (by omega) (by omega) (fun h => absurd h (by omega)), by first | exact hIt3 | simpa [go_sem] using hIt3, (HL3.out.keeps (pw_below_drewN (Below.refl _ _) nq) HL3.out.lt), HK3.out.drewN nq, pw_below_drewN HB3.out nq, by simpa [go_sem] using c23, by simpa [go_sem] using c27⟩
        case measure => simp [World.iterPos, hIt, hIt3] <;> omega
       ·obtain ⟨q, rfl⟩ : ∃ q, pos = q + 1 := ⟨pos - 1, by omega⟩
        have d3 : decide (0 < ((q + 1 : Nat) : Int)) = true := by simp <;> omega
        have hat2 := bt_at more q (by omega)
        by_cases z4 : bt more (q + 1) < bt more q
        ·have d4 : decide (bt more (q + 1) < bt more q) = true := decide_eq_true z4
         go_wp2_with fail
         go_quiet (fail)
         go_wp2_with fail
         go_ret
         exact CountAns.no rfl (HL3.out.keeps (pw_below_drewN (Below.refl _ _) nq) HL3.out.lt) (HK3.out.drewN nq)
        ·have d4 : decide (bt more (q + 1) < bt more q) = false := decide_eq_false z4
         go_wp2_with fail
         go_quiet (fail)
         go_wp2_with fail
         go_roundw
         case rel => exact ⟨q + 1 + 1, by omega, rises_step HP.out (by omega) (by omega) (fun _ => by rw [Nat.add_sub_cancel]; omega), by first | exact hIt3 | simpa [go_sem] using hIt3, (HL3.out.keeps (pw_below_drewN (Below.refl _ _) nq) HL3.out.lt), HK3.out.drewN nq, pw_below_drewN HB3.out nq, by simpa [go_sem] using c23, by simpa [go_sem] using c27⟩
         case measure => simp [World.iterPos, hIt, hIt3] <;> omega
      ·have hnext := fun ty => Lib.run_next_end_at (P := Tryz.prog) wr (w.heap.size + 1) more pos ty hIt hp
       have HRISE : Hid (CRest 11 more bits high) := ⟨fun _ => fun j hj => HP.out j (by omega), fun h => absurd h (by decide), fun h => absurd h (by decide)⟩
       have HL := Lib.hid HLr.out
       have HK2 := Lib.hid HKr.out
       have HB2 := Lib.hid HBr.out
       go_wp2_with fail
       go_loopw [10, 116] (fun eb q wr => ∃ (k : Nat) (c2 : Int), k ≤ kids.length ∧ q = .int .i64 k ∧ Hid (c2 = c - 1 - cntTo d kids k) ∧ (0 ≤ c2 ∧ c2 ≤ 300) ∧ Hid (∀ j (h : j < k) (hj : j < kids.length), (kids[j].1.size ≤ 300 ∧ utf8F kids[j].1 = true) ∧ VT.Fitx d kids[j].2) ∧ Hid (LeftAt L c2 wr) ∧ Hid (Keeps w.heap.size [L] w wr) ∧ Hid (Below w0.heap.size w0 wr)) (fun _ q _ => kids.length - (intOf q).toNat)
       case atStart => exact ⟨0, c - 1, Nat.zero_le _, rfl, by show _ = _; simp [cntTo], ⟨by omega, by omega⟩, fun j h => absurd h (Nat.not_lt_zero _), HL.out, HK2.out, HB2.out⟩
       case round =>
        obtain ⟨k, c2, hk, rfl, HC, hc2, HX, HLr, HKr, HBr⟩ := hrel
        by_cases hlt2 : k < kids.length
        ·have hd' : decide ((k : Int) < kids.length) = true := by simp; omega
         obtain ⟨ad, rfl, hkid⟩ := HI.out.2.2 (by omega)
         obtain ⟨p, name, t, hp, hkt, hn, ht, hpb, c0, c1, c2', c3, c4, c5, c6, c7, c8⟩ := VT.kid HBr.out hlt2 hkid
         have HT0 : Hid (VT.In w0 d t) := by have := (hkid k hlt2).2.2.2; rw [hkt] at this; exact this
         have HKT := Lib.hid hkt
         have hLr := HLr.out.lt
         clear hkid hkt ht
         have HLX : Hid (LeftAt L c2 (wr.alloc (.cells #[.string name, .int .i64 t.kind, .string t.text, .string t.more, .int .i64 t.n, .int .u64 t.bits, .int .u64 t.high, .slice t.bA t.bs.length t.bc, .slice t.kA t.kids.length t.kc] 30))) := HLr.out.keeps ((Below.refl _ _).alloc (Nat.le_refl _) _) HLr.out.lt
         have HKX : Hid (Keeps w.heap.size [L] w (wr.alloc (.cells #[.string name, .int .i64 t.kind, .string t.text, .string t.more, .int .i64 t.n, .int .u64 t.bits, .int .u64 t.high, .slice t.bA t.bs.length t.bc, .slice t.kA t.kids.length t.kc] 30))) := HKr.out.alloc (by have := HKr.out.size; exact this) _
         have HBX : Hid (Below w0.heap.size w0 (wr.alloc (.cells #[.string name, .int .i64 t.kind, .string t.text, .string t.more, .int .i64 t.n, .int .u64 t.bits, .int .u64 t.high, .slice t.bA t.bs.length t.bc, .slice t.kA t.kids.length t.kc] 30))) := HBr.out.alloc (by have := HBr.out.size; exact this) _
         cases htn : textF name with
         | false =>
          have HTN := Lib.hid htn
          clear htn
          go_wp2_with fail
          refine (extText_calls name hn _).mono ?_
          rintro e w5 ⟨rfl, rfl⟩
          rw [HTN.out]
          go_wp2_with fail
          go_ret
          exact CountAns.no rfl HLX.out HKX.out
         | true =>
          have HTN := Lib.hid htn
          have hns := textF_size htn
          clear htn
          by_cases hz : name.size = 0
          ·have g := str_empty hz
           go_wp2_with fail
           refine (extText_calls name hn _).mono ?_
           rintro e w5 ⟨rfl, rfl⟩
           rw [HTN.out]
           have hdw : IntKind.i64.wrap (d : Int) = d := by rw [IntKind.wrap_i64]; omega
           go_wp2_with fail
           refine (IH.out t w0 _ L c2 HT0.out HBX.out HLW.out HLX.out hc2.1 hc2.2 (by omega)).mono ?_
           rintro e w6 ⟨⟨b, c3, rfl, hl6, hb6⟩, hk6⟩
           have HL6 := Lib.hid hl6
           have HK6 : Hid (Keeps w.heap.size [L] w w6) := HKX.out.trans (hk6.mono HKX.out.size (fun s hs _ => hs))
           have HB6 : Hid (Below w0.heap.size w0 w6) := HBX.out.trans (hk6.below (by have := HBX.out.size; omega) (by intro s hs; simp at hs; subst hs; exact HLW.out))
           have HR6 := Lib.hid hb6
           clear hl6 hb6 hk6
           cases b
           ·go_wp2_with fail
            go_ret
            exact CountAns.no rfl HL6.out HK6.out
           ·go_wp2_with fail
            obtain ⟨hf6, hc6, hc60⟩ := HR6.out (by first | rfl | trivial)
            have hs6 := cntTo_succ d kids k hlt2
            have hcp := VT.cnt_pos d t
            rw [HKT.out] at hs6
            have hC := HC.out
            go_roundw
            case rel => exact ⟨k + 1, c3, by omega, by (try rw [wrap64_id _ (by omega) (by omega)]); rfl, by show _ = _; rw [hs6, hc6, hC]; push_cast; omega, ⟨hc60, by omega⟩, fit_step HX.out HKT.out ⟨hns, textF_utf8 HTN.out⟩ hf6, HL6.out, HK6.out, HB6.out⟩
            case measure => (try rw [wrap64_id _ (by omega) (by omega)]); simp [intOf] <;> omega
          ·have g := str_pos (s := name) (by omega)
           have g0 := str_at0 (s := name) (by omega)
           by_cases h36 : bt name 0 = 36
           ·have h36b : (bt name 0 == 36) = true := by rw [beq_iff_eq]; exact h36
            go_wp2_with fail
            refine (extText_calls name hn _).mono ?_
            rintro e w5 ⟨rfl, rfl⟩
            rw [HTN.out]
            go_wp2_with fail
            go_ret
            exact CountAns.no rfl HLX.out HKX.out
           ·have h36b : (bt name 0 == 36) = false := by rw [beq_eq_false_iff_ne]; exact h36
            go_wp2_with fail
            refine (extText_calls name hn _).mono ?_
            rintro e w5 ⟨rfl, rfl⟩
            rw [HTN.out]
            have hdw : IntKind.i64.wrap (d : Int) = d := by rw [IntKind.wrap_i64]; omega
            go_wp2_with fail
            refine (IH.out t w0 _ L c2 HT0.out HBX.out HLW.out HLX.out hc2.1 hc2.2 (by omega)).mono ?_
            rintro e w6 ⟨⟨b, c3, rfl, hl6, hb6⟩, hk6⟩
            have HL6 := Lib.hid hl6
            have HK6 : Hid (Keeps w.heap.size [L] w w6) := HKX.out.trans (hk6.mono HKX.out.size (fun s hs _ => hs))
            have HB6 : Hid (Below w0.heap.size w0 w6) := HBX.out.trans (hk6.below (by have := HBX.out.size; omega) (by intro s hs; simp at hs; subst hs; exact HLW.out))
            have HR6 := Lib.hid hb6
            clear hl6 hb6 hk6
            cases b
            ·go_wp2_with fail
             go_ret
             exact CountAns.no rfl HL6.out HK6.out
            ·go_wp2_with fail
             obtain ⟨hf6, hc6, hc60⟩ := HR6.out (by first | rfl | trivial)
             have hs6 := cntTo_succ d kids k hlt2
             have hcp := VT.cnt_pos d t
             rw [HKT.out] at hs6
             have hC := HC.out
             go_roundw
             case rel => exact ⟨k + 1, c3, by omega, by (try rw [wrap64_id _ (by omega) (by omega)]); rfl, by show _ = _; rw [hs6, hc6, hC]; push_cast; omega, ⟨hc60, by omega⟩, fit_step HX.out HKT.out ⟨hns, textF_utf8 HTN.out⟩ hf6, HL6.out, HK6.out, HB6.out⟩
             case measure => (try rw [wrap64_id _ (by omega) (by omega)]); simp [intOf] <;> omega
        ·have hd' : decide ((k : Int) < kids.length) = false := by simp; omega
         obtain rfl : k = kids.length := by omega
         go_wp2_with fail
         go_ret
         refine ⟨⟨true, c2, rfl, HLr.out, fun _ => ⟨⟨⟨⟨ht300, textF_utf8 HTT.out⟩, ⟨hm300, textF_utf8 HTM.out⟩, hbs300, HRISE.out⟩, (by show kids.length ≤ 300; have := cntTo_ge d kids kids.length (Nat.le_refl _); have := HC.out; omega), fun i hi => HX.out i hi hi⟩, ?_, hc2.1⟩⟩, HKr.out⟩
         have h1 := HC.out
         have h2 : cntTo d kids kids.length = (kids.map fun x => x.2.cnt d).sum := by unfold cntTo; rw [List.take_length]
         show c2 = c - ((1 + (kids.map fun x => x.2.cnt d).sum : Nat) : Int)
         rw [← h2]
         omega
    have f1 : (kind == 1) = false := by rw [beq_eq_false_iff_ne]; exact k1
    have f12 : (kind == 12) = false := by rw [beq_eq_false_iff_ne]; exact k12
    have f19 : (kind == 19) = false := by rw [beq_eq_false_iff_ne]; exact k19
    have f11 : (kind == 11) = false := by rw [beq_eq_false_iff_ne]; exact k11
    have HRISE : Hid (CRest kind more bits high) := ⟨fun h => absurd h k11, fun h => absurd h k19, fun h => absurd h k1⟩
    clear k1 k12 k19 k11
    have HL := Lib.hid (HLA.out (.cells #[.int .i64 kind, .string text, .string more, .int .i64 n, .int .u64 bits, .int .u64 high, .slice bA bs.length bc, .slice kA kids.length kc] 26)).out
    have HK2 := Lib.hid (HKA.out (.cells #[.int .i64 kind, .string text, .string more, .int .i64 n, .int .u64 bits, .int .u64 high, .slice bA bs.length bc, .slice kA kids.length kc] 26)).out
    have HB2 := Lib.hid (HBA.out (.cells #[.int .i64 kind, .string text, .string more, .int .i64 n, .int .u64 bits, .int .u64 high, .slice bA bs.length bc, .slice kA kids.length kc] 26)).out
    clear HLA HKA HBA
    go_wp2_with fail
    go_loopw [10, 116] (fun eb q wr => ∃ (k : Nat) (c2 : Int), k ≤ kids.length ∧ q = .int .i64 k ∧ Hid (c2 = c - 1 - cntTo d kids k) ∧ (0 ≤ c2 ∧ c2 ≤ 300) ∧ Hid (∀ j (h : j < k) (hj : j < kids.length), (kids[j].1.size ≤ 300 ∧ utf8F kids[j].1 = true) ∧ VT.Fitx d kids[j].2) ∧ Hid (LeftAt L c2 wr) ∧ Hid (Keeps w.heap.size [L] w wr) ∧ Hid (Below w0.heap.size w0 wr)) (fun _ q _ => kids.length - (intOf q).toNat)
    case atStart => exact ⟨0, c - 1, Nat.zero_le _, rfl, by show _ = _; simp [cntTo], ⟨by omega, by omega⟩, fun j h => absurd h (Nat.not_lt_zero _), HL.out, HK2.out, HB2.out⟩
    case round =>
     obtain ⟨k, c2, hk, rfl, HC, hc2, HX, HLr, HKr, HBr⟩ := hrel
     by_cases hlt2 : k < kids.length
     ·have hd' : decide ((k : Int) < kids.length) = true := by simp; omega
      obtain ⟨ad, rfl, hkid⟩ := HI.out.2.2 (by omega)
      obtain ⟨p, name, t, hp, hkt, hn, ht, hpb, c0, c1, c2', c3, c4, c5, c6, c7, c8⟩ := VT.kid HBr.out hlt2 hkid
      have HT0 : Hid (VT.In w0 d t) := by have := (hkid k hlt2).2.2.2; rw [hkt] at this; exact this
      have HKT := Lib.hid hkt
      have hLr := HLr.out.lt
      clear hkid hkt ht
      have HLX : Hid (LeftAt L c2 (wr.alloc (.cells #[.string name, .int .i64 t.kind, .string t.text, .string t.more, .int .i64 t.n, .int .u64 t.bits, .int .u64 t.high, .slice t.bA t.bs.length t.bc, .slice t.kA t.kids.length t.kc] 30))) := HLr.out.keeps ((Below.refl _ _).alloc (Nat.le_refl _) _) HLr.out.lt
      have HKX : Hid (Keeps w.heap.size [L] w (wr.alloc (.cells #[.string name, .int .i64 t.kind, .string t.text, .string t.more, .int .i64 t.n, .int .u64 t.bits, .int .u64 t.high, .slice t.bA t.bs.length t.bc, .slice t.kA t.kids.length t.kc] 30))) := HKr.out.alloc (by have := HKr.out.size; exact this) _
      have HBX : Hid (Below w0.heap.size w0 (wr.alloc (.cells #[.string name, .int .i64 t.kind, .string t.text, .string t.more, .int .i64 t.n, .int .u64 t.bits, .int .u64 t.high, .slice t.bA t.bs.length t.bc, .slice t.kA t.kids.length t.kc] 30))) := HBr.out.alloc (by have := HBr.out.size; exact this) _
      cases htn : textF name with
      | false =>
       have HTN := Lib.hid htn
       clear htn
       go_wp2_with fail
       refine (extText_calls name hn _).mono ?_
       rintro e w5 ⟨rfl, rfl⟩
       rw [HTN.out]
       go_wp2_with fail
       go_ret
       exact CountAns.no rfl HLX.out HKX.out
      | true =>
       have HTN := Lib.hid htn
       have hns := textF_size htn
       clear htn
       by_cases hz : name.size = 0
       ·have g := str_empty hz
        go_wp2_with fail
        refine (extText_calls name hn _).mono ?_
        rintro e w5 ⟨rfl, rfl⟩
        rw [HTN.out]
        have hdw : IntKind.i64.wrap (d : Int) = d := by rw [IntKind.wrap_i64]; omega
        go_wp2_with fail
        refine (IH.out t w0 _ L c2 HT0.out HBX.out HLW.out HLX.out hc2.1 hc2.2 (by omega)).mono ?_
        rintro e w6 ⟨⟨b, c3, rfl, hl6, hb6⟩, hk6⟩
        have HL6 := Lib.hid hl6
        have HK6 : Hid (Keeps w.heap.size [L] w w6) := HKX.out.trans (hk6.mono HKX.out.size (fun s hs _ => hs))
        have HB6 : Hid (Below w0.heap.size w0 w6) := HBX.out.trans (hk6.below (by have := HBX.out.size; omega) (by intro s hs; simp at hs; subst hs; exact HLW.out))
        have HR6 := Lib.hid hb6
        clear hl6 hb6 hk6
        cases b
        ·go_wp2_with fail
         go_ret
         exact CountAns.no rfl HL6.out HK6.out
        ·go_wp2_with fail
         obtain ⟨hf6, hc6, hc60⟩ := HR6.out (by first | rfl | trivial)
         have hs6 := cntTo_succ d kids k hlt2
         have hcp := VT.cnt_pos d t
         rw [HKT.out] at hs6
         have hC := HC.out
         go_roundw
         case rel => exact ⟨k + 1, c3, by omega, by (try rw [wrap64_id _ (by omega) (by omega)]); rfl, by show _ = _; rw [hs6, hc6, hC]; push_cast; omega, ⟨hc60, by omega⟩, fit_step HX.out HKT.out ⟨hns, textF_utf8 HTN.out⟩ hf6, HL6.out, HK6.out, HB6.out⟩
         case measure => (try rw [wrap64_id _ (by omega) (by omega)]); simp [intOf] <;> omega
       ·have g := str_pos (s := name) (by omega)
        have g0 := str_at0 (s := name) (by omega)
        by_cases h36 : bt name 0 = 36
        ·have h36b : (bt name 0 == 36) = true := by rw [beq_iff_eq]; exact h36
         go_wp2_with fail
         refine (extText_calls name hn _).mono ?_
         rintro e w5 ⟨rfl, rfl⟩
         rw [HTN.out]
         go_wp2_with fail
         go_ret
         exact CountAns.no rfl HLX.out HKX.out
        ·have h36b : (bt name 0 == 36) = false := by rw [beq_eq_false_iff_ne]; exact h36
         go_wp2_with fail
         refine (extText_calls name hn _).mono ?_
         rintro e w5 ⟨rfl, rfl⟩
         rw [HTN.out]
         have hdw : IntKind.i64.wrap (d : Int) = d := by rw [IntKind.wrap_i64]; omega
         go_wp2_with fail
         refine (IH.out t w0 _ L c2 HT0.out HBX.out HLW.out HLX.out hc2.1 hc2.2 (by omega)).mono ?_
         rintro e w6 ⟨⟨b, c3, rfl, hl6, hb6⟩, hk6⟩
         have HL6 := Lib.hid hl6
         have HK6 : Hid (Keeps w.heap.size [L] w w6) := HKX.out.trans (hk6.mono HKX.out.size (fun s hs _ => hs))
         have HB6 : Hid (Below w0.heap.size w0 w6) := HBX.out.trans (hk6.below (by have := HBX.out.size; omega) (by intro s hs; simp at hs; subst hs; exact HLW.out))
         have HR6 := Lib.hid hb6
         clear hl6 hb6 hk6
         cases b
         ·go_wp2_with fail
          go_ret
          exact CountAns.no rfl HL6.out HK6.out
         ·go_wp2_with fail
          obtain ⟨hf6, hc6, hc60⟩ := HR6.out (by first | rfl | trivial)
          have hs6 := cntTo_succ d kids k hlt2
          have hcp := VT.cnt_pos d t
          rw [HKT.out] at hs6
          have hC := HC.out
          go_roundw
          case rel => exact ⟨k + 1, c3, by omega, by (try rw [wrap64_id _ (by omega) (by omega)]); rfl, by show _ = _; rw [hs6, hc6, hC]; push_cast; omega, ⟨hc60, by omega⟩, fit_step HX.out HKT.out ⟨hns, textF_utf8 HTN.out⟩ hf6, HL6.out, HK6.out, HB6.out⟩
          case measure => (try rw [wrap64_id _ (by omega) (by omega)]); simp [intOf] <;> omega
     ·have hd' : decide ((k : Int) < kids.length) = false := by simp; omega
      obtain rfl : k = kids.length := by omega
      go_wp2_with fail
      go_ret
      refine ⟨⟨true, c2, rfl, HLr.out, fun _ => ⟨⟨⟨⟨ht300, textF_utf8 HTT.out⟩, ⟨hm300, textF_utf8 HTM.out⟩, hbs300, HRISE.out⟩, (by show kids.length ≤ 300; have := cntTo_ge d kids kids.length (Nat.le_refl _); have := HC.out; omega), fun i hi => HX.out i hi hi⟩, ?_, hc2.1⟩⟩, HKr.out⟩
      have h1 := HC.out
      have h2 : cntTo d kids kids.length = (kids.map fun x => x.2.cnt d).sum := by unfold cntTo; rw [List.take_length]
      show c2 = c - ((1 + (kids.map fun x => x.2.cnt d).sum : Nat) : Int)
      rw [← h2]
      omega
end Go.Proofs.YtkeakdjbidbegaaGreatDoor
