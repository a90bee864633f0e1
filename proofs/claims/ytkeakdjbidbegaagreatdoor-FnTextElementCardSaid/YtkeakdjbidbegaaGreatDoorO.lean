/- A part of the proof that laws.FnTextElement returns true at every input: Fmd, Dm, Dstr, Dst2. -/
import Derived.Test.YtkeakdjbidbegaaGreatDoorH
import Derived.Test.YtkeakdjbidbegaaGreatDoorI
import Derived.Lib.OthersKept
import Derived.Test.YtkeakdjbidbegaaGreatDoorC
import Derived.Test.YtkeakdjbidbegaaGreatDoorD
import Derived.Test.YtkeakdjbidbegaaGreatDoorM
import Derived.Deep.Cut
import Derived.Deep.CutRange
import Derived.Deep.CutBlock
import Derived.Deep.DeepCutAuto
set_option linter.unusedSimpArgs false
set_option linter.unusedVariables false
set_option maxRecDepth 100000
set_option maxHeartbeats 8000000
namespace Go.Proofs.YtkeakdjbidbegaaGreatDoor
open Go.RowKit
open Go.Proofs.YtkeakdjbidbegaaGreatDoorW.PrintWords
theorem bt_low {s : ByteArray} {l : List Int} (h : StrIs s l) (hl : Low l) : ∀ j, j < l.length → bt s j = rn l j := fun j hj => StrIs.bt h (fun x hx => by have := hl x hx; omega) j hj
theorem zzIndexRune_calls (l : List Int) (hl : Low l) (hlen : l.length ≤ 400) (w : World) :
  Calls Tryz.prog 151 #[.string (strOfNums l), .int .i32 46] w fun e w' => ∃ k : Int, e = .returned (.int .i64 k) ∧ (0 ≤ k ↔ 46 ∈ l) ∧ Below w.heap.size w w' := by
 obtain ⟨s, hs⟩ : ∃ s, strOfNums l = s := ⟨_, rfl⟩
 have hS : StrIs s l := ⟨hs.symm⟩
 have hsz : s.size = l.length := hS.size
 have HBT := Lib.hid (bt_low hS hl)
 have HLOW := Lib.hid hl
 rw [hs]
 clear hs hS hl
 go_enter Tryz.func151, Tryz.ntmps151
 go_wp2_with fail
 have hbw : Below w.heap.size w (w.iter s 0) := ⟨rfl, rfl, rfl, by simp [World.iter], fun k hk => Below.heap_alloc _ _ _ hk⟩
 have HB := Lib.hid hbw
 have hii : (w.iter s 0).heap[w.heap.size]? = some (.stringIter s 0) := by
  show (w.heap.push _)[w.heap.size]? = _
  rw [Array.getElem?_push, if_pos rfl]
 clear hbw
 go_loopw [5] (fun _ wr => ∃ pos : Nat, pos ≤ s.size ∧ Hid (∀ j, j < pos → rn l j ≠ 46) ∧ wr.heap[w.heap.size]? = some (.stringIter s pos) ∧ Hid (Below w.heap.size w wr)) (fun _ wr => s.size - wr.iterPos w.heap.size)
 case atStart => exact ⟨0, Nat.zero_le _, fun j h => absurd h (Nat.not_lt_zero _), hii, HB.out⟩
 case round =>
  obtain ⟨pos, hpl, HP, hIt, HBr⟩ := hrel
  by_cases hp : pos < s.size
  ·have hlow := HLOW.out (rn l pos) (by rw [rn_lt (by omega)]; exact List.getElem_mem _)
   have hat := bt_at s pos hp
   rw [HBT.out pos (by omega)] at hat
   have hnext := fun ty => Lib.run_next_any_at (P := Tryz.prog) wr w.heap.size s pos ty hIt hp
   have hIt3 := Lib.iterAt_heap wr w.heap.size s pos (pos + (Utf8.decode s pos).2) hIt
   have hb3 := Lib.below_iterAt (Below.refl w.heap.size wr) (Nat.le_refl _) s (pos + (Utf8.decode s pos).2)
   have hdec : Utf8.decode s pos = ((s[pos]'hp).toNat, 1) := decode_ascii s pos hp (by omega)
   rw [hdec] at hIt3 hb3 hnext
   generalize wr.iterAt w.heap.size s (pos + 1) = w3 at hnext hIt3 hb3
   have HB3 := Lib.hid (HBr.out.trans hb3)
   simp only [hat] at hnext
   clear hb3 hdec
   by_cases h46 : rn l pos = 46
   ·have hm : 46 ∈ l := by rw [← h46, rn_lt (by omega)]; exact List.getElem_mem _
    have e1 : (rn l pos == 46) = true := beq_iff_eq.2 h46
    go_wp2_with fail
    go_ret
    exact ⟨(pos : Int), rfl, by omega, HB3.out⟩
   ·have e1 : (rn l pos == 46) = false := beq_eq_false_iff_ne.2 h46
    go_wp2_with fail
    refine ⟨⟨pos + 1, by omega, fun j hj => ?_, hIt3, HB3.out⟩, by simp [World.iterPos, hIt, hIt3] <;> omega⟩
    by_cases hj2 : j = pos
    ·subst hj2; exact h46
    ·exact HP.out j (by omega)
  ·have hnext := fun ty => Lib.run_next_end_at (P := Tryz.prog) wr w.heap.size s pos ty hIt hp
   go_wp2_with fail
   go_ret
   refine ⟨-1, rfl, ⟨fun h => absurd h (by decide), fun hm => ?_⟩, HBr.out⟩
   obtain ⟨j, hj, he⟩ := List.getElem_of_mem hm
   exact absurd (by rw [rn_lt hj]; exact he) (HP.out j (by omega))
theorem zzContainsRune_calls (l : List Int) (hl : Low l) (hlen : l.length ≤ 400) (w : World) :
  Calls Tryz.prog 116 #[.string (strOfNums l), .int .i32 46] w fun e w' => e = .returned (.bool (decide (46 ∈ l))) ∧ Below w.heap.size w w' := by
 have HC := Lib.hid (zzIndexRune_calls l hl hlen w)
 clear hl hlen
 go_enter Tryz.func116, Tryz.ntmps116
 go_wp2_with fail
 refine HC.out.mono ?_
 rintro e w1 ⟨k, rfl, hk, hw⟩
 have HW := Lib.hid hw
 have HK : Hid (decide (0 ≤ k) = decide (46 ∈ l)) := decide_eq_decide.2 hk
 clear hk hw
 go_wp2_with fail
 go_ret
 exact ⟨by rw [← HK.out]; rfl, HW.out⟩
theorem formatDouble_of (n : Nat) (bU bD : Bool) (ys : List Int) (hys : ys.length ≤ 300 ∧ Low ys) (w0 : World) (hF : ∀ w, Below w0.heap.size w0 w → Calls Tryz.prog 101 #[.float .f64 n, .int .u8 71, .int .i64 (-1), .int .i64 64] w (TextIs ys w))
  (hU : ∀ w, Calls Tryz.prog 51 #[.float .f64 n, .int .i64 1] w fun e w' => e = .returned (.bool bU) ∧ w' = w) (hD : ∀ w, Calls Tryz.prog 51 #[.float .f64 n, .int .i64 (-1)] w fun e w' => e = .returned (.bool bD) ∧ w' = w) (w : World) (hw : Below w0.heap.size w0 w) :
  Calls Tryz.prog 69 #[.float .f64 n] w (TextIs (if bU then [73, 110, 102, 105, 110, 105, 116, 121] else if bD then [45, 73, 110, 102, 105, 110, 105, 116, 121] else if isNaNF n then [78, 97, 78] else if 46 ∈ ys then ys else ys ++ [46, 48]) w) := by
 have HF := Lib.hid (hF w hw)
 have HU := Lib.hid (hU w)
 have HD := Lib.hid (hD w)
 have HN := Lib.hid (IsNaN_calls n w)
 have HZ := Lib.hid (fun W => zzContainsRune_calls ys hys.2 (by omega) W)
 have hyl : ys.length ≤ 300 := hys.1
 have hsz : (strOfNums ys).size = ys.length := strOfNums_size ys
 have HAP := Lib.hid (strOfNums_append ys [46, 48])
 clear hF hU hD hw hys
 generalize isNaNF n = bN at HN ⊢
 generalize hT : (if bU = true then ([73, 110, 102, 105, 110, 105, 116, 121] : List Int) else if bD = true then [45, 73, 110, 102, 105, 110, 105, 116, 121] else if bN = true then [78, 97, 78] else if 46 ∈ ys then ys else ys ++ [46, 48]) = T
 have HT := Lib.hid hT
 clear hT
 go_enter Tryz.func69, Tryz.ntmps69
 go_wp2_with fail
 refine HU.out.mono ?_
 rintro e w1 ⟨rfl, rfl⟩
 cases bU with
 | true =>
  go_wp2_with fail
  go_ret
  exact ⟨by rw [← HT.out]; rfl, Below.refl _ _⟩
 | false =>
  go_wp2_with fail
  refine HD.out.mono ?_
  rintro e w2 ⟨rfl, rfl⟩
  cases bD with
  | true =>
   go_wp2_with fail
   go_ret
   exact ⟨by rw [← HT.out]; rfl, Below.refl _ _⟩
  | false =>
   go_wp2_with fail
   refine HN.out.mono ?_
   rintro e w3 ⟨rfl, rfl⟩
   cases bN with
   | true =>
    go_wp2_with fail
    go_ret
    exact ⟨by rw [← HT.out]; rfl, Below.refl _ _⟩
   | false =>
    go_wp2_with fail
    refine HF.out.mono ?_
    rintro e w4 ⟨rfl, hw⟩
    have HW := Lib.hid hw
    clear hw
    go_wp2_with fail
    refine (HZ.out w4).mono ?_
    rintro e w5 ⟨rfl, hw⟩
    have HW2 := Lib.hid (HW.out.trans (hw.mono HW.out.size))
    clear hw
    by_cases h46 : 46 ∈ ys
    ·rw [decide_eq_true h46]
     go_wp2_with fail
     go_ret
     exact ⟨by rw [← HT.out]; simp [h46], HW2.out⟩
    ·rw [decide_eq_false h46]
     go_wp2_with fail
     go_ret
     refine ⟨?_, HW2.out⟩
     rw [← HT.out]
     simp only [Bool.false_eq_true, if_false, if_neg h46]
     show Ending.returned (Value.string _) = _
     rw [← HAP.out]
     rfl
theorem IsInf_nan : (∀ w, Calls Tryz.prog 51 #[.float .f64 9221120237041090561, .int .i64 1] w fun e w' => e = .returned (.bool false) ∧ w' = w) ∧ (∀ w, Calls Tryz.prog 51 #[.float .f64 9221120237041090561, .int .i64 (-1)] w fun e w' => e = .returned (.bool false) ∧ w' = w) := by
 refine ⟨fun w => ?_, fun w => ?_⟩
 ·go_enter Tryz.func51, Tryz.ntmps51
  go_wp2
  go_ret
  exact ⟨by congr 2, rfl⟩
 ·have hn : ∀ W, Sem.run Tryz.prog (Op.unary UnOp.neg (Value.float FloatKind.f64 9221120237041090561)) W = .ok (.float .f64 18444492273895866369) W := fun W => by kernel_rfl
  go_enter Tryz.func51, Tryz.ntmps51
  go_wp2
  go_ret
  exact ⟨by congr 2, rfl⟩
structure DEnv (D : Int → List Int) (w0 : World) : Prop where
 low : ∀ n, Low (D n)
 len : ∀ n, (D n).length ≤ 400
 spec : ∀ (n : Int) (w : World), 0 ≤ n → n < 18446744073709551616 → Below w0.heap.size w0 w → Calls Tryz.prog 49 #[.float .f64 n.toNat] w (TextIs (D n) w)
 core : ∀ (n : Int) (w : World), 0 ≤ n → n < 18446744073709551616 → Below w0.heap.size w0 w → (∀ x ∈ D n, x ≠ 69) → (isNaNF n.toNat = true → n = 9221120237041090561) → Calls Tryz.prog 69 #[.float .f64 n.toNat] w (TextIs (D n) w)
theorem denv {hi lo : Nat → Int} {w0 : World} (FE : FEnv hi lo w0) : ∃ D, DEnv D w0 := by
 have h1 : ∀ n : Int, ∃ l : List Int, Low l ∧ l.length ≤ 400 ∧ (0 ≤ n → n < 18446744073709551616 → ∀ w, Below w0.heap.size w0 w → Calls Tryz.prog 49 #[.float .f64 n.toNat] w (TextIs l w) ∧ ((∀ x ∈ l, x ≠ 69) → (isNaNF n.toNat = true → n = 9221120237041090561) → Calls Tryz.prog 69 #[.float .f64 n.toNat] w (TextIs l w))) := by
  intro n
  by_cases hn : 0 ≤ n ∧ n < 18446744073709551616
  ·obtain ⟨ys, bU, bD, hys, hF, hU, hD, hX⟩ := ExtDouble_exact n.toNat (by omega) FE
   refine ⟨_, ?_, ?_, fun _ _ w hw => ⟨hX w hw, fun h69 hnan => ?_⟩⟩
   ·split
    ·decide
    ·split
     ·decide
     ·split
      ·decide
      ·rcases dotL_or ys ys with h | h
       ·rw [h]; exact hys.2
       ·rw [h]; exact hys.2.append (by decide)
   ·split
    ·decide
    ·split
     ·decide
     ·split
      ·decide
      ·rcases dotL_or ys ys with h | h
       ·rw [h]; omega
       ·rw [h, List.length_append]; have := hys.1; simp; omega
   ·by_cases hN : isNaNF n.toNat = true
    ·have hc := hnan hN
     subst hc
     have := formatDouble_of 9221120237041090561 false false ys hys w0 hF IsInf_nan.1 IsInf_nan.2 w hw
     rw [if_pos hN]
     have h2 : isNaNF 9221120237041090561 = true := hN
     simpa [h2] using this
    ·have := formatDouble_of n.toNat bU bD ys hys w0 hF hU hD w hw
     rw [if_neg hN] at this h69 ⊢
     cases bU with
     | true => exact this
     | false =>
      cases bD with
      | true => exact this
      | false =>
       simp only [Bool.false_eq_true, if_false] at this h69 ⊢
       have hy69 : ∀ x ∈ ys, x ≠ 69 := fun x hx => h69 x (by
        rcases dotL_or ys ys with h | h
        ·rw [h]; exact hx
        ·rw [h]; exact List.mem_append_left _ hx)
       rw [dotL_point ys ys hy69]
       exact this
  ·exact ⟨[], Low.nil, by simp, fun a b => absurd ⟨a, b⟩ hn⟩
 exact ⟨fun n => Classical.choose (h1 n), fun n => (Classical.choose_spec (h1 n)).1, fun n => (Classical.choose_spec (h1 n)).2.1, fun n w a b hw => ((Classical.choose_spec (h1 n)).2.2 a b w hw).1, fun n w a b hw => ((Classical.choose_spec (h1 n)).2.2 a b w hw).2⟩
theorem or64w (x y : Int) (h0 : 0 ≤ x) (h1 : x < 4294967296) (hy : 0 ≤ y) (hy1 : y < 4294967296) : bits .or .u64 (x * 4294967296) y = x * 4294967296 + y := by
 obtain ⟨a, rfl⟩ := Int.eq_ofNat_of_zero_le h0
 obtain ⟨b, rfl⟩ := Int.eq_ofNat_of_zero_le hy
 have e1 : (BitVec.ofInt 64 ((a : Int) * 4294967296)).toNat = 2 ^ 32 * a := by
  rw [show ((a : Int) * 4294967296) = ((2 ^ 32 * a : Nat) : Int) by omega, BitVec.ofInt_natCast, BitVec.toNat_ofNat]
  exact Nat.mod_eq_of_lt (by omega)
 have e2 : (BitVec.ofInt 64 (b : Int)).toNat = b := by rw [BitVec.ofInt_natCast, BitVec.toNat_ofNat]; exact Nat.mod_eq_of_lt (by omega)
 show IntKind.u64.wrap ((BitVec.ofInt 64 ((a : Int) * 4294967296) ||| BitVec.ofInt 64 (b : Int)).toNat : Int) = _
 rw [BitVec.toNat_or, e1, e2, ← Nat.two_pow_add_eq_or_of_lt (by omega)]
 simp only [IntKind.wrap, IntKind.bits, IntKind.signed]
 simp
 omega
theorem dm_math {h l B br lh ll C cr D dr : Nat} (h1 : 1000000000 * B + br = h) (l1 : 4294967296 * lh + ll = l) (h3 : 1000000000 * C + cr = br * 4294967296 + lh) (h5 : 1000000000 * D + dr = cr * 4294967296 + ll) (h6 : dr < 1000000000) :
  B * 18446744073709551616 + (C * 4294967296 + D) = (h * 18446744073709551616 + l) / 1000000000 ∧ dr = (h * 18446744073709551616 + l) % 1000000000 := by
 have e : h * 18446744073709551616 + l = 1000000000 * (B * 18446744073709551616 + (C * 4294967296 + D)) + dr := by omega
 rw [e]
 clear e h1 l1 h3 h5
 generalize B * 18446744073709551616 + (C * 4294967296 + D) = Q
 omega
theorem divmod_calls (h l : Nat) (hh : h < 562949953421312) (hl : l < 18446744073709551616) (w : World) :
  Calls Tryz.prog 135 #[.int .u64 h, .int .u64 l, .int .u32 1000000000] w fun e w' => ∃ qh ql r : Nat, e = .returned (.tuple #[.int .u64 qh, .int .u64 ql, .int .u32 r]) ∧ qh * 18446744073709551616 + ql = (h * 18446744073709551616 + l) / 1000000000 ∧ r = (h * 18446744073709551616 + l) % 1000000000 ∧ qh < 562949953421312 ∧ ql < 18446744073709551616 ∧ w' = w := by
 have m1 : bits .and .u64 (h : Int) 4294967295 = ((h % 4294967296 : Nat) : Int) := mask_u64 32 (by decide) _ (by omega) (by omega)
 have m2 : bits .and .u64 (l : Int) 4294967295 = ((l % 4294967296 : Nat) : Int) := mask_u64 32 (by decide) _ (by omega) (by omega)
 obtain ⟨ha, hha⟩ : ∃ x, h / 4294967296 = x := ⟨_, rfl⟩
 obtain ⟨hb, hhb⟩ : ∃ x, h % 4294967296 = x := ⟨_, rfl⟩
 obtain ⟨lh, hlh⟩ : ∃ x, l / 4294967296 = x := ⟨_, rfl⟩
 obtain ⟨ll, hll⟩ : ∃ x, l % 4294967296 = x := ⟨_, rfl⟩
 rw [hhb] at m1
 rw [hll] at m2
 have s1 : (h : Int) / 4294967296 = (ha : Int) := by rw [← hha]; rfl
 have s2 : (l : Int) / 4294967296 = (lh : Int) := by rw [← hlh]; rfl
 have ha2 : ha < 131072 ∧ 4294967296 * ha + hb = h ∧ hb < 4294967296 := by rw [← hha, ← hhb]; omega
 have hl2 : lh < 4294967296 ∧ 4294967296 * lh + ll = l ∧ ll < 4294967296 := by rw [← hlh, ← hll]; omega
 clear hha hhb hlh hll
 have d1 : (ha : Int) / 1000000000 = 0 := by omega
 have d2 : (ha : Int) % 1000000000 = ha := by omega
 have d3 : (ha : Int) * 4294967296 + hb = (h : Int) := by omega
 obtain ⟨B, hB⟩ : ∃ x, h / 1000000000 = x := ⟨_, rfl⟩
 obtain ⟨br, hbr⟩ : ∃ x, h % 1000000000 = x := ⟨_, rfl⟩
 have s3 : (h : Int) / 1000000000 = (B : Int) := by rw [← hB]; rfl
 have s4 : (h : Int) % 1000000000 = (br : Int) := by rw [← hbr]; rfl
 have hB2 : 1000000000 * B + br = h ∧ br < 1000000000 ∧ B < 562950 := by rw [← hB, ← hbr]; omega
 clear hB hbr
 obtain ⟨c, hc⟩ : ∃ x, br * 4294967296 + lh = x := ⟨_, rfl⟩
 have s5 : (br : Int) * 4294967296 + (lh : Int) = (c : Int) := by rw [← hc]; rfl
 have hc2 : c < 4294967296000000000 := by omega
 obtain ⟨C, hC⟩ : ∃ x, c / 1000000000 = x := ⟨_, rfl⟩
 obtain ⟨cr, hcr⟩ : ∃ x, c % 1000000000 = x := ⟨_, rfl⟩
 have s6 : (c : Int) / 1000000000 = (C : Int) := by rw [← hC]; rfl
 have s7 : (c : Int) % 1000000000 = (cr : Int) := by rw [← hcr]; rfl
 have hC2 : 1000000000 * C + cr = c ∧ cr < 1000000000 ∧ C < 4294967296 := by rw [← hC, ← hcr]; omega
 clear hC hcr
 obtain ⟨d, hd⟩ : ∃ x, cr * 4294967296 + ll = x := ⟨_, rfl⟩
 have s8 : (cr : Int) * 4294967296 + (ll : Int) = (d : Int) := by rw [← hd]; rfl
 have hd2 : d < 4294967296000000000 := by omega
 obtain ⟨D, hD⟩ : ∃ x, d / 1000000000 = x := ⟨_, rfl⟩
 obtain ⟨dr, hdr⟩ : ∃ x, d % 1000000000 = x := ⟨_, rfl⟩
 have s9 : (d : Int) / 1000000000 = (D : Int) := by rw [← hD]; rfl
 have s10 : (d : Int) % 1000000000 = (dr : Int) := by rw [← hdr]; rfl
 have hD2 : 1000000000 * D + dr = d ∧ dr < 1000000000 ∧ D < 4294967296 := by rw [← hD, ← hdr]; omega
 clear hD hdr
 obtain ⟨g1, g2⟩ := dm_math hB2.1 hl2.2.1 (hC2.1.trans hc.symm) (hD2.1.trans hd.symm) hD2.2.1
 have o1 : bits .or .u64 0 (B : Int) = B := by have := or64w 0 B (by omega) (by omega) (by omega) (by omega); simpa using this
 have o2 : bits .or .u64 ((C : Int) * 4294967296) (D : Int) = (C : Int) * 4294967296 + D := or64w C D (by omega) (by omega) (by omega) (by omega)
 have n1 : br < 1000000000 := hB2.2.1
 have n2 : cr < 1000000000 := hC2.2.1
 have n3 : dr < 1000000000 := hD2.2.1
 have n4 : C < 4294967296 := hC2.2.2
 have n5 : D < 4294967296 := hD2.2.2
 have n6 : lh < 4294967296 := hl2.1
 have n7 : ll < 4294967296 := hl2.2.2
 have n8 : hb < 4294967296 := ha2.2.2
 have n9 : ha < 131072 := ha2.1
 have n10 : B < 562950 := hB2.2.2
 have HG := Lib.hid (And.intro g1 g2)
 clear g1 g2 ha2 hl2 hB2 hC2 hD2 hc hd
 go_enter Tryz.func135, Tryz.ntmps135
 go_wp2_with fail
 go_ret3
 exact ⟨B, C * 4294967296 + D, dr, by simp, HG.out.1, HG.out.2, by omega, by omega, rfl⟩
structure Rep (B i : Nat) (xs : List Int) (w : World) : Prop where
 lt : B < w.heap.size
 len : i + xs.length = 48
 got : ∀ k, k < xs.length → w.cell? ⟨B, i + k, none⟩ = some (.int .u8 (rn xs k))
 all : ∀ k, k < 48 → ∃ x : Int, w.cell? ⟨B, k, none⟩ = some (.int .u8 x)
 fr : ∀ o, w.frozen? ⟨B, o, none⟩ = false
theorem Rep.push {B i : Nat} {xs : List Int} {w : World} (h : Rep B (i + 1) xs w) (x : Int) : Rep B i (x :: xs) (w.setCell ⟨B, i, none⟩ (.int .u8 x)) := by
 have ho : ∀ k, k ≠ i → (w.setCell ⟨B, i, none⟩ (.int .u8 x)).cell? ⟨B, k, none⟩ = w.cell? ⟨B, k, none⟩ := fun k hk =>
  World.cell?_setCell_other (w := w) (a := ⟨B, i, none⟩) (b := ⟨B, k, none⟩) (v := .int .u8 x) (by intro e; injection e with _ e2; omega)
 have hl := h.len
 obtain ⟨x0, hx0⟩ := h.all i (by omega)
 have hs := World.cell?_setCell_same (w := w) (a := ⟨B, i, none⟩) (v := .int .u8 x) hx0
 refine ⟨by simpa [World.setCell] using h.lt, by simp; omega, fun k hk => ?_, fun k hk => ?_, fun o => ?_⟩
 ·cases k with
  | zero => exact hs
  | succ k =>
   rw [show i + (k + 1) = i + 1 + k by omega]
   exact (ho _ (by omega)).trans (h.got k (by simpa using hk))
 ·by_cases hki : k = i
  ·subst hki; exact ⟨x, hs⟩
  ·obtain ⟨y, hy⟩ := h.all k hk
   exact ⟨y, (ho k hki).trans hy⟩
 ·have := h.fr o
  simp [go_sem, this]
def txtD (N : Nat) (hd : Bool) (q t : Nat) : List Int := if hd = true ∧ q < t then ptxt N t q else pdig N t
def StD (e E : Int) (hd : Bool) (q t : Nat) (exp dot : Int) (i : Nat) : Prop := if hd = true ∧ q < t then exp = E ∧ dot = 48 ∧ i + t = 47 else exp = e ∧ dot = 48 + e ∧ i + t = 48
def MidD (e E : Int) (hd : Bool) (q t : Nat) (exp dot : Int) (i : Nat) : Prop := if hd = true ∧ q ≤ t then exp = E ∧ dot = 48 ∧ i + t = 47 else exp = e ∧ dot = 48 + e ∧ i + t = 48
def txtM (N : Nat) (hd : Bool) (q t : Nat) : List Int := if hd = true ∧ q ≤ t then ptxt N t q else pdig N t
theorem step32 {nd : Nat} {e E : Int} {hd : Bool} {q T t i : Nat} {exp dot : Int} {X : Prop} (hP : DPlan nd e hd q T E) (ht : t < T) (hs : StD e E hd q t exp dot i) (hX : 1 ≤ t → (X ↔ nd = t + 1)) :
  ((i : Int) < 48 ∧ (dot = i ∨ (X ∧ (dot < (i : Int) - 6 ∨ 0 < exp)))) ↔ (hd = true ∧ t = q) := by
 unfold StD at hs
 by_cases c : hd = true ∧ q < t
 ·rw [if_pos c] at hs
  obtain ⟨h1, h2, h3⟩ := hs
  constructor
  ·rintro ⟨_, h | ⟨hx, h⟩⟩
   ·omega
   ·have h4 := hP.pre2 t ht c.1 c.2
    have h5 := (hX (by omega)).1 hx
    exact absurd ⟨h5, by omega⟩ h4
  ·rintro ⟨_, h⟩
   have := c.2
   omega
 ·rw [if_neg c] at hs
  obtain ⟨h1, h2, h3⟩ := hs
  rw [← hP.pre t ht c]
  constructor
  ·rintro ⟨a, h | ⟨hx, h⟩⟩
   ·exact ⟨by omega, .inl (by omega)⟩
   ·exact ⟨by omega, .inr ⟨(hX (by omega)).1 hx, by omega⟩⟩
  ·rintro ⟨a, h | ⟨hx, h⟩⟩
   ·exact ⟨by omega, .inl (by omega)⟩
   ·exact ⟨by omega, .inr ⟨(hX a).2 hx, by omega⟩⟩
theorem mid_of {e E : Int} {hd : Bool} {q t i : Nat} {exp dot : Int} (hs : StD e E hd q t exp dot i) (h : ¬ (hd = true ∧ t = q)) : MidD e E hd q t exp dot i := by
 unfold StD at hs; unfold MidD
 by_cases c : hd = true ∧ q < t
 ·rw [if_pos c] at hs; rw [if_pos ⟨c.1, Nat.le_of_lt c.2⟩]; exact hs
 ·rw [if_neg c] at hs
  rw [if_neg (fun h2 => by
   rcases Nat.lt_or_ge q t with h3 | h3
   ·exact c ⟨h2.1, h3⟩
   ·exact h ⟨h2.1, Nat.le_antisymm h3 h2.2⟩)]
  exact hs
theorem mid_pt {nd : Nat} {e E : Int} {hd : Bool} {q T t i : Nat} {exp dot : Int} (hP : DPlan nd e hd q T E) (hs : StD e E hd q t exp dot i) (h : hd = true ∧ t = q) : exp + (48 - (i : Int)) = E ∧ 2 ≤ i ∧ MidD e E hd q t E 48 (i - 1) := by
 obtain ⟨h1, h2⟩ := h
 have hq := hP.qT h1
 have hE := hP.EE
 have hT := hP.T41
 unfold StD at hs; unfold MidD
 rw [if_neg (fun c => by have := c.2; omega)] at hs
 rw [if_pos ⟨h1, by omega⟩]
 rw [h1, if_pos rfl] at hE
 subst h2
 exact ⟨by omega, by omega, rfl, rfl, by omega⟩
theorem std_next {e E : Int} {hd : Bool} {q t i : Nat} {exp dot : Int} (h : MidD e E hd q t exp dot i) (hi : 1 ≤ i) : StD e E hd q (t + 1) exp dot (i - 1) := by
 unfold MidD at h; unfold StD
 by_cases c : hd = true ∧ q ≤ t
 ·rw [if_pos c] at h; rw [if_pos ⟨c.1, by omega⟩]; omega
 ·rw [if_neg c] at h; rw [if_neg (fun h2 => c ⟨h2.1, by omega⟩)]; omega
theorem txt_mid (N : Nat) {hd : Bool} {q t : Nat} (h : ¬ (hd = true ∧ t = q)) : txtD N hd q t = txtM N hd q t := by
 unfold txtD txtM
 by_cases c : hd = true ∧ q < t
 ·rw [if_pos c, if_pos ⟨c.1, Nat.le_of_lt c.2⟩]
 ·rw [if_neg c, if_neg (fun h2 => by
   rcases Nat.lt_or_ge q t with h3 | h3
   ·exact c ⟨h2.1, h3⟩
   ·exact h ⟨h2.1, Nat.le_antisymm h3 h2.2⟩)]
theorem txt_pt (N : Nat) {hd : Bool} {q t : Nat} (h : hd = true ∧ t = q) : (46 : Int) :: txtD N hd q t = txtM N hd q t := by
 unfold txtD txtM
 obtain ⟨h1, rfl⟩ := h
 rw [if_neg (fun c => absurd c.2 (Nat.lt_irrefl _)), if_pos ⟨h1, Nat.le_refl _⟩, ptxt_same]
theorem txt_next (N : Nat) {hd : Bool} {q t : Nat} {c : Int} (hc : c = (48 + (N / 10 ^ t % 10 : Nat) : Int)) : c :: txtM N hd q t = txtD N hd q (t + 1) := by
 unfold txtD txtM
 by_cases k : hd = true ∧ q ≤ t
 ·rw [if_pos k, if_pos ⟨k.1, by have := k.2; omega⟩, ptxt_succ N k.2, hc]
 ·rw [if_neg k, if_neg (fun h2 => k ⟨h2.1, by have := h2.2; omega⟩), hc]; rfl
theorem step46 {nd : Nat} {e E : Int} {hd : Bool} {q T t i : Nat} {exp dot : Int} {Z : Prop} (hP : DPlan nd e hd q T E) (ht : t < T) (hs : StD e E hd q (t + 1) exp dot i) (hZ : Z ↔ nd ≤ t + 1) :
  ((Z ∧ (i : Int) = 47 ∧ (dot < (i : Int) - 5 ∨ 0 < exp)) ∨ ((i : Int) < dot ∧ Z)) ↔ t + 1 = T := by
 unfold StD at hs
 by_cases c : hd = true ∧ q < t + 1
 ·rw [if_pos c] at hs
  obtain ⟨h1, h2, h3⟩ := hs
  rw [← hP.post2 t ht c.1 (by omega), ← hZ]
  constructor
  ·rintro (h | h)
   ·exact h.1
   ·exact h.2
  ·intro h
   exact .inr ⟨by omega, h⟩
 ·rw [if_neg c] at hs
  obtain ⟨h1, h2, h3⟩ := hs
  rw [← hP.post t ht (fun h => c ⟨h.1, by omega⟩), ← hZ]
  constructor
  ·rintro (⟨a, b, d⟩ | ⟨a, b⟩)
   ·exact .inl ⟨a, by omega, by omega⟩
   ·exact .inr ⟨by omega, b⟩
  ·rintro (⟨a, b, d⟩ | ⟨a, b⟩)
   ·exact .inl ⟨a, by omega, by omega⟩
   ·exact .inr ⟨by omega, b⟩
theorem step_last {nd : Nat} {e E : Int} {hd : Bool} {q T t i : Nat} {exp dot : Int} {Z : Prop} (hP : DPlan nd e hd q T E) (hT : t + 1 = T) (hs : StD e E hd q (t + 1) exp dot i) (hZ : Z ↔ nd ≤ t + 1)
  (hA : ¬ (Z ∧ (i : Int) = 47 ∧ (dot < (i : Int) - 5 ∨ 0 < exp))) : (hd = true ∧ t = q) ∨ (nd = t + 1 ∧ (t = 0 → e = 0)) := by
 rcases hP.last with h | ⟨h1, h2⟩
 ·exact .inl ⟨h.1, by omega⟩
 ·right
  refine ⟨by omega, fun h0 => ?_⟩
  subst h0
  unfold StD at hs
  rcases h2 (by omega) with h | h | h
  ·exact h
  all_goals
   exfalso
   by_cases c : hd = true ∧ q < 0 + 1
   ·have := hP.qT c.1
    have := c.2
    omega
   ·rw [if_neg c] at hs
    exact hA ⟨hZ.2 (by omega), by omega, by omega⟩
theorem split_step {N t P j V : Nat} (h : N / 10 ^ t = P * 10 ^ (9 - j) + V) (hV : V < 10 ^ (9 - j)) (hj : j < 9) :
  N / 10 ^ t % 10 = V % 10 ∧ N / 10 ^ (t + 1) = P * 10 ^ (9 - (j + 1)) + V / 10 ∧ V / 10 < 10 ^ (9 - (j + 1)) ∧ ((P = 0 ∧ V / 10 = 0) ↔ N / 10 ^ (t + 1) = 0) ∧ ((P = 0 ∧ 0 < V ∧ V < 10) ↔ (N / 10 ^ t ≠ 0 ∧ N / 10 ^ (t + 1) = 0)) := by
 obtain ⟨k, hk⟩ : ∃ k, 9 - (j + 1) = k := ⟨_, rfl⟩
 have hk2 : 9 - j = k + 1 := by omega
 rw [hk2, Nat.pow_succ] at h hV
 rw [hk, Nat.pow_succ, ← Nat.div_div_eq_div_mul]
 generalize N / 10 ^ t = M at h ⊢
 have hp : 1 ≤ 10 ^ k := Nat.pow_pos (by decide)
 generalize 10 ^ k = W at h hV hp ⊢
 rw [← Nat.mul_assoc] at h
 have hz : P * W = 0 ↔ P = 0 := by
  constructor
  ·intro h0
   rcases Nat.mul_eq_zero.1 h0 with h0 | h0
   ·exact h0
   ·omega
  ·rintro rfl; exact Nat.zero_mul _
 generalize P * W = PW at h hz ⊢
 refine ⟨by omega, by omega, by omega, ?_, ?_⟩
 ·rw [← hz]; omega
 ·rw [← hz]; omega
theorem outer_start {N P : Nat} (h : P = N) : N / 10 ^ (9 * 0) = P := by rw [h, Nat.mul_zero, Nat.pow_zero, Nat.div_one]
theorem pz (qh ql : Nat) : (qh * 18446744073709551616 + ql = 0) ↔ (ql = 0 ∧ qh = 0) := by omega
theorem inner_start {N d P Q r : Nat} (h : N / 10 ^ (9 * d) = P) (h1 : Q = P / 1000000000) (h2 : r = P % 1000000000) : N / 10 ^ (9 * d + 0) = Q * 10 ^ (9 - 0) + r ∧ r < 10 ^ (9 - 0) := by
 have e : (10 : Nat) ^ (9 - 0) = 1000000000 := by decide
 rw [e, Nat.add_zero, h, h1, h2]
 omega
theorem inner_end {M Q j V : Nat} (h : M = Q * 10 ^ (9 - j) + V) (h2 : V < 10 ^ (9 - j)) (hj : 9 - j = 0) : M = Q := by
 rw [hj, Nat.pow_zero] at h h2
 omega
theorem first_zero {N t P j V : Nat} (h1 : t = 0) (h3 : (digs N).length = t + 1) (f4 : (P = 0 ∧ V / 10 = 0) ↔ N / 10 ^ (t + 1) = 0) (hV : N / 10 ^ t = P * 10 ^ (9 - j) + V) (h4 : V % 10 = 0) : digs N = digs 0 := by
 have h5 := f4.2 ((digs_zero N (t + 1) (by omega)).2 (by omega))
 subst h1
 rw [h5.1, Nat.zero_mul, Nat.zero_add, Nat.pow_zero, Nat.div_one] at hV
 have h7 : V = 0 := by omega
 rw [hV, h7]
theorem nd_zero {N t : Nat} : N / 10 ^ (t + 1) = 0 ↔ (digs N).length ≤ t + 1 := digs_zero N (t + 1) (by omega)
theorem nd_one {N t : Nat} (h : 1 ≤ t) : (N / 10 ^ t ≠ 0 ∧ N / 10 ^ (t + 1) = 0) ↔ (digs N).length = t + 1 := by
 have h1 := digs_zero N t h
 have h2 := digs_zero N (t + 1) (by omega)
 rw [h2, Ne, h1]
 omega
theorem dec_parts {hi lo : Int} (h0 : 0 ≤ hi) (h1 : hi < 18446744073709551616) (l0 : 0 ≤ lo) (l1 : lo < 18446744073709551616) (hk : decKind hi = 0) : ∃ (H L : Nat) (ex : Int) (N : Nat), H * 18446744073709551616 + L = N ∧ H < 562949953421312 ∧ L < 18446744073709551616 ∧ decDig hi lo = digs N ∧ decExp hi = ex + -6176 ∧
      ((((hi / 2305843009213693952 % 4) == 3) = false ∧ bits .and .u64 (hi / 562949953421312) 16383 = ex ∧ 0 ≤ ex ∧ ex < 16384 ∧ bits .and .u64 hi 562949953421311 = (H : Int) ∧ lo = (L : Int)) ∨ (((hi / 2305843009213693952 % 4) == 3) = true ∧ bits .and .u64 (hi / 140737488355328) 16383 = ex ∧ 0 ≤ ex ∧ ex < 16384 ∧ H = 0 ∧ L = 0)) := by
  by_cases h3 : hi / 2305843009213693952 % 4 = 3
  · refine ⟨0, 0, hi / 140737488355328 % 16384, 0, rfl, by omega, by omega, ?_, ?_, .inr ⟨beq_iff_eq.2 h3, mask_u64 14 (by decide) _ (by omega) (by omega), by omega, by omega, rfl, rfl⟩⟩
    · unfold decDig; rw [if_neg (by simpa using hk), if_pos h3]; rfl
    · unfold decExp; rw [if_neg (by simpa using hk), if_pos h3]
  · obtain ⟨H, hH⟩ : ∃ H : Nat, hi % 562949953421312 = H := ⟨(hi % 562949953421312).toNat, by omega⟩
    obtain ⟨L, hL⟩ : ∃ L : Nat, lo = L := ⟨lo.toNat, by omega⟩
    refine ⟨H, L, hi / 562949953421312 % 16384, _, rfl, by omega, by omega, ?_, ?_, .inl ⟨beq_eq_false_iff_ne.2 h3, mask_u64 14 (by decide) _ (by omega) (by omega), by omega, by omega, (mask_u64 49 (by decide) _ (by omega) (by omega)).trans hH, hL⟩⟩
    · unfold decDig
      rw [if_neg (by simpa using hk), if_neg h3, hH, hL]
      have hc : ((H : Int) * 18446744073709551616 + (L : Int)) = ((H * 18446744073709551616 + L : Nat) : Int) := by
        rw [Int.natCast_add, Int.natCast_mul]; rfl
      rw [hc, Int.toNat_natCast]
    · unfold decExp; rw [if_neg (by simpa using hk), if_neg h3]
theorem decString_fin (hi lo : Int) (h0 : 0 ≤ hi) (h1 : hi < 18446744073709551616) (l0 : 0 ≤ lo) (l1 : lo < 18446744073709551616) (hk : decKind hi = 0) (hlen : (decDig hi lo).length ≤ 34) (w : World) (hP : ∀ W, Below w.heap.size w W → Pow10W W)
  (hnz : ¬ (decDig hi lo = digs 0 ∧ decExp hi = 0)) :
  Calls Tryz.prog 89 #[.int .u64 hi, .int .u64 lo] w (TextIs (decTextF (decKind hi) (decNeg hi) (decDig hi lo) (decExp hi)) w) := by
 obtain ⟨H, L, ex, N, hHL, hH2, hL2, hdig, hexp, hA⟩ := dec_parts h0 h1 l0 l1 hk
 rw [hdig] at hlen hnz ⊢
 rw [hexp] at hnz ⊢
 have m1 : bits .and .u64 (hi / 9223372036854775808) 1 = (hi / 9223372036854775808) % 2 := mask_u64 1 (by decide) _ (by omega) (by omega)
 have m2 : bits .and .u64 (hi / 288230376151711744) 31 = (hi / 288230376151711744) % 32 := mask_u64 5 (by decide) _ (by omega) (by omega)
 have m3 : bits .and .u64 (hi / 2305843009213693952) 3 = (hi / 2305843009213693952) % 4 := mask_u64 2 (by decide) _ (by omega) (by omega)
 have t1 : ((hi / 288230376151711744 % 32) == 31) = false := beq_eq_false_iff_ne.2 (by intro h; unfold decKind at hk; rw [h] at hk; simp at hk)
 have t2 : ((hi / 288230376151711744 % 32) == 30) = false := beq_eq_false_iff_ne.2 (by intro h; unfold decKind at hk; rw [h] at hk; simp at hk)
 have hform : ∀ a b c, decTextF 0 a b c = decSign a ++ decBody b c := fun a b c => by unfold decTextF; rw [if_neg (by decide), if_neg (by decide)]
 rw [hk, hform]
 obtain ⟨sg, ps, hsg, hsg2⟩ : ∃ sg ps : Int, hi / 9223372036854775808 % 2 = sg ∧ ((sg = 0 ∧ decNeg hi = false ∧ ps = 1) ∨ (sg = 1 ∧ decNeg hi = true ∧ ps = 0)) := by
  have hb : hi / 9223372036854775808 = 0 ∨ hi / 9223372036854775808 = 1 := by clear hlen hnz hform; omega
  rcases hb with hb | hb
  ·exact ⟨0, 1, by rw [hb]; rfl, .inl ⟨rfl, by unfold decNeg; rw [hb]; rfl, rfl⟩⟩
  ·exact ⟨1, 0, by rw [hb]; rfl, .inr ⟨rfl, by unfold decNeg; rw [hb]; rfl, rfl⟩⟩
 rw [hsg] at m1
 obtain ⟨e, he⟩ : ∃ e, ex + -6176 = e := ⟨_, rfl⟩
 rw [he] at hnz ⊢
 have he0 : -6176 ≤ e ∧ e ≤ 10207 := by rcases hA with h | h <;> omega
 obtain ⟨hd, q, T, E, HP, hbody⟩ := plan_of N e hlen (by omega) (by omega)
 rw [hbody]
 generalize decNeg hi = neg at hsg2 ⊢
 obtain ⟨txt, htxt⟩ : ∃ x, decSign neg ++ ((if hd then ptxt N T q else pdig N T) ++ (if 0 < E then [69, 43] ++ numF E else if E < 0 then [69] ++ numF E else [])) = x := ⟨_, rfl⟩
 rw [htxt]
 have HTX := Lib.hid htxt
 have HPL := Lib.hid HP
 have HNZ := Lib.hid hnz
 have HPW := Lib.hid hP
 have HHL := Lib.hid hHL
 have HA := Lib.hid hA
 have HSG := Lib.hid hsg2
 have hps0 : 0 ≤ ps ∧ ps ≤ 1 := by rcases hsg2 with h | h <;> omega
 have hT41 := HP.T41
 have hT1 := HP.T1
 have hnz2 : H = 0 → L = 0 → (e == 0) = false := fun a b => beq_eq_false_iff_ne.2 fun c => hnz ⟨by rw [← hHL, a, b], c⟩
 have HNZ2 := Lib.hid hnz2
 clear htxt HP hnz hP hHL hA hsg2 hbody hlen hform hk hexp hdig hsg l0 l1 hnz2
 have hbx : Hid (Below w.heap.size w (w.alloc (.cells #[.int .u8 0, .int .u8 0, .int .u8 0, .int .u8 0, .int .u8 0, .int .u8 0, .int .u8 0, .int .u8 0, .int .u8 0, .int .u8 0, .int .u8 0, .int .u8 0, .int .u8 0, .int .u8 0, .int .u8 0, .int .u8 0, .int .u8 0, .int .u8 0, .int .u8 0, .int .u8 0, .int .u8 0, .int .u8 0, .int .u8 0, .int .u8 0, .int .u8 0, .int .u8 0, .int .u8 0, .int .u8 0, .int .u8 0, .int .u8 0, .int .u8 0, .int .u8 0, .int .u8 0, .int .u8 0, .int .u8 0, .int .u8 0, .int .u8 0, .int .u8 0, .int .u8 0, .int .u8 0, .int .u8 0, .int .u8 0, .int .u8 0, .int .u8 0, .int .u8 0, .int .u8 0, .int .u8 0, .int .u8 0] 185))) := (Below.refl _ _).alloc (Nat.le_refl _) _
 have hrep : Hid (Rep w.heap.size 48 (txtD N hd q 0) (w.alloc (.cells #[.int .u8 0, .int .u8 0, .int .u8 0, .int .u8 0, .int .u8 0, .int .u8 0, .int .u8 0, .int .u8 0, .int .u8 0, .int .u8 0, .int .u8 0, .int .u8 0, .int .u8 0, .int .u8 0, .int .u8 0, .int .u8 0, .int .u8 0, .int .u8 0, .int .u8 0, .int .u8 0, .int .u8 0, .int .u8 0, .int .u8 0, .int .u8 0, .int .u8 0, .int .u8 0, .int .u8 0, .int .u8 0, .int .u8 0, .int .u8 0, .int .u8 0, .int .u8 0, .int .u8 0, .int .u8 0, .int .u8 0, .int .u8 0, .int .u8 0, .int .u8 0, .int .u8 0, .int .u8 0, .int .u8 0, .int .u8 0, .int .u8 0, .int .u8 0, .int .u8 0, .int .u8 0, .int .u8 0, .int .u8 0] 185))) := by
  have h := World.rowIs_alloc w #[.int .u8 0, .int .u8 0, .int .u8 0, .int .u8 0, .int .u8 0, .int .u8 0, .int .u8 0, .int .u8 0, .int .u8 0, .int .u8 0, .int .u8 0, .int .u8 0, .int .u8 0, .int .u8 0, .int .u8 0, .int .u8 0, .int .u8 0, .int .u8 0, .int .u8 0, .int .u8 0, .int .u8 0, .int .u8 0, .int .u8 0, .int .u8 0, .int .u8 0, .int .u8 0, .int .u8 0, .int .u8 0, .int .u8 0, .int .u8 0, .int .u8 0, .int .u8 0, .int .u8 0, .int .u8 0, .int .u8 0, .int .u8 0, .int .u8 0, .int .u8 0, .int .u8 0, .int .u8 0, .int .u8 0, .int .u8 0, .int .u8 0, .int .u8 0, .int .u8 0, .int .u8 0, .int .u8 0, .int .u8 0] 185 (fun _ => .int .u8 0) (by
   intro i hi
   have hi2 : i < 48 := hi
   rw [show (#[.int .u8 0, .int .u8 0, .int .u8 0, .int .u8 0, .int .u8 0, .int .u8 0, .int .u8 0, .int .u8 0, .int .u8 0, .int .u8 0, .int .u8 0, .int .u8 0, .int .u8 0, .int .u8 0, .int .u8 0, .int .u8 0, .int .u8 0, .int .u8 0, .int .u8 0, .int .u8 0, .int .u8 0, .int .u8 0, .int .u8 0, .int .u8 0, .int .u8 0, .int .u8 0, .int .u8 0, .int .u8 0, .int .u8 0, .int .u8 0, .int .u8 0, .int .u8 0, .int .u8 0, .int .u8 0, .int .u8 0, .int .u8 0, .int .u8 0, .int .u8 0, .int .u8 0, .int .u8 0, .int .u8 0, .int .u8 0, .int .u8 0, .int .u8 0, .int .u8 0, .int .u8 0, .int .u8 0, .int .u8 0] : Array Value) = Array.replicate 48 (.int .u8 0) from rfl]
   simp [hi2])
  have e0 : txtD N hd q 0 = [] := by unfold txtD; rw [if_neg (by omega)]; rfl
  show Rep _ _ _ _
  rw [e0]
  exact ⟨h.lt, rfl, fun k hk => absurd hk (Nat.not_lt_zero _), fun k hk => ⟨0, h.cell hk⟩, fun o => h.frozen o⟩
 obtain ⟨W0, hW0⟩ : ∃ W, (w.alloc (.cells #[.int .u8 0, .int .u8 0, .int .u8 0, .int .u8 0, .int .u8 0, .int .u8 0, .int .u8 0, .int .u8 0, .int .u8 0, .int .u8 0, .int .u8 0, .int .u8 0, .int .u8 0, .int .u8 0, .int .u8 0, .int .u8 0, .int .u8 0, .int .u8 0, .int .u8 0, .int .u8 0, .int .u8 0, .int .u8 0, .int .u8 0, .int .u8 0, .int .u8 0, .int .u8 0, .int .u8 0, .int .u8 0, .int .u8 0, .int .u8 0, .int .u8 0, .int .u8 0, .int .u8 0, .int .u8 0, .int .u8 0, .int .u8 0, .int .u8 0, .int .u8 0, .int .u8 0, .int .u8 0, .int .u8 0, .int .u8 0, .int .u8 0, .int .u8 0, .int .u8 0, .int .u8 0, .int .u8 0, .int .u8 0] 185)) = W := ⟨_, rfl⟩
 rw [hW0] at hbx hrep
 go_enter Tryz.func89, Tryz.ntmps89
 go_wp2_with fail
 go_step3
 go_upto_if 20 with fail
 go_cut [5] from 17 to 60 (fun s5 wx => s5 = .int .i64 ps ∧ w = wx)
 case first =>
  rcases HSG.out with ⟨rfl, rfl, rfl⟩ | ⟨rfl, rfl, rfl⟩
  ·go_wp2_with fail
   go_meet
   exact ⟨rfl, rfl⟩
  ·go_wp2_with fail
   go_meet
   exact ⟨rfl, rfl⟩
 obtain ⟨rfl, rfl⟩ := hcut
 go_upto_if 34 with fail
 go_cut [6, 7, 8] from 17 to 60 (fun s6 s7 s8 wx => s6 = .int .i64 ex ∧ s7 = .int .u64 H ∧ s8 = .int .u64 L ∧ w = wx)
 case first =>
  rcases HA.out with ⟨h3, h4, h5, h6, h7, rfl⟩ | ⟨h3, h4, h5, h6, rfl, rfl⟩
  ·go_wp2_with fail
   go_meet
   exact ⟨rfl, rfl, rfl, rfl⟩
  ·go_wp2_with fail
   go_meet
   exact ⟨rfl, rfl, rfl, rfl⟩
 obtain ⟨rfl, rfl, rfl, rfl⟩ := hcut
 go_upto_region 18 with fail
 go_cut [56] from 17 to 60 (fun s56 wx => s56 = .bool false ∧ w = wx)
 case first =>
  by_cases hH : H = 0
  ·subst hH
   by_cases hL : L = 0
   ·subst hL
    have hz := HNZ2.out rfl rfl
    go_wp2_with fail
    go_meet
    exact ⟨rfl, rfl⟩
   ·have z1 : ((L : Int) == 0) = false := beq_eq_false_iff_ne.2 (by omega)
    go_wp2_with fail
    go_meet
    exact ⟨rfl, rfl⟩
  ·have z1 : ((H : Int) == 0) = false := beq_eq_false_iff_ne.2 (by omega)
   go_wp2_with fail
   go_meet
   exact ⟨rfl, rfl⟩
 obtain ⟨rfl, rfl⟩ := hcut
 have HNP : Hid ((neg = false ∧ ps = 1) ∨ (neg = true ∧ ps = 0)) := by exact HSG.out.imp (fun h => h.2) (fun h => h.2)
 clear HNZ2 HA HSG m1 m2 m3 t1 t2 he
 go_wp2_with fail
 clear hW0
 go_step3
 go_upto_block 1 with fail
 have HP0 := HPL.out
 have hEb : -6176 ≤ E ∧ E ≤ 10300 := by
  have h1 := HP0.EE
  cases hd with
  | false => rw [if_neg (by decide)] at h1; omega
  | true => have h2 := HP0.qT rfl; rw [if_pos rfl] at h1; omega
 clear HP0
 go_cut [6, 10] from 61 to 172 (fun s6 s10 wx => ∃ i : Nat, s6 = .int .i64 E ∧ s10 = .int .i64 i ∧ 1 ≤ i ∧ i ≤ 47 ∧ Hid (Rep w.heap.size i (txtD N hd q T) wx) ∧ Hid (Below w.heap.size w wx))
 case first =>
  go_wp2_with fail
  go_loopg [6, 7, 8, 10, 11, 12, 13, 14] 5 (fun g s6 s7 s8 s10 s11 s12 s13 s14 wx => ∃ (d H L i : Nat) (exp dot la rm : Int), d + g = 5 ∧ s14 = .int .i64 d ∧ s7 = .int .u64 H ∧ s8 = .int .u64 L ∧ s6 = .int .i64 exp ∧ s10 = .int .i64 la ∧ s11 = .int .i64 i ∧ s12 = .int .i64 dot ∧ s13 = .int .u32 rm ∧ H < 562949953421312 ∧ L < 18446744073709551616 ∧ Hid (N / 10 ^ (9 * d) = H * 18446744073709551616 + L) ∧ Hid (9 * d < T) ∧ Hid (StD e E hd q (9 * d) exp dot i) ∧ Hid (Rep w.heap.size i (txtD N hd q (9 * d)) wx) ∧ Hid (Below w.heap.size w wx))
  case atStart => exact ⟨0, H, L, 48, e, 48 + e, 48, 0, rfl, rfl, rfl, rfl, rfl, rfl, rfl, rfl, rfl, hH2, hL2, (outer_start HHL.out), (by show _ < _; omega), (by show StD _ _ _ _ _ _ _ _; unfold StD; rw [if_neg (by omega)]; exact ⟨rfl, rfl, rfl⟩), hrep, hbx⟩
  case round =>
   obtain ⟨d, H', L', i0, exp0, dot0, la0, rm, hdg, rfl, rfl, rfl, rfl, rfl, rfl, rfl, rfl, hH', hL', HN', HT', HS', HR', HB'⟩ := hrel
   clear hrep hbx HHL hH2 hL2
   cases gk with
   | zero => exfalso; have := HT'.out; omega
   | succ gO =>
    have hd5 : decide ((d : Int) < 5) = true := decide_eq_true (by omega)
    go_wp2_with (go_at_call 135; refine (divmod_calls H' L' hH' hL' _).mono ?_; rintro e1 w1 ⟨qh, ql, r, rfl, hq1, hq2, hq3, hq4, rfl⟩; have HQ1 := Lib.hid hq1; have HQ2 := Lib.hid hq2; clear hq1 hq2)
    go_loopg [6, 10, 11, 12, 13, 15] 9 (fun g s6 s10 s11 s12 s13 s15 wx => ∃ (j V i : Nat) (exp dot la : Int), j + g = 9 ∧ s15 = .int .i64 j ∧ s6 = .int .i64 exp ∧ s10 = .int .i64 la ∧ s11 = .int .i64 i ∧ s12 = .int .i64 dot ∧ s13 = .int .u32 V ∧ V < 1000000000 ∧ Hid (N / 10 ^ (9 * d + j) = (qh * 18446744073709551616 + ql) * 10 ^ (9 - j) + V ∧ V < 10 ^ (9 - j)) ∧ Hid (9 * d + j < T) ∧ Hid (StD e E hd q (9 * d + j) exp dot i) ∧ Hid (Rep w.heap.size i (txtD N hd q (9 * d + j)) wx) ∧ Hid (Below w.heap.size w wx))
    case atStart => exact ⟨0, r, i0, exp0, dot0, la0, rfl, rfl, rfl, rfl, rfl, rfl, rfl, (by have := HQ2.out; omega), (inner_start HN'.out HQ1.out HQ2.out), HT', HS', HR', HB'⟩
    case round =>
     obtain ⟨j, V, i, exp, dot, la, hjg, rfl, rfl, rfl, rfl, rfl, rfl, hV9, HV, HT, HS, HR, HB⟩ := hrel
     clear HR' HB' HS' HT' HQ1 HQ2 HN' hH' hL'
     cases gk with
     | zero =>
      have hj9 : decide ((j : Int) < 9) = false := decide_eq_false (by omega)
      have h10 : 9 * d + j = 9 * (d + 1) := by omega
      rw [h10] at HV HT HS HR
      have HV1 : Hid (N / 10 ^ (9 * (d + 1)) = qh * 18446744073709551616 + ql) := inner_end HV.out.1 HV.out.2 (by omega)
      clear HV
      go_wp2_with fail
      go_roundg gO
      case measure => omega
      case rel => exact ⟨d + 1, qh, ql, i, exp, dot, la, V, by omega, rfl, rfl, rfl, rfl, rfl, rfl, rfl, rfl, hq3, hq4, HV1, HT, HS, HR, HB⟩
     | succ gI =>
      have hj9 : decide ((j : Int) < 9) = true := decide_eq_true (by omega)
      have hj9n : j < 9 := by omega
      obtain ⟨t, ht⟩ : ∃ t, 9 * d + j = t := ⟨_, rfl⟩
      rw [ht] at HV HT HS HR
      have ht41 : t < 41 := Nat.lt_of_lt_of_le HT.out hT41
      obtain ⟨f1, f2, f3, f4, f5⟩ := split_step HV.out.1 HV.out.2 hj9n
      obtain ⟨v, hv⟩ : ∃ v, V % 10 = v := ⟨_, rfl⟩
      obtain ⟨V2, hV2⟩ : ∃ v, V / 10 = v := ⟨_, rfl⟩
      have hv10 : v < 10 := by omega
      have hVv : (V : Int) % 10 = v := by omega
      have hVV : (V : Int) / 10 = V2 := by omega
      have hV29 : V2 < 1000000000 := by omega
      have hPz := pz qh ql
      obtain ⟨pt, hpt⟩ : ∃ pt, decide (hd = true ∧ t = q) = pt := ⟨_, rfl⟩
      have hS0 := HS.out
      have hX := step32 HPL.out HT.out hS0 (X := ql = 0 ∧ qh = 0 ∧ 0 < V ∧ V < 10) (fun h => by rw [← nd_one h, ← f5, hPz, and_assoc])
      have Gt : (i : Int) < 48 ∧ (dot = i ∨ ((ql = 0 ∧ qh = 0 ∧ 0 < V ∧ V < 10) ∧ (dot < (i : Int) - 6 ∨ 0 < exp))) → Value.bool true = Value.bool pt := fun h => by rw [← hpt, decide_eq_true (hX.1 h)]
      have Gf : ¬ ((i : Int) < 48 ∧ (dot = i ∨ ((ql = 0 ∧ qh = 0 ∧ 0 < V ∧ V < 10) ∧ (dot < (i : Int) - 6 ∨ 0 < exp)))) → Value.bool false = Value.bool pt := fun h => by rw [← hpt, decide_eq_false (fun k => h (hX.2 k))]
      have HF1 : Hid (((48 + v : Int) = (48 + (N / 10 ^ t % 10 : Nat) : Int)) ∧ (N / 10 ^ (t + 1) = (qh * 18446744073709551616 + ql) * 10 ^ (9 - (j + 1)) + V2 ∧ V2 < 10 ^ (9 - (j + 1)))) := ⟨by rw [f1, hv], by rw [← hV2]; exact f2, by rw [← hV2]; exact f3⟩
      have HZ : Hid ((ql = 0 ∧ qh = 0 ∧ V2 = 0) ↔ (digs N).length ≤ t + 1) := by
       show _ ↔ _
       rw [← nd_zero, ← f4, hPz, hV2, and_assoc]
      have HW : Hid (1 ≤ t → (digs N).length = t + 1 → v ≠ 0) := fun h1 h2 h3 => by
       have h4 := f5.2 ((nd_one h1).2 h2)
       omega
      have HW0 : Hid (t = 0 → e = 0 → (digs N).length = t + 1 → v ≠ 0) := fun h1 h2 h3 h4 => HNZ.out ⟨first_zero h1 h3 f4 HV.out.1 (hv.trans h4), h2⟩
      have hi1 : 6 ≤ i ∧ i ≤ 48 := by
       have h := hS0
       unfold StD at h
       split at h <;> omega
      have hexpb : -6200 ≤ exp ∧ exp ≤ 10300 ∧ -6200 ≤ dot ∧ dot ≤ 10400 := by
       have h := hS0
       unfold StD at h
       split at h <;> omega
      clear f1 f2 f3 f4 f5 hv hV2 hPz hX hS0
      go_upto_region 32 with fail
      go_cut [108] from 72 to 172 (fun s108 wx => s108 = .bool pt ∧ wr = wx)
      case first =>
       as_aux_lemma =>
        by_cases c0 : (i : Int) < 48
        ·have g0a : decide ((i : Int) < 48) = true := decide_eq_true (by omega)
         have C0 := Lib.hid c0
         clear c0
         by_cases c1 : dot = (i : Int)
         ·have g1a : ((dot) == (i : Int)) = true := beq_iff_eq.2 (by omega)
          have C1 := Lib.hid c1
          clear c1
          go_wp2_with fail
          go_meet
          exact ⟨Gt (by have := C0.out; have := C1.out; omega), rfl⟩
         ·have g1a : ((dot) == (i : Int)) = false := beq_eq_false_iff_ne.2 (by omega)
          have C1 := Lib.hid c1
          clear c1
          by_cases c2 : ql = 0
          ·have g2a : (((ql : Int)) == 0) = true := beq_iff_eq.2 (by omega)
           have C2 := Lib.hid c2
           clear c2
           by_cases c3 : qh = 0
           ·have g3a : (((qh : Int)) == 0) = true := beq_iff_eq.2 (by omega)
            have C3 := Lib.hid c3
            clear c3
            by_cases c4 : 0 < V
            ·have g4a : decide (0 < V) = true := decide_eq_true (by omega)
             have C4 := Lib.hid c4
             clear c4
             by_cases c5 : (V : Int) < 10
             ·have g5a : decide ((V : Int) < 10) = true := decide_eq_true (by omega)
              have C5 := Lib.hid c5
              clear c5
              by_cases c6 : dot < (i : Int) - 6
              ·have g6a : decide (dot < (i : Int) - 6) = true := decide_eq_true (by omega)
               have C6 := Lib.hid c6
               clear c6
               go_wp2_with fail
               go_meet
               exact ⟨Gt (by have := C0.out; have := C1.out; have := C2.out; have := C3.out; have := C4.out; have := C5.out; have := C6.out; omega), rfl⟩
              ·have g6a : decide (dot < (i : Int) - 6) = false := decide_eq_false (by omega)
               have C6 := Lib.hid c6
               clear c6
               by_cases c7 : 0 < exp
               ·have g7a : decide (0 < exp) = true := decide_eq_true (by omega)
                have C7 := Lib.hid c7
                clear c7
                go_wp2_with fail
                go_meet
                exact ⟨Gt (by have := C0.out; have := C1.out; have := C2.out; have := C3.out; have := C4.out; have := C5.out; have := C6.out; have := C7.out; omega), rfl⟩
               ·have g7a : decide (0 < exp) = false := decide_eq_false (by omega)
                have C7 := Lib.hid c7
                clear c7
                go_wp2_with fail
                go_meet
                exact ⟨Gf (by have := C0.out; have := C1.out; have := C2.out; have := C3.out; have := C4.out; have := C5.out; have := C6.out; have := C7.out; omega), rfl⟩
             ·have g5a : decide ((V : Int) < 10) = false := decide_eq_false (by omega)
              have C5 := Lib.hid c5
              clear c5
              go_wp2_with fail
              go_meet
              exact ⟨Gf (by have := C0.out; have := C1.out; have := C2.out; have := C3.out; have := C4.out; have := C5.out; omega), rfl⟩
            ·have g4a : decide (0 < V) = false := decide_eq_false (by omega)
             have C4 := Lib.hid c4
             clear c4
             go_wp2_with fail
             go_meet
             exact ⟨Gf (by have := C0.out; have := C1.out; have := C2.out; have := C3.out; have := C4.out; omega), rfl⟩
           ·have g3a : (((qh : Int)) == 0) = false := beq_eq_false_iff_ne.2 (by omega)
            have C3 := Lib.hid c3
            clear c3
            go_wp2_with fail
            go_meet
            exact ⟨Gf (by have := C0.out; have := C1.out; have := C2.out; have := C3.out; omega), rfl⟩
          ·have g2a : (((ql : Int)) == 0) = false := beq_eq_false_iff_ne.2 (by omega)
           have C2 := Lib.hid c2
           clear c2
           go_wp2_with fail
           go_meet
           exact ⟨Gf (by have := C0.out; have := C1.out; have := C2.out; omega), rfl⟩
        ·have g0a : decide ((i : Int) < 48) = false := decide_eq_false (by omega)
         have C0 := Lib.hid c0
         clear c0
         go_wp2_with fail
         go_meet
         exact ⟨Gf (by have := C0.out; omega), rfl⟩
      obtain ⟨rfl, rfl⟩ := hcut
      clear Gt Gf
      go_upto_if 108 with fail
      go_cut [6, 10, 11, 12] from 72 to 172 (fun s6 s10 s11 s12 wx => ∃ (i2 : Nat) (exp1 dot1 la1 : Int), s6 = .int .i64 exp1 ∧ s10 = .int .i64 la1 ∧ s11 = .int .i64 ((i2 : Int) + 1) ∧ s12 = .int .i64 dot1 ∧ i2 ≤ 47 ∧ Hid (MidD e E hd q t exp1 dot1 (i2 + 1)) ∧ Hid (pt = true → la1 = i2) ∧ Hid (Rep w.heap.size (i2 + 1) (txtM N hd q t) wx) ∧ Hid (Below w.heap.size w wx))
      case first =>
       cases pt with
       | false =>
        have hnpt := of_decide_eq_false hpt
        have HM1 := Lib.hid (mid_of HS.out hnpt)
        have HR1 : Hid (Rep w.heap.size i (txtM N hd q t) wr) := by show Rep _ _ _ _; rw [← txt_mid N hnpt]; exact HR.out
        obtain ⟨i2, rfl⟩ : ∃ i2, i = i2 + 1 := ⟨i - 1, by omega⟩
        go_wp2_with fail
        go_meet
        exact ⟨i2, exp, dot, la, rfl, rfl, rfl, rfl, by omega, HM1, (fun h => by cases h), HR1, HB⟩
       | true =>
        have hyp := of_decide_eq_true hpt
        obtain ⟨m1, m2, m3⟩ := mid_pt HPL.out HS.out hyp
        obtain ⟨i2, rfl⟩ : ∃ i2, i = i2 + 2 := ⟨i - 2, by omega⟩
        have HM1 : Hid (MidD e E hd q t E 48 (i2 + 1)) := m3
        have hE1 : exp + (48 - ((i2 : Int) + 2)) = E := by omega
        have hRt := HR.out
        obtain ⟨x, hx⟩ := hRt.all (i2 + 1) (by omega)
        have hfr := hRt.fr (i2 + 1)
        have hlt := hRt.lt
        have HR1 : Hid (Rep w.heap.size (i2 + 1) (txtM N hd q t) (wr.setCell ⟨w.heap.size, i2 + 1, none⟩ (.int .u8 46))) := by
         show Rep _ _ _ _
         rw [← txt_pt N hyp]
         exact hRt.push 46
        have HB1 : Hid (Below w.heap.size w (wr.setCell ⟨w.heap.size, i2 + 1, none⟩ (.int .u8 46))) := HB.out.setCell (p := ⟨w.heap.size, i2 + 1, none⟩) (Nat.le_refl _) _
        clear m1 m2 m3 hRt hyp hpt
        go_wp2_with fail
        go_meet
        exact ⟨i2, E, 48, _, rfl, rfl, by congr 1; omega, rfl, by omega, HM1, (fun _ => by omega), HR1, HB1⟩
      obtain ⟨i2, exp1, dot1, la1, rfl, rfl, rfl, rfl, hi2, HM1, HL1, HR1, HB1⟩ := hcut
      clear HR HB HS HV hi1 hexpb
      have HS1 : Hid (StD e E hd q (t + 1) exp1 dot1 i2) := std_next HM1.out (by omega)
      have hexpb : -6200 ≤ exp1 ∧ exp1 ≤ 10300 ∧ -6200 ≤ dot1 ∧ dot1 ≤ 10400 ∧ 5 ≤ i2 := by
       have h := HS1.out
       unfold StD at h
       split at h <;> omega
      have hRt := HR1.out
      obtain ⟨x, hx⟩ := hRt.all i2 (by omega)
      have hfr := hRt.fr i2
      have hlt := hRt.lt
      obtain ⟨W2, hW2⟩ : ∃ W, wc.setCell ⟨w.heap.size, i2, none⟩ (.int .u8 (48 + v)) = W := ⟨_, rfl⟩
      have HR2 : Hid (Rep w.heap.size i2 (txtD N hd q (t + 1)) W2) := by
       show Rep _ _ _ _
       rw [← txt_next N HF1.out.1, ← hW2]
       exact hRt.push _
      have HB2 : Hid (Below w.heap.size w W2) := by
       show Below _ _ _
       rw [← hW2]
       exact HB1.out.setCell (p := ⟨w.heap.size, i2, none⟩) (Nat.le_refl _) _
      clear hRt HR1 HB1 HM1
      have H46 := Lib.hid (step46 HPL.out HT.out HS1.out HZ.out)
      have HLA : Hid (t + 1 = T → ¬ ((ql = 0 ∧ qh = 0 ∧ V2 = 0) ∧ (i2 : Int) = 47 ∧ (dot1 < (i2 : Int) - 5 ∨ 0 < exp1)) → (pt = true ∨ v ≠ 0)) := fun h1 h2 => by
       rcases step_last HPL.out h1 HS1.out HZ.out h2 with h | ⟨h3, h4⟩
       ·exact .inl (by rw [← hpt]; exact decide_eq_true h)
       ·right
        rcases Nat.eq_zero_or_pos t with h5 | h5
        ·exact HW0.out h5 (h4 h5) h3
        ·exact HW.out h5 h3
      clear HW HW0 HZ
      obtain ⟨pA, hpA⟩ : ∃ b, decide ((ql = 0 ∧ qh = 0 ∧ V2 = 0) ∧ (i2 : Int) = 47 ∧ (dot1 < (i2 : Int) - 5 ∨ 0 < exp1)) = b := ⟨_, rfl⟩
      have Gt : ((ql = 0 ∧ qh = 0 ∧ V2 = 0) ∧ (i2 : Int) = 47 ∧ (dot1 < (i2 : Int) - 5 ∨ 0 < exp1)) → Value.bool true = Value.bool pA := fun h => by rw [← hpA, decide_eq_true h]
      have Gf : ¬ ((ql = 0 ∧ qh = 0 ∧ V2 = 0) ∧ (i2 : Int) = 47 ∧ (dot1 < (i2 : Int) - 5 ∨ 0 < exp1)) → Value.bool false = Value.bool pA := fun h => by rw [← hpA, decide_eq_false h]
      have HPA := Lib.hid hpA
      have HPT := Lib.hid hpt
      clear hpA hpt
      go_upto_region 42 with fail
      clear hx hfr hlt hW2
      go_cut [153] from 72 to 172 (fun s153 wx => s153 = .bool pA ∧ W2 = wx)
      case first =>
       as_aux_lemma =>
        by_cases c0 : ql = 0
        ·have g0a : (((ql : Int)) == 0) = true := beq_iff_eq.2 (by omega)
         have C0 := Lib.hid c0
         clear c0
         by_cases c1 : qh = 0
         ·have g1a : (((qh : Int)) == 0) = true := beq_iff_eq.2 (by omega)
          have C1 := Lib.hid c1
          clear c1
          by_cases c2 : V2 = 0
          ·have g2a : (((V2 : Int)) == 0) = true := beq_iff_eq.2 (by omega)
           have C2 := Lib.hid c2
           clear c2
           by_cases c3 : i2 = 47
           ·have g3a : (((i2 : Int)) == 47) = true := beq_iff_eq.2 (by omega)
            have C3 := Lib.hid c3
            clear c3
            by_cases c4 : dot1 < (i2 : Int) - 5
            ·have g4a : decide (dot1 < (i2 : Int) - 5) = true := decide_eq_true (by omega)
             have C4 := Lib.hid c4
             clear c4
             go_wp2_with fail
             go_meet
             exact ⟨Gt (by have := C0.out; have := C1.out; have := C2.out; have := C3.out; have := C4.out; omega), rfl⟩
            ·have g4a : decide (dot1 < (i2 : Int) - 5) = false := decide_eq_false (by omega)
             have C4 := Lib.hid c4
             clear c4
             by_cases c5 : 0 < exp1
             ·have g5a : decide (0 < exp1) = true := decide_eq_true (by omega)
              have C5 := Lib.hid c5
              clear c5
              go_wp2_with fail
              go_meet
              exact ⟨Gt (by have := C0.out; have := C1.out; have := C2.out; have := C3.out; have := C4.out; have := C5.out; omega), rfl⟩
             ·have g5a : decide (0 < exp1) = false := decide_eq_false (by omega)
              have C5 := Lib.hid c5
              clear c5
              go_wp2_with fail
              go_meet
              exact ⟨Gf (by have := C0.out; have := C1.out; have := C2.out; have := C3.out; have := C4.out; have := C5.out; omega), rfl⟩
           ·have g3a : (((i2 : Int)) == 47) = false := beq_eq_false_iff_ne.2 (by omega)
            have C3 := Lib.hid c3
            clear c3
            go_wp2_with fail
            go_meet
            exact ⟨Gf (by have := C0.out; have := C1.out; have := C2.out; have := C3.out; omega), rfl⟩
          ·have g2a : (((V2 : Int)) == 0) = false := beq_eq_false_iff_ne.2 (by omega)
           have C2 := Lib.hid c2
           clear c2
           go_wp2_with fail
           go_meet
           exact ⟨Gf (by have := C0.out; have := C1.out; have := C2.out; omega), rfl⟩
         ·have g1a : (((qh : Int)) == 0) = false := beq_eq_false_iff_ne.2 (by omega)
          have C1 := Lib.hid c1
          clear c1
          go_wp2_with fail
          go_meet
          exact ⟨Gf (by have := C0.out; have := C1.out; omega), rfl⟩
        ·have g0a : (((ql : Int)) == 0) = false := beq_eq_false_iff_ne.2 (by omega)
         have C0 := Lib.hid c0
         clear c0
         go_wp2_with fail
         go_meet
         exact ⟨Gf (by have := C0.out; omega), rfl⟩
      obtain ⟨rfl, rfl⟩ := hcut
      clear Gt Gf
      cases pA with
      | true =>
       have hA := of_decide_eq_true HPA.out
       have hT := H46.out.1 (.inl hA)
       rw [hT] at HS1 HR2
       have hE1 : exp1 = E := by
        have h := HS1.out
        have h2 := HPL.out.EE
        unfold StD at h
        cases hd with
        | false => rw [if_neg (by simp)] at h; rw [if_neg (by decide)] at h2; omega
        | true => have h3 := HPL.out.qT rfl; rw [if_pos ⟨rfl, h3.2⟩] at h; omega
       subst hE1
       clear hA hT
       go_wp2_with fail
       go_meet
       exact ⟨i2, rfl, rfl, by omega, by omega, HR2, HB2⟩
      | false =>
       have hA := of_decide_eq_false HPA.out
       have HNA := Lib.hid hA
       clear hA
       go_upto_if 156 with fail
       go_cut [10] from 72 to 172 (fun s10 wx => ∃ la2 : Int, s10 = .int .i64 la2 ∧ Hid (t + 1 = T → la2 = i2) ∧ W2 = wx)
       case first =>
        by_cases hv0 : v = 0
        ·have gv : ((48 + (v : Int)) == 48) = true := beq_iff_eq.2 (by omega)
         have HV0 := Lib.hid hv0
         clear hv0
         go_wp2_with fail
         go_meet
         exact ⟨la1, rfl, (fun h => by
          rcases HLA.out h HNA.out with h2 | h2
          ·exact HL1.out h2
          ·exact absurd HV0.out h2), rfl⟩
        ·have gv : ((48 + (v : Int)) == 48) = false := beq_eq_false_iff_ne.2 (by omega)
         go_wp2_with fail
         go_meet
         exact ⟨i2, rfl, fun _ => rfl, rfl⟩
       obtain ⟨la2, rfl, HL2, rfl⟩ := hcut
       obtain ⟨pB, hpB⟩ : ∃ b, decide ((i2 : Int) < dot1 ∧ (ql = 0 ∧ qh = 0 ∧ V2 = 0)) = b := ⟨_, rfl⟩
       have Gt : ((i2 : Int) < dot1 ∧ (ql = 0 ∧ qh = 0 ∧ V2 = 0)) → Value.bool true = Value.bool pB := fun h => by rw [← hpB, decide_eq_true h]
       have Gf : ¬ ((i2 : Int) < dot1 ∧ (ql = 0 ∧ qh = 0 ∧ V2 = 0)) → Value.bool false = Value.bool pB := fun h => by rw [← hpB, decide_eq_false h]
       have HPB := Lib.hid hpB
       clear hpB
       go_upto_region 46 with fail
       go_cut [172] from 72 to 172 (fun s172 wx => s172 = .bool pB ∧ W2 = wx)
       case first =>
        as_aux_lemma =>
         by_cases c0 : (i2 : Int) < dot1
         ·have g0a : decide ((i2 : Int) < dot1) = true := decide_eq_true (by omega)
          have C0 := Lib.hid c0
          clear c0
          by_cases c1 : ql = 0
          ·have g1a : (((ql : Int)) == 0) = true := beq_iff_eq.2 (by omega)
           have C1 := Lib.hid c1
           clear c1
           by_cases c2 : qh = 0
           ·have g2a : (((qh : Int)) == 0) = true := beq_iff_eq.2 (by omega)
            have C2 := Lib.hid c2
            clear c2
            by_cases c3 : V2 = 0
            ·have g3a : (((V2 : Int)) == 0) = true := beq_iff_eq.2 (by omega)
             have C3 := Lib.hid c3
             clear c3
             go_wp2_with fail
             go_meet
             exact ⟨Gt (by have := C0.out; have := C1.out; have := C2.out; have := C3.out; omega), rfl⟩
            ·have g3a : (((V2 : Int)) == 0) = false := beq_eq_false_iff_ne.2 (by omega)
             have C3 := Lib.hid c3
             clear c3
             go_wp2_with fail
             go_meet
             exact ⟨Gf (by have := C0.out; have := C1.out; have := C2.out; have := C3.out; omega), rfl⟩
           ·have g2a : (((qh : Int)) == 0) = false := beq_eq_false_iff_ne.2 (by omega)
            have C2 := Lib.hid c2
            clear c2
            go_wp2_with fail
            go_meet
            exact ⟨Gf (by have := C0.out; have := C1.out; have := C2.out; omega), rfl⟩
          ·have g1a : (((ql : Int)) == 0) = false := beq_eq_false_iff_ne.2 (by omega)
           have C1 := Lib.hid c1
           clear c1
           go_wp2_with fail
           go_meet
           exact ⟨Gf (by have := C0.out; have := C1.out; omega), rfl⟩
         ·have g0a : decide ((i2 : Int) < dot1) = false := decide_eq_false (by omega)
          have C0 := Lib.hid c0
          clear c0
          go_wp2_with fail
          go_meet
          exact ⟨Gf (by have := C0.out; omega), rfl⟩
       obtain ⟨rfl, rfl⟩ := hcut
       clear Gt Gf
       cases pB with
       | true =>
        have hB := of_decide_eq_true HPB.out
        have hT := H46.out.1 (.inr hB)
        have hl2 := HL2.out hT
        rw [hT] at HS1 HR2
        have hE1 : exp1 = E := by
         have h := HS1.out
         have h2 := HPL.out.EE
         unfold StD at h
         cases hd with
         | false => rw [if_neg (by simp)] at h; rw [if_neg (by decide)] at h2; omega
         | true => have h3 := HPL.out.qT rfl; rw [if_pos ⟨rfl, h3.2⟩] at h; omega
        subst hE1
        subst hl2
        clear hB hT
        go_wp2_with fail
        go_meet
        exact ⟨i2, rfl, rfl, by omega, by omega, HR2, HB2⟩
       | false =>
        have hB := of_decide_eq_false HPB.out
        have HT1 : Hid (t + 1 < T) := by
         show _ < _
         have h1 := HT.out
         have h2 := fun h => H46.out.2 h
         rcases Nat.lt_or_ge (t + 1) T with h3 | h3
         ·exact h3
         ·rcases h2 (by omega) with h4 | h4
          ·exact absurd h4 HNA.out
          ·exact absurd h4 hB
        clear hB
        have ht1 : 9 * d + (j + 1) = t + 1 := by omega
        go_wp2_with fail
        go_roundg gI
        case measure => omega
        case rel => exact ⟨j + 1, V2, i2, exp1, dot1, la2, by omega, rfl, rfl, rfl, rfl, rfl, rfl, hV29, (by rw [ht1]; exact HF1.out.2), (by rw [ht1]; exact HT1), (by rw [ht1]; exact HS1), (by rw [ht1]; exact HR2), HB2⟩
 obtain ⟨i, rfl, rfl, hi1, hi47, HR, HB⟩ := hcut
 clear hrep hbx HHL HNZ hH2 hL2
 obtain ⟨i3, rfl⟩ : ∃ i3, i = i3 + 1 := ⟨i - 1, by omega⟩
 obtain ⟨k, hk⟩ : ∃ k : Nat, (i3 : Int) + ps = k := ⟨((i3 : Int) + ps).toNat, by omega⟩
 have hk48 : k ≤ 47 := by omega
 have hRt := HR.out
 obtain ⟨x, hx⟩ := hRt.all i3 (by omega)
 have hfr := hRt.fr i3
 have hlt := hRt.lt
 obtain ⟨W3, hW3⟩ : ∃ W, wc.setCell ⟨w.heap.size, i3, none⟩ (.int .u8 45) = W := ⟨_, rfl⟩
 have HB3 : Hid (Below w.heap.size w W3) := by
  show Below _ _ _
  rw [← hW3]
  exact HB.out.setCell (p := ⟨w.heap.size, i3, none⟩) (Nat.le_refl _) _
 have hR3 := hRt.push 45
 rw [hW3] at hR3
 have htx : txtD N hd q T = if hd then ptxt N T q else pdig N T := by
  unfold txtD
  cases hd with
  | false => rw [if_neg (by simp), if_neg (by decide)]
  | true => rw [if_pos ⟨rfl, (HPL.out.qT rfl).2⟩, if_pos rfl]
 have h4 := hRt.len
 have h5 := hR3.len
 obtain ⟨body, hbl, HBY, HBT⟩ : ∃ body : List Int, k + body.length = 48 ∧ Hid (Byt W3 w.heap.size k body) ∧ Hid (decSign neg ++ (if hd then ptxt N T q else pdig N T) = body) := by
  rw [← htx]
  rcases HNP.out with ⟨rfl, rfl⟩ | ⟨rfl, rfl⟩
  ·obtain rfl : k = i3 + 1 := by omega
   refine ⟨txtD N hd q T, h4, ?_, rfl⟩
   intro j hj
   have h6 := hR3.got (j + 1) (by simpa using hj)
   rw [show i3 + 1 + j = i3 + (j + 1) by omega]
   exact h6
  ·obtain rfl : k = i3 := by omega
   exact ⟨45 :: txtD N hd q T, h5, fun j hj => hR3.got j hj, rfl⟩
 have hlt3 := hR3.lt
 clear hRt hR3 htx h4 h5 HPL HR HB HNP hi1 hT41 hT1 hps0
 obtain ⟨ub, hub⟩ : ∃ u, strOfNums body = u := ⟨_, rfl⟩
 have hus : ub.size ≤ 50 := by rw [← hub, strOfNums_size]; omega
 obtain ⟨ue, hue⟩ : ∃ u, strOfNums (numF E) = u := ⟨_, rfl⟩
 have hues : ue.size ≤ 10 := by rw [← hue, strOfNums_size]; exact numF_length (by omega) (by omega)
 have HCV : Hid (∀ W, Below W3.heap.size W3 W → (convert 23 9 (.slice (some ⟨w.heap.size, k, none⟩) (48 - k) (48 - k))).run Tryz.prog W = .ok (.string ub) W) := fun W hW => by
  have h := conv_byt W w.heap.size k (48 - k) body (fun j hj => (hW.cell (p := ⟨w.heap.size, k + j, none⟩) hlt3).trans (HBY.out j hj))
  rwa [show body.length = 48 - k by omega, hub] at h
 have cv := HCV.out W3 (Below.refl _ _)
 have cvn := fun n => HCV.out (W3.drewN n) (((Below.refl _ _).trans ⟨rfl, rfl, rfl, Nat.le_refl _, fun _ _ => rfl⟩))
 have hal : Tryz.prog.arrayLen 185 = 48 := by kernel_rfl
 have hsl : ∀ W, (Instr.sliceAt 185 (.pointer (some ⟨w.heap.size, 0, none⟩)) (some (.int .i64 (k : Int))) none none).run Tryz.prog W = .ok (.slice (some ⟨w.heap.size, k, none⟩) (48 - k) (48 - k)) W := fun W => by
  rw [run_sliceAt_array_l W 185 ⟨w.heap.size, 0, none⟩ (by kernel_rfl) .i64 (k : Int) (by omega) (by rw [hal]; omega), hal]
  go_simp
  omega
 have hwk : IntKind.i64.wrap (k : Int) = k := by rw [IntKind.wrap_i64]; omega
 clear hal
 have cvd := HCV.out W3.drew ((Below.refl _ _).drew)
 have HIT : Hid (∀ W, Below w.heap.size w W → Calls Tryz.prog 136 #[.int .i64 E] W fun e w' => e = .returned (.string ue) ∧ Below W.heap.size W w') := fun W hW =>
  (Tryz.strconv_Itoa E (by omega) (by omega) W (HPW.out W hW)).mono fun e w' ⟨he, n, os, hw⟩ => ⟨by rw [he, (strIs_itoa E).out, hue], by subst hw; exact Lib.below_grow _ W (Nat.le_refl _) n os⟩
 clear HPW HBY
 rcases Int.lt_trichotomy E 0 with hE | hE | hE
 ·have g1 : decide (0 < E) = false := decide_eq_false (by omega)
  have g2 : decide (E < 0) = true := decide_eq_true hE
  have HT2 : Hid (ub ++ (⟨#[69]⟩ : ByteArray) ++ ue = strOfNums txt) := by
   show _ = _
   rw [← hub, ← hue, show (⟨#[69]⟩ : ByteArray) = strOfNums [69] from rfl, strOfNums_append, strOfNums_append, ← HTX.out, ← HBT.out, if_neg (by omega : ¬ 0 < E), if_pos hE]
   simp
  clear hE HTX HBT hub hue
  go_upto_region 52 with fail
  go_cut [4] from 180 to 204 (fun s4 wx => s4 = .string (strOfNums txt) ∧ Hid (Below w.heap.size w wx))
  case first =>
   go_region_with (go_at_call 136; refine (HIT.out _ (by first | exact HB3.out | exact HB3.out.trans ⟨rfl, rfl, rfl, Nat.le_refl _, fun _ _ => rfl⟩)).mono ?_; rintro e1 w1 ⟨rfl, hw⟩; have hw2 : Below W3.heap.size W3 w1 := (by first | exact hw | exact ((Below.refl W3.heap.size W3).drew).trans hw); have hcv1 := HCV.out w1 hw2; have HW1 := Lib.hid (HB3.out.trans (hw2.mono HB3.out.size)); clear hw hw2)
   all_goals go_wp2_with fail
   all_goals go_meet
   all_goals exact ⟨by rw [HT2.out], by first | exact HW1 | exact ⟨HW1.out.drew⟩⟩
  obtain ⟨rfl, HB4⟩ := hcut
  go_wp2_with fail
  go_ret
  exact ⟨rfl, HB4.out⟩
 ·subst hE
  have HT2 : Hid (body = txt) := by
   show _ = _
   rw [← HTX.out, ← HBT.out]
   simp
  clear HTX HBT
  go_wp2_with fail
  go_ret
  exact ⟨by rw [← hub, HT2.out]; rfl, HB3.out⟩
 ·have g1 : decide (0 < E) = true := decide_eq_true hE
  have HT2 : Hid (ub ++ (⟨#[69, 43]⟩ : ByteArray) ++ ue = strOfNums txt) := by
   show _ = _
   rw [← hub, ← hue, show (⟨#[69, 43]⟩ : ByteArray) = strOfNums [69, 43] from rfl, strOfNums_append, strOfNums_append, ← HTX.out, ← HBT.out, if_pos hE]
   simp
  clear hE HTX HBT hub hue
  go_upto_region 50 with fail
  go_cut [4] from 180 to 204 (fun s4 wx => s4 = .string (strOfNums txt) ∧ Hid (Below w.heap.size w wx))
  case first =>
   go_region_with (go_at_call 136; refine (HIT.out _ (by first | exact HB3.out | exact HB3.out.trans ⟨rfl, rfl, rfl, Nat.le_refl _, fun _ _ => rfl⟩)).mono ?_; rintro e1 w1 ⟨rfl, hw⟩; have hw2 : Below W3.heap.size W3 w1 := (by first | exact hw | exact ((Below.refl W3.heap.size W3).drew).trans hw); have hcv1 := HCV.out w1 hw2; have HW1 := Lib.hid (HB3.out.trans (hw2.mono HB3.out.size)); clear hw hw2)
   all_goals go_wp2_with fail
   all_goals go_meet
   all_goals exact ⟨by rw [HT2.out], by first | exact HW1 | exact ⟨HW1.out.drew⟩⟩
  obtain ⟨rfl, HB4⟩ := hcut
  go_wp2_with fail
  go_ret
  exact ⟨rfl, HB4.out⟩
theorem dec_sign {hi : Int} (h0 : 0 ≤ hi) (h1 : hi < 18446744073709551616) : (hi / 9223372036854775808 % 2 = 0 ∧ decNeg hi = false) ∨ (hi / 9223372036854775808 % 2 = 1 ∧ decNeg hi = true) := by
 have hb : hi / 9223372036854775808 = 0 ∨ hi / 9223372036854775808 = 1 := by omega
 rcases hb with hb | hb
 ·exact .inl ⟨by rw [hb]; rfl, by unfold decNeg; rw [hb]; rfl⟩
 ·exact .inr ⟨by rw [hb]; rfl, by unfold decNeg; rw [hb]; rfl⟩
theorem decString_kind (hi lo : Int) (h0 : 0 ≤ hi) (h1 : hi < 18446744073709551616) (hk : decKind hi ≠ 0) (w : World) :
  Calls Tryz.prog 89 #[.int .u64 hi, .int .u64 lo] w (TextIs (decTextF (decKind hi) (decNeg hi) (decDig hi lo) (decExp hi)) w) := by
 have m1 : bits .and .u64 (hi / 9223372036854775808) 1 = (hi / 9223372036854775808) % 2 := mask_u64 1 (by decide) _ (by omega) (by omega)
 have m2 : bits .and .u64 (hi / 288230376151711744) 31 = (hi / 288230376151711744) % 32 := mask_u64 5 (by decide) _ (by omega) (by omega)
 by_cases h2 : decKind hi = 2
 ·have t1 : ((hi / 288230376151711744 % 32) == 31) = true := beq_iff_eq.2 (by
   unfold decKind at h2
   split at h2
   ·exact absurd h2 (by decide)
   ·split at h2
    ·assumption
    ·exact absurd h2 (by decide))
  have ht : decTextF (decKind hi) (decNeg hi) (decDig hi lo) (decExp hi) = [78, 97, 78] := by unfold decTextF; rw [if_pos h2]
  rw [ht]
  rcases dec_sign h0 h1 with ⟨s1, s2⟩ | ⟨s1, s2⟩
  all_goals
   rw [s1] at m1
   clear ht h2 hk s1 s2
   go_enter Tryz.func89, Tryz.ntmps89
   go_wp2_with fail
   go_step3
   go_wp2_with fail
   go_ret
   exact ⟨rfl, Below.refl _ _⟩
 ·have hx : hi / 288230376151711744 % 32 = 30 := by
   unfold decKind at hk h2
   split at hk
   ·assumption
   ·rename_i h
    rw [if_neg h] at h2
    split at hk
    ·rename_i h3; rw [if_pos h3] at h2; exact absurd rfl h2
    ·exact absurd rfl hk
  have hk1 : decKind hi = 1 := by unfold decKind; rw [if_pos hx]
  have t1 : ((hi / 288230376151711744 % 32) == 31) = false := beq_eq_false_iff_ne.2 (by omega)
  have t2 : ((hi / 288230376151711744 % 32) == 30) = true := beq_iff_eq.2 hx
  have ht : decTextF (decKind hi) (decNeg hi) (decDig hi lo) (decExp hi) = decSign (decNeg hi) ++ [73, 110, 102, 105, 110, 105, 116, 121] := by unfold decTextF; rw [if_neg h2, if_pos hk1]
  rw [ht]
  rcases dec_sign h0 h1 with ⟨s1, s2⟩ | ⟨s1, s2⟩
  all_goals
   rw [s1] at m1
   rw [s2]
   clear ht h2 hk s1 s2 hx hk1
   go_enter Tryz.func89, Tryz.ntmps89
   go_wp2_with fail
   go_step3
   go_wp2_with fail
   go_ret
   exact ⟨rfl, Below.refl _ _⟩
theorem decString_zero (hi lo : Int) (h0 : 0 ≤ hi) (h1 : hi < 18446744073709551616) (l0 : 0 ≤ lo) (l1 : lo < 18446744073709551616) (hk : decKind hi = 0) (hz : decDig hi lo = digs 0 ∧ decExp hi = 0) (w : World) :
  Calls Tryz.prog 89 #[.int .u64 hi, .int .u64 lo] w (TextIs (decTextF (decKind hi) (decNeg hi) (decDig hi lo) (decExp hi)) w) := by
 obtain ⟨H, L, ex, N, hHL, hH2, hL2, hdig, hexp, hA⟩ := dec_parts h0 h1 l0 l1 hk
 obtain ⟨hz1, hz2⟩ := hz
 have hN : N = 0 := by
  rw [hdig] at hz1
  have h3 : (digs N).length = 1 := by rw [hz1]; rfl
  have h4 : N < 10 := by
   rcases Nat.lt_or_ge N 10 with h | h
   ·exact h
   ·rw [digs_big h, List.length_append, List.length_singleton] at h3
    have := digs_ge (N / 10)
    omega
  rw [digs_small h4] at hz1
  have h5 : digs 0 = [48] := rfl
  rw [h5] at hz1
  injection hz1 with h6 _
  omega
 obtain ⟨hL0, hH0⟩ := (pz H L).1 (hHL.trans hN)
 subst hH0; subst hL0
 have hx : ex = 6176 := by
  rw [hexp] at hz2
  clear hHL hA hN hz1 hdig hk hexp
  omega
 subst hx
 have m1 : bits .and .u64 (hi / 9223372036854775808) 1 = (hi / 9223372036854775808) % 2 := mask_u64 1 (by decide) _ (by omega) (by omega)
 have m2 : bits .and .u64 (hi / 288230376151711744) 31 = (hi / 288230376151711744) % 32 := mask_u64 5 (by decide) _ (by omega) (by omega)
 have m3 : bits .and .u64 (hi / 2305843009213693952) 3 = (hi / 2305843009213693952) % 4 := mask_u64 2 (by decide) _ (by omega) (by omega)
 have t1 : ((hi / 288230376151711744 % 32) == 31) = false := beq_eq_false_iff_ne.2 (by intro h; unfold decKind at hk; rw [h] at hk; simp at hk)
 have t2 : ((hi / 288230376151711744 % 32) == 30) = false := beq_eq_false_iff_ne.2 (by intro h; unfold decKind at hk; rw [h] at hk; simp at hk)
 have ht : decTextF (decKind hi) (decNeg hi) (decDig hi lo) (decExp hi) = decSign (decNeg hi) ++ [48] := by
  rw [hz1, hz2, hk]; rfl
 rw [ht]
 have HA := Lib.hid hA
 clear ht hA hz1 hz2 hdig hexp hHL hN hk
 rcases dec_sign h0 h1 with ⟨s1, s2⟩ | ⟨s1, s2⟩
 all_goals
  rw [s1] at m1
  rw [s2]
  clear s1 s2
  rcases HA.out with ⟨h3, h4, h5, h6, h7, rfl⟩ | ⟨h3, h4, h5, h6, h7, h8⟩
  all_goals
   clear HA
   go_enter Tryz.func89, Tryz.ntmps89
   go_wp2_with fail
   go_step3
   go_wp2_with fail
   go_ret
   exact ⟨rfl, Below.refl _ _⟩
theorem decString_calls (hi lo : Int) (h0 : 0 ≤ hi) (h1 : hi < 18446744073709551616) (l0 : 0 ≤ lo) (l1 : lo < 18446744073709551616) (hlen : (decDig hi lo).length ≤ 34) (w : World) (hP : ∀ W, Below w.heap.size w W → Pow10W W) :
  Calls Tryz.prog 89 #[.int .u64 hi, .int .u64 lo] w (TextIs (decTextF (decKind hi) (decNeg hi) (decDig hi lo) (decExp hi)) w) := by
 by_cases hk : decKind hi = 0
 ·by_cases hz : decDig hi lo = digs 0 ∧ decExp hi = 0
  ·exact decString_zero hi lo h0 h1 l0 l1 hk hz w
  ·exact decString_fin hi lo h0 h1 l0 l1 hk hlen w hP hz
 ·exact decString_kind hi lo h0 h1 hk w
end Go.Proofs.YtkeakdjbidbegaaGreatDoor
