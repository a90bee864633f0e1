/- A part of the proof that laws.FnTextElement returns true at every input: Asn. -/
import Derived.Test.YtkeakdjbidbegaaGreatDoorP
set_option linter.unusedSimpArgs false
set_option linter.unusedVariables false
set_option maxRecDepth 100000
set_option maxHeartbeats 8000000
namespace Go.Proofs.YtkeakdjbidbegaaGreatDoor
open Go.RowKit
open Go.Proofs.YtkeakdjbidbegaaGreatDoorW.PrintWords
theorem Asn_all (o c K S : Nat) (P len : Nat → Nat) (X pre : Nat → List Int) (V : Nat → Value) (b : Nat) (w : World) (HP : Parts 91 93 K S P len X pre) (hS : S + 5 ≤ c) (hmx : c ≤ maxLen) (hbw : b < w.heap.size)
  (hRL : Calls Tryz.prog 91 #[.slice (some ⟨b, o, none⟩) (S + 5) c] w (RdAns (.int .i32 ((S + 5 : Nat) : Int)) b (o + 4) (S + 1) (c - 4) w))
  (hRead : ∀ k, k < K → ∀ W, Below w.heap.size w W → Calls Tryz.prog 92 #[.slice (some ⟨b, o + (4 + P k), none⟩) (S + 1 - P k) (c - (4 + P k))] W fun e w' => e = .returned (.tuple #[.slice (some ⟨b, o + (4 + P k), none⟩) (len k) (c - (4 + P k)), .slice (some ⟨b, o + (4 + P (k + 1)), none⟩) (S + 1 - P (k + 1)) (c - (4 + P (k + 1))), .bool true]) ∧ Below W.heap.size W w')
  (hVal : ∀ k, k < K → ∀ W, Below w.heap.size w W → Calls Tryz.prog 93 #[.slice (some ⟨b, o + (4 + P k), none⟩) (len k) (c - (4 + P k))] W fun e w' => e = .returned (V k) ∧ Below W.heap.size W w')
  (hStr : ∀ k, k < K → ∀ W, Below w.heap.size w W → ∀ n', n' = -1 ∨ (1 ≤ n' ∧ n' ≤ 65535) → Calls Tryz.prog 36 #[V k, .int .i64 n'] W (StrN (X k) n' W))
  : Calls Tryz.prog 38 #[.slice (some ⟨b, o, none⟩) (S + 5) c, .int .i64 (-1)] w (StrN (pre K ++ [93]) (-1) w) := by
 have HPP := Lib.hid HP
 have HRL := Lib.hid hRL
 have HRE := Lib.hid hRead
 have HST := Lib.hid hStr
 have hSs := HP.small
 have hP0 := HP.p0
 have d5 : decide ((S : Int) + 5 < 5) = false := decide_eq_false (by omega)
 have hpre0 := HP.pre0
 unfold maxLen at hmx
 have HVA := Lib.hid hVal
 clear hVal
 clear HP hRL hRead hStr
 go_enter Tryz.func38, Tryz.ntmps38
 go_wp2_with fail
 refine HRL.out.mono ?_
 rintro e w1 ⟨A, rfl, ⟨o', hA1, hA2⟩, hw⟩
 obtain rfl : o' = o + 4 := by omega
 subst hA1
 have HB1 := Lib.hid hw
 clear hw hA2
 have hsz1 := HB1.out.size
 have hBf : Hid (Bld w1.heap.size w1.heap.size [] (w1.alloc (.cells #[.pointer none, .slice none 0 0] 58))) := Bld.fresh w1
 have hBa : Hid (Below w.heap.size w (w1.alloc (.cells #[.pointer none, .slice none 0 0] 58))) := HB1.out.alloc hsz1 _
 go_wp2_with fail
 refine (hBf.out.byte 91 (by decide) (by decide) (by simp) (by simp)).mono ?_
 rintro e w2 ⟨rfl, hb2, hw2⟩
 have HBL2 := Lib.hid hb2
 have HB2 := Lib.hid (hBa.out.trans (hw2.mono hsz1))
 have hs2 := hw2.size
 have hs12 : w1.heap.size ≤ w2.heap.size := by have h := hs2; simp at h; omega
 clear hb2 hw2 hs2
 obtain ⟨BB, hBB⟩ : ∃ B, w1.heap.size = B := ⟨_, rfl⟩
 rw [hBB] at HBL2 hs12 hsz1
 have HBB := Lib.hid hBB
 go_upto_block 0 with fail
 go_cut [10] from 34 to 82 (fun s10 wx => s10 = .bool false ∧ Hid (Bld BB BB (pre K) wx) ∧ BB ≤ wx.heap.size ∧ Hid (Below w.heap.size w wx))
 case first =>
  go_wp2_with fail
  go_loopg [6, 7, 10, 13] K (fun g s6 s7 s10 s13 wx => ∃ (k : Nat) (f : Bool), k + g = K ∧ s6 = .int .i32 ((S : Int) - P k) ∧ s7 = .slice (some ⟨b, o + (4 + P k), none⟩) (S + 1 - P k) (c - (4 + P k)) ∧ s10 = .bool false ∧ s13 = .bool f ∧ Hid (decide (k = 0) = f) ∧ Hid (Bld BB BB (pre k) wx) ∧ BB ≤ wx.heap.size ∧ Hid (Below w.heap.size w wx))
  case atStart => exact ⟨0, true, by omega, by rw [hP0]; congr 1; omega, by rw [hP0]; rfl, rfl, rfl, rfl, by show Bld _ _ _ _; rw [hpre0]; exact HBL2.out, hs12, HB2⟩
  case round =>
   obtain ⟨k, f, hkg, rfl, rfl, rfl, rfl, HF, HBL, hsz, HBW⟩ := hrel
   clear HBL2 HB2 hs12
   cases gk with
   | zero =>
    obtain rfl : k = K := by omega
    have hpk := HPP.out.pK
    have d0 : decide ((0 : Int) < (S : Int) - P k) = false := decide_eq_false (by omega)
    go_wp2_with fail
    go_meet
    exact ⟨rfl, HBL, hsz, HBW⟩
   | succ g =>
    have hk : k < K := by omega
    obtain ⟨hq1, hq2, hq3, _⟩ := HPP.out.at hk
    have hdn := (HPP.out.done (Nat.le_of_lt hk)).1.2 hk
    have hps := HPP.out.ps k hk
    have hpo := HPP.out.pos k hk
    have d0 : decide ((0 : Int) < (S : Int) - P k) = true := decide_eq_true (by omega)
    obtain ⟨L, hL⟩ : ∃ L, len k = L := ⟨_, rfl⟩
    obtain ⟨Q, hQ⟩ : ∃ Q, P (k + 1) = Q := ⟨_, rfl⟩
    have HRk := Lib.hid (HRE.out k hk)
    have HSk := Lib.hid (HST.out k hk)
    have HVk := Lib.hid (HVA.out k hk)
    have hprs := HPP.out.pres k hk
    rw [hL] at hq1 hps hpo HRk HVk
    rw [hQ] at hps HRk
    have hQS : Q ≤ S := by omega
    have d1 : decide ((S : Int) - P k - L < 0) = false := decide_eq_false (by omega)
    have hLQ : (S : Int) - P k - L = (S : Int) - Q := by omega
    obtain ⟨sp, hsp⟩ : ∃ l : List Int, (if f = true then [] else [44]) = l := ⟨_, rfl⟩
    have hsl : sp.length ≤ 1 := by rw [← hsp]; split <;> simp
    have hpx : pre (k + 1) = pre k ++ sp ++ X k := by
     rw [hprs, ← hsp, ← HF.out]
     simp
    clear hprs
    go_upto_if 49 with fail
    go_cut [14] from 34 to 82 (fun s14 wx => s14 = .int .i64 (-1) ∧ Hid (Bld BB BB (pre k ++ sp) wx) ∧ BB ≤ wx.heap.size ∧ Hid (Below w.heap.size w wx))
    case first =>
     cases f with
     | true =>
      rw [if_pos rfl] at hsp
      subst hsp
      go_wp2_with fail
      go_meet
      exact ⟨rfl, by rw [List.append_nil]; exact HBL, hsz, HBW⟩
     | false =>
      rw [if_neg (by decide)] at hsp
      subst hsp
      go_wp2_with fail
      refine (HBL.out.byte 44 (by decide) (by decide) (by omega) hsz).mono ?_
      rintro e w3 ⟨rfl, hb3, hw3⟩
      have HBL3 := Lib.hid hb3
      have HBW3 := Lib.hid (HBW.out.trans (hw3.mono hsz1))
      have hsz3 := Nat.le_trans hsz hw3.size
      clear hb3 hw3
      go_wp2_with fail
      go_meet
      exact ⟨rfl, HBL3, hsz3, HBW3⟩
    obtain ⟨rfl, HBL4, hsz4, HBW4⟩ := hcut
    clear HBL HBW hsz
    go_wp2_with fail
    refine (HRk.out _ HBW4.out).mono ?_
    rintro e w5 ⟨rfl, hw5⟩
    have HBL5 := Lib.hid (HBL4.out.old hw5)
    have HBW5 := Lib.hid (HBW4.out.trans (hw5.mono HBW4.out.size))
    have hsz5 := Nat.le_trans hsz4 hw5.size
    clear hw5 HBL4 HBW4
    go_wp2_with fail
    refine (HVk.out _ HBW5.out).mono ?_
    rintro e wv ⟨rfl, hwv⟩
    replace HBL5 := Lib.hid (HBL5.out.old hwv)
    replace hsz5 := Nat.le_trans hsz5 hwv.size
    replace HBW5 := Lib.hid (HBW5.out.trans (hwv.mono HBW5.out.size))
    clear hwv
    go_wp2_with fail
    refine (HSk.out _ HBW5.out (-1) (.inl rfl)).mono ?_
    rintro e w6 ⟨u, rfl, hu, hw6⟩
    have HU : Hid (StrIs u (X k)) := hu
    have HBL6 := Lib.hid (HBL5.out.old hw6)
    have HBW6 := Lib.hid (HBW5.out.trans (hw6.mono HBW5.out.size))
    have hsz6 := Nat.le_trans hsz5 hw6.size
    clear hw6 hu HBL5 HBW5
    go_wp2_with fail
    refine (HBL6.out.str HU.out (by rw [List.length_append]; omega) hsz6).mono ?_
    rintro e w7 ⟨rfl, hb7, hw7⟩
    have HBL7 : Hid (Bld BB BB (pre (k + 1)) w7) := by show Bld _ _ _ _; rw [hpx]; exact hb7
    have HBW7 := Lib.hid (HBW6.out.trans (hw7.mono hsz1))
    have hsz7 := Nat.le_trans hsz6 hw7.size
    clear hb7 hw7
    go_wp2_with fail
    go_roundg g
    case measure => omega
    case rel => exact ⟨k + 1, false, by omega, by rw [hQ, hps]; congr 1 <;> omega, by rw [hQ, hps], rfl, rfl, by show decide _ = _; exact decide_eq_false (by omega), HBL7, hsz7, HBW7⟩
 obtain ⟨rfl, HBL, hsz, HBW⟩ := hcut
 have hKl := HPP.out.le
 go_wp2_with fail
 refine (HBL.out.byte 93 (by decide) (by decide) (by omega) hsz).mono ?_
 rintro e w3 ⟨rfl, hb3, hw3⟩
 have HBL3 := Lib.hid hb3
 have HBW3 := Lib.hid (HBW.out.trans (hw3.mono hsz1))
 have hsz3 := Nat.le_trans hsz hw3.size
 clear hb3 hw3
 go_wp2_with fail
 refine (HBL3.out.string hsz3).mono ?_
 rintro e w4 ⟨rfl, hw4⟩
 have HBW4 := Lib.hid (HBW3.out.trans (hw4.mono hsz1))
 clear hw4
 go_wp2_with fail
 go_ret2
 exact ⟨strOfNums (pre K ++ [93]), by simp, by rw [if_pos (by decide)]; exact .of _, HBW4.out⟩
theorem Asn_cut (o c K S : Nat) (P len : Nat → Nat) (X pre : Nat → List Int) (V : Nat → Value) (b : Nat) (w : World) (HP : Parts 91 93 K S P len X pre) (hS : S + 5 ≤ c) (hmx : c ≤ maxLen) (hbw : b < w.heap.size)
  (hRL : Calls Tryz.prog 91 #[.slice (some ⟨b, o, none⟩) (S + 5) c] w (RdAns (.int .i32 ((S + 5 : Nat) : Int)) b (o + 4) (S + 1) (c - 4) w))
  (hRead : ∀ k, k < K → ∀ W, Below w.heap.size w W → Calls Tryz.prog 92 #[.slice (some ⟨b, o + (4 + P k), none⟩) (S + 1 - P k) (c - (4 + P k))] W fun e w' => e = .returned (.tuple #[.slice (some ⟨b, o + (4 + P k), none⟩) (len k) (c - (4 + P k)), .slice (some ⟨b, o + (4 + P (k + 1)), none⟩) (S + 1 - P (k + 1)) (c - (4 + P (k + 1))), .bool true]) ∧ Below W.heap.size W w')
  (hVal : ∀ k, k < K → ∀ W, Below w.heap.size w W → Calls Tryz.prog 93 #[.slice (some ⟨b, o + (4 + P k), none⟩) (len k) (c - (4 + P k))] W fun e w' => e = .returned (V k) ∧ Below W.heap.size W w')
  (hStr : ∀ k, k < K → ∀ W, Below w.heap.size w W → ∀ n', n' = -1 ∨ (1 ≤ n' ∧ n' ≤ 65535) → Calls Tryz.prog 36 #[V k, .int .i64 n'] W (StrN (X k) n' W))
  (n : Nat) (hn : 1 ≤ n) (hn2 : n ≤ 65535) : Calls Tryz.prog 38 #[.slice (some ⟨b, o, none⟩) (S + 5) c, .int .i64 n] w (StrN (pre K ++ [93]) n w) := by
 have HPP := Lib.hid HP
 have HRL := Lib.hid hRL
 have HRE := Lib.hid hRead
 have HST := Lib.hid hStr
 have hSs := HP.small
 have hP0 := HP.p0
 have d5 : decide ((S : Int) + 5 < 5) = false := decide_eq_false (by omega)
 have hpre0 := HP.pre0
 unfold maxLen at hmx
 have HVA := Lib.hid hVal
 clear hVal
 clear HP hRL hRead hStr
 have g0 : ((n : Int) == 0) = false := beq_eq_false_iff_ne.2 (by omega)
 have g1 : decide ((0 : Int) < n) = true := decide_eq_true (by omega)
 have g1b : decide (0 < n) = true := decide_eq_true (by omega)
 have g2 : decide ((n : Int) ≤ 0) = false := decide_eq_false (by omega)
 have g2b : decide (n ≤ 0) = false := decide_eq_false (by omega)
 go_enter Tryz.func38, Tryz.ntmps38
 go_wp2_with fail
 refine HRL.out.mono ?_
 rintro e w1 ⟨A, rfl, ⟨o', hA1, hA2⟩, hw⟩
 obtain rfl : o' = o + 4 := by omega
 subst hA1
 have HB1 := Lib.hid hw
 clear hw hA2
 have hsz1 := HB1.out.size
 have hBf : Hid (Bld w1.heap.size w1.heap.size [] (w1.alloc (.cells #[.pointer none, .slice none 0 0] 58))) := Bld.fresh w1
 have hBa : Hid (Below w.heap.size w (w1.alloc (.cells #[.pointer none, .slice none 0 0] 58))) := HB1.out.alloc hsz1 _
 go_wp2_with fail
 refine (hBf.out.byte 91 (by decide) (by decide) (by simp) (by simp)).mono ?_
 rintro e w2 ⟨rfl, hb2, hw2⟩
 have HBL2 := Lib.hid hb2
 have HB2 := Lib.hid (hBa.out.trans (hw2.mono hsz1))
 have hs2 := hw2.size
 have hs12 : w1.heap.size ≤ w2.heap.size := by have h := hs2; simp at h; omega
 clear hb2 hw2 hs2
 obtain ⟨BB, hBB⟩ : ∃ B, w1.heap.size = B := ⟨_, rfl⟩
 rw [hBB] at HBL2 hs12 hsz1
 have HBB := Lib.hid hBB
 obtain ⟨T, hT⟩ : ∃ T, pre K ++ [93] = T := ⟨_, rfl⟩
 have HTT := Lib.hid hT
 have hTl : T.length ≤ 100000001 := by rw [← hT, List.length_append, List.length_singleton]; have := HPP.out.le; omega
 rw [hT]
 clear hT
 go_upto_block 0 with fail
 go_cut [10] from 34 to 82 (fun s10 wx => ∃ (tr : Bool) (l : List Int), s10 = .bool tr ∧ Hid (Bld BB BB l wx) ∧ Hid ((tr = false ∧ l = pre K ∧ l.length ≤ n) ∨ (tr = true ∧ l = cutL T n ∧ n < T.length)) ∧ BB ≤ wx.heap.size ∧ Hid (Below w.heap.size w wx))
 case first =>
  go_wp2_with fail
  go_loopg [6, 7, 10, 13] K (fun g s6 s7 s10 s13 wx => ∃ (k : Nat) (f tr : Bool) (l : List Int), k + g = K ∧ s6 = .int .i32 ((S : Int) - P k) ∧ s7 = .slice (some ⟨b, o + (4 + P k), none⟩) (S + 1 - P k) (c - (4 + P k)) ∧ s10 = .bool tr ∧ s13 = .bool f ∧ Hid (decide (k = 0) = f) ∧ Hid (Bld BB BB l wx) ∧ Hid ((tr = false ∧ l = pre k ∧ l.length ≤ n) ∨ (tr = true ∧ l = cutL T n ∧ n < T.length)) ∧ BB ≤ wx.heap.size ∧ Hid (Below w.heap.size w wx))
  case atStart => exact ⟨0, true, false, pre 0, by omega, by rw [hP0]; congr 1; omega, by rw [hP0]; rfl, rfl, rfl, rfl, by show Bld _ _ _ _; rw [hpre0]; exact HBL2.out, .inl ⟨rfl, rfl, by rw [hpre0]; exact hn⟩, hs12, HB2⟩
  case round =>
   obtain ⟨k, f, tr, l, hkg, rfl, rfl, rfl, rfl, HF, HBL, HST2, hsz, HBW⟩ := hrel
   clear HBL2 HB2 hs12
   obtain ⟨hdn1, hdn2⟩ := HPP.out.done (k := k) (by omega)
   cases tr with
   | true =>
    have HO : Hid (l = cutL T n ∧ n < T.length) := by
     rcases HST2.out with ⟨h, _⟩ | ⟨_, h⟩
     ·cases h
     ·exact h
    by_cases hkK : k < K
    ·have d0 : decide ((0 : Int) < (S : Int) - P k) = true := decide_eq_true (by have := hdn1.2 hkK; omega)
     have hx := hdn1.2 hkK
     clear hdn1
     go_wp2_with fail
     go_meet
     exact ⟨true, l, rfl, HBL, .inr ⟨rfl, HO.out⟩, hsz, HBW⟩
    ·have d0 : decide ((0 : Int) < (S : Int) - P k) = false := decide_eq_false (by have := fun h => hkK (hdn1.1 h); omega)
     have hx := fun h => hkK (hdn1.1 h)
     clear hdn1
     go_wp2_with fail
     go_meet
     exact ⟨true, l, rfl, HBL, .inr ⟨rfl, HO.out⟩, hsz, HBW⟩
   | false =>
    obtain ⟨rfl, hln⟩ : l = pre k ∧ l.length ≤ n := by
     rcases HST2.out with ⟨_, h⟩ | ⟨h, _⟩
     ·exact h
     ·cases h
    clear HST2
    cases gk with
    | zero =>
     obtain rfl : k = K := by omega
     have hpk := HPP.out.pK
     have d0 : decide ((0 : Int) < (S : Int) - P k) = false := decide_eq_false (by omega)
     clear hdn1
     have HLN := Lib.hid hln
     clear hln
     go_wp2_with fail
     go_meet
     exact ⟨false, pre k, rfl, HBL, .inl ⟨rfl, rfl, HLN.out⟩, hsz, HBW⟩
    | succ g =>
     have hk : k < K := by omega
     obtain ⟨hq1, hq2, hq3, _⟩ := HPP.out.at hk
     have hdn := hdn1.2 hk
     clear hdn1
     have hps := HPP.out.ps k hk
     have hpo := HPP.out.pos k hk
     have d0 : decide ((0 : Int) < (S : Int) - P k) = true := decide_eq_true (by omega)
     obtain ⟨L, hL⟩ : ∃ L, len k = L := ⟨_, rfl⟩
     obtain ⟨Q, hQ⟩ : ∃ Q, P (k + 1) = Q := ⟨_, rfl⟩
     have HRk := Lib.hid (HRE.out k hk)
     have HSk := Lib.hid (HST.out k hk)
     have HVk := Lib.hid (HVA.out k hk)
     have hprs := HPP.out.pres k hk
     rw [hL] at hq1 hps hpo HRk HVk
     rw [hQ] at hps HRk
     have hQS : Q ≤ S := by omega
     have d1 : decide ((S : Int) - P k - L < 0) = false := decide_eq_false (by omega)
     obtain ⟨p, hp⟩ : ∃ p, (pre k).length = p := ⟨_, rfl⟩
     have HLEN : Hid (∀ W, Bld BB BB (pre k) W → Calls Tryz.prog 29 #[.pointer (some ⟨BB, 0, none⟩)] W fun e w' => e = .returned (.int .i64 p) ∧ w' = W) := fun W h => by rw [← hp]; exact h.len
     rw [hp] at hln hq2
     by_cases hfull : p = n
     ·have HO := HPP.out.cut_full hk (hp.trans hfull)
      rw [HTT.out] at HO
      have HOO := Lib.hid HO
      have e1 : decide ((n : Int) ≤ p) = true := decide_eq_true (by omega)
      have e2 : decide (n ≤ p) = true := decide_eq_true (by omega)
      have HFU := Lib.hid hfull
      clear HO hfull hprs
      go_wp2_with fail
      refine (HLEN.out _ HBL.out).mono ?_
      rintro e w3 ⟨rfl, rfl⟩
      go_wp2_with fail
      go_meet
      exact ⟨true, pre k, rfl, HBL, .inr ⟨rfl, HOO.out.1.symm, HOO.out.2⟩, hsz, HBW⟩
     ·have e1 : decide ((n : Int) ≤ p) = false := decide_eq_false (by omega)
      have e2 : decide (n ≤ p) = false := decide_eq_false (by omega)
      obtain ⟨sp, hsp⟩ : ∃ l : List Int, (if f = true then [] else [44]) = l := ⟨_, rfl⟩
      have hsl : sp.length ≤ 1 := by rw [← hsp]; split <;> simp
      have hspk : (if k = 0 then [] else [44]) = sp := by rw [← hsp, ← HF.out]; simp
      have hpx : pre (k + 1) = pre k ++ sp ++ X k := by rw [hprs, hspk]
      have HSPK := Lib.hid hspk
      obtain ⟨N1, hN1⟩ : ∃ N1 : Nat, n - p = N1 := ⟨_, rfl⟩
      have hN2 : (n : Int) - p = (N1 : Int) := by omega
      have hN1p : 1 ≤ N1 ∧ N1 ≤ 65535 := by omega
      have HNN : Hid (p + N1 = n) := by show _ = _; omega
      have g3 : decide ((0 : Int) < N1) = true := decide_eq_true (by omega)
      have g3b : decide (0 < N1) = true := decide_eq_true (by omega)
      clear hprs hspk hfull hN1
      go_upto_region 16 with fail
      go_upto_if 41 with fail
      go_cut [14] from 34 to 82 (fun s14 wx => s14 = .int .i64 N1 ∧ wr = wx)
      case first =>
       go_wp2_with fail
       refine (HLEN.out _ HBL.out).mono ?_
       rintro e w3 ⟨rfl, rfl⟩
       go_wp2_with fail
       refine (HLEN.out _ HBL.out).mono ?_
       rintro e w4 ⟨rfl, rfl⟩
       go_wp2_with fail
       go_meet
       exact ⟨rfl, rfl⟩
      obtain ⟨rfl, rfl⟩ := hcut
      clear hN2
      go_upto_if 49 with fail
      go_cut [14] from 34 to 82 (fun s14 wx => ∃ M : Nat, s14 = .int .i64 M ∧ 1 ≤ M ∧ Hid ((pre k ++ sp).length + M = n) ∧ Hid (Bld BB BB (pre k ++ sp) wx) ∧ BB ≤ wx.heap.size ∧ Hid (Below w.heap.size w wx))
      case first =>
       cases f with
       | true =>
        rw [if_pos rfl] at hsp
        subst hsp
        go_wp2_with fail
        go_meet
        exact ⟨N1, rfl, hN1p.1, by show _ = _; rw [List.append_nil, hp]; exact HNN.out, by rw [List.append_nil]; exact HBL, hsz, HBW⟩
       | false =>
        rw [if_neg (by decide)] at hsp
        subst hsp
        go_wp2_with fail
        refine (HBL.out.byte 44 (by decide) (by decide) (by omega) hsz).mono ?_
        rintro e w3 ⟨rfl, hb3, hw3⟩
        have HBL3 := Lib.hid hb3
        have HBW3 := Lib.hid (HBW.out.trans (hw3.mono hsz1))
        have hsz3 := Nat.le_trans hsz hw3.size
        clear hb3 hw3
        by_cases hone : N1 = 1
        ·have e3 : ((N1 : Int) - 1 == 0) = true := beq_iff_eq.2 (by omega)
         have HO := HPP.out.cut_comma hk (fun h => by have := HF.out; rw [h] at this; simp at this) (n := n) (by rw [hp]; have := HNN.out; omega)
         rw [HTT.out] at HO
         have HOO := Lib.hid HO
         have HON := Lib.hid hone
         clear HO hone
         go_wp2_with fail
         go_meet
         exact ⟨true, _, rfl, HBL3, .inr ⟨rfl, HOO.out.1.symm, HOO.out.2⟩, hsz3, HBW3⟩
        ·have e3 : ((N1 : Int) - 1 == 0) = false := beq_eq_false_iff_ne.2 (by omega)
         have HON := Lib.hid hone
         clear hone
         go_wp2_with fail
         go_meet
         exact ⟨N1 - 1, by congr 1; omega, by have := HON.out; omega, by show _ = _; rw [List.length_append, List.length_singleton, hp]; have := HNN.out; omega, HBL3, hsz3, HBW3⟩
      obtain ⟨M, rfl, hM1, HMM, HBL4, hsz4, HBW4⟩ := hcut
      clear HBL HBW hsz hsp HLEN HNN g3 g3b e1 e2 hN1p
      have hM65 : M ≤ 65535 := by have := HMM.out; omega
      go_wp2_with fail
      refine (HRk.out _ HBW4.out).mono ?_
      rintro e w5 ⟨rfl, hw5⟩
      have HBL5 := Lib.hid (HBL4.out.old hw5)
      have HBW5 := Lib.hid (HBW4.out.trans (hw5.mono HBW4.out.size))
      have hsz5 := Nat.le_trans hsz4 hw5.size
      clear hw5 HBL4 HBW4
      go_wp2_with fail
      refine (HVk.out _ HBW5.out).mono ?_
      rintro e wv ⟨rfl, hwv⟩
      replace HBL5 := Lib.hid (HBL5.out.old hwv)
      replace hsz5 := Nat.le_trans hsz5 hwv.size
      replace HBW5 := Lib.hid (HBW5.out.trans (hwv.mono HBW5.out.size))
      clear hwv
      obtain ⟨Y, tq, hY⟩ : ∃ (Y : List Int) (tq : Bool), (if (M : Int) < 0 then X k else cutL (X k) ((M : Int)).toNat) = Y ∧ decide (0 ≤ (M : Int) ∧ (M : Int) < ((X k).length : Int)) = tq ∧ Y.length ≤ 100000000 ∧ ((tq = false ∧ pre k ++ sp ++ Y = pre (k + 1) ∧ (pre k ++ sp ++ Y).length ≤ n) ∨ (tq = true ∧ pre k ++ sp ++ Y = cutL T n ∧ n < T.length)) := by
       refine ⟨_, _, rfl, rfl, ?_⟩
       rw [if_neg (by omega), Int.toNat_natCast]
       by_cases hMX : M < (X k).length
       ·have HO := HPP.out.cut_in hk HSPK.out HMM.out hMX
        rw [HTT.out] at HO
        refine ⟨by have := cutL_length (X k) M; omega, .inr ⟨decide_eq_true ⟨by omega, by omega⟩, HO.1.symm, HO.2⟩⟩
       ·have hall := cutL_all (l := X k) (n := M) (by omega)
        rw [hall]
        refine ⟨hq3, .inl ⟨decide_eq_false (by omega), hpx.symm, ?_⟩⟩
        have := HMM.out
        rw [List.length_append]
        omega
      obtain ⟨hY1, hY2, hY3, hY4⟩ := hY
      have HY4 := Lib.hid hY4
      have HSM := Lib.hid (HSk.out _ HBW5.out M (.inr ⟨by omega, by omega⟩))
      unfold StrN at HSM
      rw [hY1, hY2] at HSM
      clear hY1 hY2 hY4
      go_wp2_with fail
      refine HSM.out.mono ?_
      rintro e w6 ⟨u, rfl, hu, hw6⟩
      have HU : Hid (StrIs u Y) := hu
      have HBL6 := Lib.hid (HBL5.out.old hw6)
      have HBW6 := Lib.hid (HBW5.out.trans (hw6.mono HBW5.out.size))
      have hsz6 := Nat.le_trans hsz5 hw6.size
      clear hw6 hu HBL5 HBW5 HSM
      go_wp2_with fail
      refine (HBL6.out.str HU.out (by rw [List.length_append]; omega) hsz6).mono ?_
      rintro e w7 ⟨rfl, hb7, hw7⟩
      have HBL7 := Lib.hid hb7
      have HBW7 := Lib.hid (HBW6.out.trans (hw7.mono hsz1))
      have hsz7 := Nat.le_trans hsz6 hw7.size
      clear hb7 hw7
      go_wp2_with fail
      go_roundg g
      case measure => omega
      case rel => exact ⟨k + 1, false, tq, _, by omega, by rw [hQ, hps]; congr 1 <;> omega, by rw [hQ, hps], rfl, rfl, by show decide _ = _; exact decide_eq_false (by omega), HBL7, HY4, hsz7, HBW7⟩
 obtain ⟨tr, l, rfl, HBL, HO, hsz, HBW⟩ := hcut
 have hKl := HPP.out.le
 obtain ⟨p, hp⟩ : ∃ p, l.length = p := ⟨_, rfl⟩
 have HLEN : Hid (∀ W, Bld BB BB l W → Calls Tryz.prog 29 #[.pointer (some ⟨BB, 0, none⟩)] W fun e w' => e = .returned (.int .i64 p) ∧ w' = W) := fun W h => by rw [← hp]; exact h.len
 cases tr with
 | true =>
  have HOO : Hid (l = cutL T n ∧ n < T.length) := by
   rcases HO.out with ⟨h, _⟩ | ⟨_, h⟩
   ·cases h
   ·exact h
  clear HO hp
  go_upto_region 33 with fail
  go_cut [93] from 83 to 93 (fun s92 wx => s92 = .bool false ∧ wc = wx)
  case first =>
   by_cases hpn : p < n
   ·have e1 : decide (p < n) = true := decide_eq_true hpn
    go_wp2_with fail
    refine (HLEN.out _ HBL.out).mono ?_
    rintro e w3 ⟨rfl, rfl⟩
    go_wp2_with fail
    go_meet
    exact ⟨rfl, rfl⟩
   ·have e1 : decide (p < n) = false := decide_eq_false hpn
    go_wp2_with fail
    refine (HLEN.out _ HBL.out).mono ?_
    rintro e w3 ⟨rfl, rfl⟩
    go_wp2_with fail
    go_meet
    exact ⟨rfl, rfl⟩
  obtain ⟨rfl, rfl⟩ := hcut
  go_wp2_with fail
  refine (HBL.out.string hsz).mono ?_
  rintro e w4 ⟨rfl, hw4⟩
  have HBW4 := Lib.hid (HBW.out.trans (hw4.mono hsz1))
  clear hw4
  go_wp2_with fail
  go_ret2
  refine ⟨strOfNums l, ?_, ?_, HBW4.out⟩
  ·rw [HTT.out, decide_eq_true ⟨by omega, by have := HOO.out.2; omega⟩]; rfl
  ·rw [HTT.out, if_neg (by omega), Int.toNat_natCast, ← HOO.out.1]; exact .of _
 | false =>
  obtain ⟨rfl, hln⟩ : l = pre K ∧ l.length ≤ n := by
   rcases HO.out with ⟨_, h⟩ | ⟨h, _⟩
   ·exact h
   ·cases h
  rw [hp] at hln hKl
  clear HO
  by_cases hpn : p < n
  ·have e1 : decide (p < n) = true := decide_eq_true hpn
   have HPN := Lib.hid hpn
   have HPE := Lib.hid hp
   clear hp
   go_wp2_with fail
   refine (HLEN.out _ HBL.out).mono ?_
   rintro e w3 ⟨rfl, rfl⟩
   go_wp2_with fail
   refine (HBL.out.byte 93 (by decide) (by decide) (by rw [HPE.out]; omega) hsz).mono ?_
   rintro e w5 ⟨rfl, hb5, hw5⟩
   have HBL5 := Lib.hid hb5
   have HBW5 := Lib.hid (HBW.out.trans (hw5.mono hsz1))
   have hsz5 := Nat.le_trans hsz hw5.size
   clear hb5 hw5
   go_wp2_with fail
   refine (HBL5.out.string hsz5).mono ?_
   rintro e w4 ⟨rfl, hw4⟩
   have HBW4 := Lib.hid (HBW5.out.trans (hw4.mono hsz1))
   clear hw4
   go_wp2_with fail
   go_ret2
   have hTn : T.length ≤ n := by
    rw [← HTT.out, List.length_append, List.length_singleton, HPE.out]
    exact HPN.out
   refine ⟨strOfNums T, ?_, ?_, HBW4.out⟩
   ·rw [HTT.out, decide_eq_false (fun h => by have := h.2; omega)]; rfl
   ·rw [HTT.out, if_neg (by omega), Int.toNat_natCast, cutL_all hTn]; exact .of _
  ·have e1 : decide (p < n) = false := decide_eq_false hpn
   have HO := HPP.out.cut_end (n := n) (by rw [hp]; omega)
   rw [HTT.out] at HO
   have HOO := Lib.hid HO
   clear HO hp hpn
   go_wp2_with fail
   refine (HLEN.out _ HBL.out).mono ?_
   rintro e w3 ⟨rfl, rfl⟩
   go_wp2_with fail
   refine (HBL.out.string hsz).mono ?_
   rintro e w4 ⟨rfl, hw4⟩
   have HBW4 := Lib.hid (HBW.out.trans (hw4.mono hsz1))
   clear hw4
   go_wp2_with fail
   go_ret2
   refine ⟨strOfNums (pre K), ?_, ?_, HBW4.out⟩
   ·rw [HTT.out, decide_eq_true ⟨by omega, by have := HOO.out.2; omega⟩]; rfl
   ·rw [HTT.out, if_neg (by omega), Int.toNat_natCast, HOO.out.1]; exact .of _
end Go.Proofs.YtkeakdjbidbegaaGreatDoor
