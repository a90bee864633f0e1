/- A part of the proof that laws.FnTextElement returns true at every input: Dec, Dec2, Dig, Dec3, Dec4, DecText, Flt, Bare, Srtx, Tree. -/
import Derived.Test.YtkeakdjbidbegaaGreatDoorA
import Derived.LoopN
import Derived.Laws.Closers25b
import Derived.Laws.Externs
import Derived.BigQuiet
import Derived.Test.YtkeakdjbidbegaaGreatDoorB
set_option linter.unusedSimpArgs false
set_option linter.unusedVariables false
set_option maxRecDepth 100000
set_option maxHeartbeats 8000000
namespace Go.Proofs.YtkeakdjbidbegaaGreatDoor
open Go.RowKit
open Go.Proofs.YtkeakdjbidbegaaGreatDoorW.PrintWords
theorem wraps_u64 (n : Int) (h₀ : 0 ≤ n) (h₁ : n < 2 ^ 64) : IntKind.u64.wrap n = n := by
 have : IntKind.u64.wrap n = n % 18446744073709551616 := by simp [IntKind.wrap, IntKind.bits, IntKind.signed]
 rw [this]; omega
theorem or32 (x y : Int) (h0 : 0 ≤ x) (h1 : x < 4294967296) (hy : 0 ≤ y) (hy1 : y < 4294967296) : bits .or .u64 (x * 4294967296) y = x * 4294967296 + y :=
 bits_join .u64 64 (by decide) wraps_u64 32 (x * 4294967296) y (by omega) (by omega) (by omega) hy (by omega) (by omega)
theorem decTenth_calls (hi lo : Int) (h0 : 0 ≤ hi) (h1 : hi < 18446744073709551616) (l0 : 0 ≤ lo) (l1 : lo < 18446744073709551616) (w : World) :
  Calls Tryz.prog 146 #[.int .u64 hi, .int .u64 lo] w fun e w' => ∃ h l d : Int, e = .returned (.tuple #[.int .u64 h, .int .u64 l, .int .u8 d]) ∧
   0 ≤ h ∧ h ≤ hi ∧ 0 ≤ l ∧ l < 18446744073709551616 ∧ 0 ≤ d ∧ d < 10 ∧ hi * 18446744073709551616 + lo = 10 * (h * 18446744073709551616 + l) + d ∧ Below w.heap.size w w' := by
 have e1 := bits_mask .u64 64 (by decide) wraps_u64 32 (by decide) hi h0 (by omega)
 have e3 := bits_mask .u64 64 (by decide) wraps_u64 32 (by decide) lo l0 (by omega)
 have o0 := or32 0 (hi / 4294967296) (by omega) (by omega) (by omega) (by omega)
 simp only [Int.zero_mul, Int.zero_add] at o0
 have e1' : bits .and .u64 hi 4294967295 = hi % 4294967296 := e1
 have e3' : bits .and .u64 lo 4294967295 = lo % 4294967296 := e3
 clear e1 e3
 obtain ⟨L0, g0⟩ : ∃ x, hi / 4294967296 = x := ⟨_, rfl⟩
 obtain ⟨L1, g1⟩ : ∃ x, hi % 4294967296 = x := ⟨_, rfl⟩
 obtain ⟨L2, g2⟩ : ∃ x, lo / 4294967296 = x := ⟨_, rfl⟩
 obtain ⟨L3, g3⟩ : ∃ x, lo % 4294967296 = x := ⟨_, rfl⟩
 rw [g1] at e1'
 rw [g3] at e3'
 rw [g0] at o0
 have b0 : 0 ≤ L0 ∧ L0 < 4294967296 := by omega
 have b1 : 0 ≤ L1 ∧ L1 < 4294967296 := by omega
 have b2 : 0 ≤ L2 ∧ L2 < 4294967296 := by omega
 have b3 : 0 ≤ L3 ∧ L3 < 4294967296 := by omega
 have o1 := or32 (L0 % 10) L1 (by omega) (by omega) (by omega) (by omega)
 obtain ⟨N1, k1⟩ : ∃ x, L0 % 10 * 4294967296 + L1 = x := ⟨_, rfl⟩
 rw [k1] at o1
 have c1 : 0 ≤ N1 ∧ N1 < 42949672960 := by omega
 have o2 := or32 (N1 % 10) L2 (by omega) (by omega) (by omega) (by omega)
 obtain ⟨N2, k2⟩ : ∃ x, N1 % 10 * 4294967296 + L2 = x := ⟨_, rfl⟩
 rw [k2] at o2
 have c2 : 0 ≤ N2 ∧ N2 < 42949672960 := by omega
 have o3 := or32 (N2 % 10) L3 (by omega) (by omega) (by omega) (by omega)
 obtain ⟨N3, k3⟩ : ∃ x, N2 % 10 * 4294967296 + L3 = x := ⟨_, rfl⟩
 rw [k3] at o3
 have c3 : 0 ≤ N3 ∧ N3 < 42949672960 := by omega
 have p1 := or32 (L0 / 10) (N1 / 10) (by omega) (by omega) (by omega) (by omega)
 have p2 := or32 (N2 / 10) (N3 / 10) (by omega) (by omega) (by omega) (by omega)
 have fin : Hid (hi * 18446744073709551616 + lo = 10 * ((L0 / 10 * 4294967296 + N1 / 10) * 18446744073709551616 + (N2 / 10 * 4294967296 + N3 / 10)) + N3 % 10 ∧ L0 / 10 * 4294967296 + N1 / 10 ≤ hi) := by
  show _ ∧ _
  omega
 have G1 := Lib.hid g1
 have G3 := Lib.hid g3
 have K := Lib.hid (And.intro k1 (And.intro k2 k3))
 clear g1 g3 k1 k2 k3
 go_enter Tryz.func146, Tryz.ntmps146
 go_wp2
 refine wp_loop_rounds 5 ?_
 rw [rounds_succ]
 go_wp2
 rw [rounds_succ]
 go_wp2
 rw [rounds_succ]
 go_wp2
 rw [rounds_succ]
 go_wp2
 rw [rounds_succ]
 go_wp2
 have v1 : IntKind.u8.wrap (N3 % 10) = N3 % 10 := by rw [IntKind.wrap_u8]; omega
 go_region
 all_goals go_wp2
 all_goals go_ret3
 all_goals exact ⟨_, _, _, rfl, by omega, fin.out.2, by omega, by omega, by omega, by omega, fin.out.1, ((Below.refl _ _).alloc (Nat.le_refl _) _).drew⟩
def digs0 (n : Nat) : List Int := if h : n = 0 then [] else digs0 (n / 10) ++ [(48 + (n % 10 : Nat) : Int)]
termination_by n
decreasing_by omega
def digs (n : Nat) : List Int := if n = 0 then [48] else digs0 n
theorem digs0_zero : digs0 0 = [] := by rw [digs0]; simp
theorem digs0_pos {n : Nat} (h : n ≠ 0) : digs0 n = digs0 (n / 10) ++ [(48 + (n % 10 : Nat) : Int)] := by rw [digs0]; simp [h]
theorem digs0_length (k : Nat) : ∀ n : Nat, n < 10 ^ k → (digs0 n).length ≤ k := by
  induction k with
  | zero => intro n hn; have : n = 0 := by simpa using hn
            subst this; simp [digs0_zero]
  | succ k ih =>
    intro n hn
    by_cases h : n = 0
    · subst h; simp [digs0_zero]
    · rw [digs0_pos h, List.length_append]
      have := ih (n / 10) (by rw [Nat.pow_succ] at hn; omega)
      simp; omega
theorem digs_length {k n : Nat} (hk : 1 ≤ k) (hn : n < 10 ^ k) : (digs n).length ≤ k := by
 unfold digs
 split
 ·simpa using hk
 ·exact digs0_length k n hn
theorem decDigits_calls (hi lo : Int) (h0 : 0 ≤ hi) (h1 : hi < 18446744073709551616) (l0 : 0 ≤ lo) (l1 : lo < 18446744073709551616) (w : World) :
  Calls Tryz.prog 106 #[.int .u64 hi, .int .u64 lo] w fun e w' => ∃ u, e = .returned (.string u) ∧ StrIs u (digs (hi * 18446744073709551616 + lo).toNat) ∧ Below w.heap.size w w' := by
 by_cases hz : hi = 0 ∧ lo = 0
 ·obtain ⟨rfl, rfl⟩ := hz
  go_enter Tryz.func106, Tryz.ntmps106
  go_wp2
  go_ret
  exact ⟨_, rfl, ⟨rfl⟩, Below.refl _ _⟩
 ·obtain ⟨X, hX⟩ : ∃ X : Nat, X = (hi * 18446744073709551616 + lo).toNat := ⟨_, rfl⟩
  have hXd : Hid (digs X = digs0 X) := by show _ = _; unfold digs; rw [if_neg (by omega)]
  have hXl : Hid ((digs0 X).length ≤ 40) := digs0_length 40 X (by omega)
  rw [← hX]
  by_cases hi0 : hi = 0
  ·subst hi0
   have hb0 : (lo == 0) = false := by simp; omega
   go_enter Tryz.func106, Tryz.ntmps106
   go_wp2
   go_loopw [0, 1, 5] (fun h l o wr => ∃ (H L : Int) (ds : List Int), h = .int .u64 H ∧ l = .int .u64 L ∧ 0 ≤ H ∧ H < 18446744073709551616 ∧ 0 ≤ L ∧ L < 18446744073709551616 ∧ Own wr w.heap.size o ds ∧ Hid (digs0 (H * 18446744073709551616 + L).toNat ++ ds = digs0 X) ∧ Below w.heap.size w wr) (fun h l _ _ => (intOf h * 18446744073709551616 + intOf l).toNat)
   case atStart => exact ⟨_, _, [], rfl, rfl, by omega, by omega, by omega, by omega, own_nil _ _ _ _, by show digs0 _ ++ [] = digs0 X; rw [List.append_nil, hX], Below.refl _ _⟩
   case round =>
    obtain ⟨H, L, ds, rfl, rfl, b0, b1, b2, b3, hO, hD, hb⟩ := hrel
    obtain ⟨A, c, rfl, hR⟩ := hO.slice
    have hlen : ds.length ≤ 40 := by
     have h1 := hXl.out
     rw [← hD.out, List.length_append] at h1
     omega
    have HO := Lib.hid hO
    have HRd := Lib.hid hR
    have hB := Lib.hid hb
    clear hO hR hb
    by_cases hz : H = 0 ∧ L = 0
    ·obtain ⟨rfl, rfl⟩ := hz
     have ho := own_str HO.out
     go_wp2
     go_ret
     exact ⟨_, rfl, ⟨by rw [hXd.out, ← hD.out]; simp [digs0_zero]⟩, hB.out⟩
    ·by_cases hH : H = 0
     ·subst hH
      have hXX : 0 * 18446744073709551616 + L ≠ 0 := by omega
      have hb1 : ((0 : Int) != 0) = false := rfl
      have hb2 : (L != 0) = true := by simp; omega
      have HX := Lib.hid hXX
      clear hXX
      go_wp2_with fail
      refine (decTenth_calls _ _ (by omega) (by omega) (by omega) (by omega) _).mono ?_
      rintro e w1 ⟨h', l', d, rfl, d0, d1, d2, d3, d4, d5, d6, hb1⟩
      have v1 : IntKind.u8.wrap (48 + d) = 48 + d := by rw [IntKind.wrap_u8]; omega
      have hfin : Hid (digs0 (h' * 18446744073709551616 + l').toNat ++ (48 + d) :: ds = digs0 X) := by
       show _ = _
       rw [← hD.out, digs0_pos (n := (0 * 18446744073709551616 + L).toNat) (by have := HX.out; omega), List.append_assoc]
       congr 1
       ·congr 1; omega
       ·rw [show ((0 * 18446744073709551616 + L).toNat % 10 : Nat) = d.toNat by omega]
        simp; omega
      have hms : Hid ((h' * 18446744073709551616 + l').toNat < (0 * 18446744073709551616 + L).toNat) := by show _ < _; have := HX.out; omega
      clear d6
      have HO1 := Lib.hid (pw_own_below HO.out (hb1.mono (Nat.le_refl _)))
      have HB1 := Lib.hid (hB.out.trans (hb1.mono hB.out.size))
      have HR1 := Lib.hid ((HRd.out.below hb1).below ((Below.refl _ _).alloc (Nat.le_refl _) (.cells (nums .u8 [48 + d]).toArray 5)))
      clear hb1
      go_wp2_with (at_builtin; refine append_row (w0 := w) w.heap.size rfl (.tmp 28) (.tmp 29) rfl _ [48 + d] ds A _ c rfl rfl (own_lit _ _ _ _ _ (by exact HB1.out.size) (by simp)) HR1.out (HB1.out.alloc (by exact HB1.out.size) _) (by simp; have := HB1.out.size; omega) (by simp; omega) ?_; intro v1 w2 n0 n1 _ _; have HO2 := Lib.hid n0; have HB2 := Lib.hid n1; clear n0 n1)
      go_roundw
      case rel => exact ⟨_, _, _, rfl, rfl, by omega, by omega, by omega, by omega, HO2.out, hfin, HB2.out⟩
      case measure => simp only [intOf]; exact hms.out
     ·have hXX : H * 18446744073709551616 + L ≠ 0 := by omega
      have hb1 : (H != 0) = true := by simp; omega
      have HX := Lib.hid hXX
      clear hXX
      go_wp2_with fail
      refine (decTenth_calls _ _ (by omega) (by omega) (by omega) (by omega) _).mono ?_
      rintro e w1 ⟨h', l', d, rfl, d0, d1, d2, d3, d4, d5, d6, hb1⟩
      have v1 : IntKind.u8.wrap (48 + d) = 48 + d := by rw [IntKind.wrap_u8]; omega
      have hfin : Hid (digs0 (h' * 18446744073709551616 + l').toNat ++ (48 + d) :: ds = digs0 X) := by
       show _ = _
       rw [← hD.out, digs0_pos (n := (H * 18446744073709551616 + L).toNat) (by have := HX.out; omega), List.append_assoc]
       congr 1
       ·congr 1; omega
       ·rw [show ((H * 18446744073709551616 + L).toNat % 10 : Nat) = d.toNat by omega]
        simp; omega
      have hms : Hid ((h' * 18446744073709551616 + l').toNat < (H * 18446744073709551616 + L).toNat) := by show _ < _; have := HX.out; omega
      clear d6
      have HO1 := Lib.hid (pw_own_below HO.out (hb1.mono (Nat.le_refl _)))
      have HB1 := Lib.hid (hB.out.trans (hb1.mono hB.out.size))
      have HR1 := Lib.hid ((HRd.out.below hb1).below ((Below.refl _ _).alloc (Nat.le_refl _) (.cells (nums .u8 [48 + d]).toArray 5)))
      clear hb1
      go_wp2_with (at_builtin; refine append_row (w0 := w) w.heap.size rfl (.tmp 28) (.tmp 29) rfl _ [48 + d] ds A _ c rfl rfl (own_lit _ _ _ _ _ (by exact HB1.out.size) (by simp)) HR1.out (HB1.out.alloc (by exact HB1.out.size) _) (by simp; have := HB1.out.size; omega) (by simp; omega) ?_; intro v1 w2 n0 n1 _ _; have HO2 := Lib.hid n0; have HB2 := Lib.hid n1; clear n0 n1)
      go_roundw
      case rel => exact ⟨_, _, _, rfl, rfl, by omega, by omega, by omega, by omega, HO2.out, hfin, HB2.out⟩
      case measure => simp only [intOf]; exact hms.out
  ·have hb0 : (hi == 0) = false := by simp; omega
   go_enter Tryz.func106, Tryz.ntmps106
   go_wp2
   go_loopw [0, 1, 5] (fun h l o wr => ∃ (H L : Int) (ds : List Int), h = .int .u64 H ∧ l = .int .u64 L ∧ 0 ≤ H ∧ H < 18446744073709551616 ∧ 0 ≤ L ∧ L < 18446744073709551616 ∧ Own wr w.heap.size o ds ∧ Hid (digs0 (H * 18446744073709551616 + L).toNat ++ ds = digs0 X) ∧ Below w.heap.size w wr) (fun h l _ _ => (intOf h * 18446744073709551616 + intOf l).toNat)
   case atStart => exact ⟨_, _, [], rfl, rfl, by omega, by omega, by omega, by omega, own_nil _ _ _ _, by show digs0 _ ++ [] = digs0 X; rw [List.append_nil, hX], Below.refl _ _⟩
   case round =>
    obtain ⟨H, L, ds, rfl, rfl, b0, b1, b2, b3, hO, hD, hb⟩ := hrel
    obtain ⟨A, c, rfl, hR⟩ := hO.slice
    have hlen : ds.length ≤ 40 := by
     have h1 := hXl.out
     rw [← hD.out, List.length_append] at h1
     omega
    have HO := Lib.hid hO
    have HRd := Lib.hid hR
    have hB := Lib.hid hb
    clear hO hR hb
    by_cases hz : H = 0 ∧ L = 0
    ·obtain ⟨rfl, rfl⟩ := hz
     have ho := own_str HO.out
     go_wp2
     go_ret
     exact ⟨_, rfl, ⟨by rw [hXd.out, ← hD.out]; simp [digs0_zero]⟩, hB.out⟩
    ·by_cases hH : H = 0
     ·subst hH
      have hXX : 0 * 18446744073709551616 + L ≠ 0 := by omega
      have hb1 : ((0 : Int) != 0) = false := rfl
      have hb2 : (L != 0) = true := by simp; omega
      have HX := Lib.hid hXX
      clear hXX
      go_wp2_with fail
      refine (decTenth_calls _ _ (by omega) (by omega) (by omega) (by omega) _).mono ?_
      rintro e w1 ⟨h', l', d, rfl, d0, d1, d2, d3, d4, d5, d6, hb1⟩
      have v1 : IntKind.u8.wrap (48 + d) = 48 + d := by rw [IntKind.wrap_u8]; omega
      have hfin : Hid (digs0 (h' * 18446744073709551616 + l').toNat ++ (48 + d) :: ds = digs0 X) := by
       show _ = _
       rw [← hD.out, digs0_pos (n := (0 * 18446744073709551616 + L).toNat) (by have := HX.out; omega), List.append_assoc]
       congr 1
       ·congr 1; omega
       ·rw [show ((0 * 18446744073709551616 + L).toNat % 10 : Nat) = d.toNat by omega]
        simp; omega
      have hms : Hid ((h' * 18446744073709551616 + l').toNat < (0 * 18446744073709551616 + L).toNat) := by show _ < _; have := HX.out; omega
      clear d6
      have HO1 := Lib.hid (pw_own_below HO.out (hb1.mono (Nat.le_refl _)))
      have HB1 := Lib.hid (hB.out.trans (hb1.mono hB.out.size))
      have HR1 := Lib.hid ((HRd.out.below hb1).below ((Below.refl _ _).alloc (Nat.le_refl _) (.cells (nums .u8 [48 + d]).toArray 5)))
      clear hb1
      go_wp2_with (at_builtin; refine append_row (w0 := w) w.heap.size rfl (.tmp 28) (.tmp 29) rfl _ [48 + d] ds A _ c rfl rfl (own_lit _ _ _ _ _ (by exact HB1.out.size) (by simp)) HR1.out (HB1.out.alloc (by exact HB1.out.size) _) (by simp; have := HB1.out.size; omega) (by simp; omega) ?_; intro v1 w2 n0 n1 _ _; have HO2 := Lib.hid n0; have HB2 := Lib.hid n1; clear n0 n1)
      go_roundw
      case rel => exact ⟨_, _, _, rfl, rfl, by omega, by omega, by omega, by omega, HO2.out, hfin, HB2.out⟩
      case measure => simp only [intOf]; exact hms.out
     ·have hXX : H * 18446744073709551616 + L ≠ 0 := by omega
      have hb1 : (H != 0) = true := by simp; omega
      have HX := Lib.hid hXX
      clear hXX
      go_wp2_with fail
      refine (decTenth_calls _ _ (by omega) (by omega) (by omega) (by omega) _).mono ?_
      rintro e w1 ⟨h', l', d, rfl, d0, d1, d2, d3, d4, d5, d6, hb1⟩
      have v1 : IntKind.u8.wrap (48 + d) = 48 + d := by rw [IntKind.wrap_u8]; omega
      have hfin : Hid (digs0 (h' * 18446744073709551616 + l').toNat ++ (48 + d) :: ds = digs0 X) := by
       show _ = _
       rw [← hD.out, digs0_pos (n := (H * 18446744073709551616 + L).toNat) (by have := HX.out; omega), List.append_assoc]
       congr 1
       ·congr 1; omega
       ·rw [show ((H * 18446744073709551616 + L).toNat % 10 : Nat) = d.toNat by omega]
        simp; omega
      have hms : Hid ((h' * 18446744073709551616 + l').toNat < (H * 18446744073709551616 + L).toNat) := by show _ < _; have := HX.out; omega
      clear d6
      have HO1 := Lib.hid (pw_own_below HO.out (hb1.mono (Nat.le_refl _)))
      have HB1 := Lib.hid (hB.out.trans (hb1.mono hB.out.size))
      have HR1 := Lib.hid ((HRd.out.below hb1).below ((Below.refl _ _).alloc (Nat.le_refl _) (.cells (nums .u8 [48 + d]).toArray 5)))
      clear hb1
      go_wp2_with (at_builtin; refine append_row (w0 := w) w.heap.size rfl (.tmp 28) (.tmp 29) rfl _ [48 + d] ds A _ c rfl rfl (own_lit _ _ _ _ _ (by exact HB1.out.size) (by simp)) HR1.out (HB1.out.alloc (by exact HB1.out.size) _) (by simp; have := HB1.out.size; omega) (by simp; omega) ?_; intro v1 w2 n0 n1 _ _; have HO2 := Lib.hid n0; have HB2 := Lib.hid n1; clear n0 n1)
      go_roundw
      case rel => exact ⟨_, _, _, rfl, rfl, by omega, by omega, by omega, by omega, HO2.out, hfin, HB2.out⟩
      case measure => simp only [intOf]; exact hms.out
theorem mask_u64 (i : Nat) (hi : i ≤ 64) (x : Int) (h0 : 0 ≤ x) (h1 : x < 18446744073709551616) : bits .and .u64 x (2 ^ i - 1) = x % 2 ^ i :=
 bits_mask .u64 64 (by decide) wraps_u64 i hi x h0 (by omega)
def decKind (hi : Int) : Int := if hi / 288230376151711744 % 32 = 30 then 1 else if hi / 288230376151711744 % 32 = 31 then 2 else 0
def decNeg (hi : Int) : Bool := hi / 9223372036854775808 == 1
def decDig (hi lo : Int) : List Int :=
 if decKind hi ≠ 0 then [] else if hi / 2305843009213693952 % 4 = 3 then [48] else digs (hi % 562949953421312 * 18446744073709551616 + lo).toNat
def decExp (hi : Int) : Int :=
 if decKind hi ≠ 0 then 0 else if hi / 2305843009213693952 % 4 = 3 then hi / 140737488355328 % 16384 + -6176 else hi / 562949953421312 % 16384 + -6176
theorem DecOf_calls (hi lo : Int) (h0 : 0 ≤ hi) (h1 : hi < 18446744073709551616) (l0 : 0 ≤ lo) (l1 : lo < 18446744073709551616) (w : World) :
  Calls Tryz.prog 59 #[.int .u64 hi, .int .u64 lo] w fun e w' => ∃ u, e = .returned (.agg #[.int .i64 (decKind hi), .bool (decNeg hi), .string u, .int .i64 (decExp hi)]) ∧ StrIs u (decDig hi lo) ∧ Below w.heap.size w w' := by
 have e1 : bits .and .u64 (hi / 288230376151711744) 31 = hi / 288230376151711744 % 32 := mask_u64 5 (by decide) _ (by omega) (by omega)
 have e2 : bits .and .u64 (hi / 2305843009213693952) 3 = hi / 2305843009213693952 % 4 := mask_u64 2 (by decide) _ (by omega) (by omega)
 have e3 : bits .and .u64 (hi / 140737488355328) 16383 = hi / 140737488355328 % 16384 := mask_u64 14 (by decide) _ (by omega) (by omega)
 have e4 : bits .and .u64 (hi / 562949953421312) 16383 = hi / 562949953421312 % 16384 := mask_u64 14 (by decide) _ (by omega) (by omega)
 have e5 : bits .and .u64 hi 562949953421311 = hi % 562949953421312 := mask_u64 49 (by decide) _ (by omega) (by omega)
 have b3 : 0 ≤ hi / 140737488355328 % 16384 ∧ hi / 140737488355328 % 16384 < 16384 := by omega
 have b4 : 0 ≤ hi / 562949953421312 % 16384 ∧ hi / 562949953421312 % 16384 < 16384 := by omega
 by_cases k1 : hi / 288230376151711744 % 32 = 30
 ·have c1 : (hi / 288230376151711744 % 32 == 30) = true := by simp [k1]
  have hk : Hid (decKind hi = 1) := by show _ = _; simp [decKind, k1]
  have hx : Hid (decExp hi = 0) := by show _ = _; simp [decExp, hk.out]
  have hd : Hid (decDig hi lo = []) := by show _ = _; simp [decDig, hk.out]
  clear k1
  go_enter Tryz.func59, Tryz.ntmps59
  go_wp2
  exact bodyPost_ret (v := .agg #[.int .i64 1, .bool (hi / 9223372036854775808 == 1), .string ⟨#[]⟩, .int .i64 0]) (by simp [results, Tryz.results59, go_sem]) rfl ⟨⟨#[]⟩, by rw [hk.out, hx.out]; rfl, ⟨by rw [hd.out]; rfl⟩, ((Below.refl _ _).alloc (Nat.le_refl _) _).alloc (by simp) _⟩
 ·have c1 : (hi / 288230376151711744 % 32 == 30) = false := by simp [k1]
  by_cases k2 : hi / 288230376151711744 % 32 = 31
  ·have c2 : (hi / 288230376151711744 % 32 == 31) = true := by simp [k2]
   have hk : Hid (decKind hi = 2) := by show _ = _; simp [decKind, k2]
   have hx : Hid (decExp hi = 0) := by show _ = _; simp [decExp, hk.out]
   have hd : Hid (decDig hi lo = []) := by show _ = _; simp [decDig, hk.out]
   clear k1 k2
   go_enter Tryz.func59, Tryz.ntmps59
   go_wp2
   exact bodyPost_ret (v := .agg #[.int .i64 2, .bool (hi / 9223372036854775808 == 1), .string ⟨#[]⟩, .int .i64 0]) (by simp [results, Tryz.results59, go_sem]) rfl ⟨⟨#[]⟩, by rw [hk.out, hx.out]; rfl, ⟨by rw [hd.out]; rfl⟩, ((Below.refl _ _).alloc (Nat.le_refl _) _).alloc (by simp) _⟩
  ·have c2 : (hi / 288230376151711744 % 32 == 31) = false := by simp [k2]
   have hk : Hid (decKind hi = 0) := by show _ = _; simp [decKind, k1, k2]
   by_cases k3 : hi / 2305843009213693952 % 4 = 3
   ·have c3 : (hi / 2305843009213693952 % 4 == 3) = true := by simp [k3]
    have hx : Hid (decExp hi = hi / 140737488355328 % 16384 + -6176) := by show _ = _; simp [decExp, hk.out, k3]
    have hd : Hid (decDig hi lo = [48]) := by show _ = _; simp [decDig, hk.out, k3]
    clear k1 k2 k3
    go_enter Tryz.func59, Tryz.ntmps59
    go_wp2
    exact bodyPost_ret (v := .agg #[.int .i64 0, .bool (hi / 9223372036854775808 == 1), .string ⟨#[48]⟩, .int .i64 (hi / 140737488355328 % 16384 + -6176)]) (by simp [results, Tryz.results59, go_sem]) rfl ⟨⟨#[48]⟩, by rw [hk.out, hx.out]; rfl, ⟨by rw [hd.out]; rfl⟩, ((Below.refl _ _).alloc (Nat.le_refl _) _).alloc (by simp) _⟩
   ·have c3 : (hi / 2305843009213693952 % 4 == 3) = false := by simp [k3]
    have hx : Hid (decExp hi = hi / 562949953421312 % 16384 + -6176) := by show _ = _; simp [decExp, hk.out, k3]
    have hd : Hid (decDig hi lo = digs (hi % 562949953421312 * 18446744073709551616 + lo).toNat) := by show _ = _; simp [decDig, hk.out, k3]
    clear k1 k2 k3
    go_enter Tryz.func59, Tryz.ntmps59
    go_wp2_with fail
    refine (decDigits_calls _ _ (by omega) (by omega) (by omega) (by omega) _).mono ?_
    rintro e w1 ⟨u, rfl, hu, hb⟩
    obtain ⟨hc, hf⟩ := bcell hb
    have hz : w.heap.size + 1 < w1.heap.size := by have := hb.size; simp at this; omega
    have q0 : w1.cell? ⟨w.heap.size, 0, none⟩ = some (.int .i64 0) := (hc _ _ (by simp; omega)).trans (by simp [go_sem])
    have q1 : w1.cell? ⟨w.heap.size, 1, none⟩ = some (.bool false) := (hc _ _ (by simp; omega)).trans (by simp [go_sem])
    have q2 : w1.cell? ⟨w.heap.size, 2, none⟩ = some (.string ⟨#[]⟩) := (hc _ _ (by simp; omega)).trans (by simp [go_sem])
    have q3 : w1.cell? ⟨w.heap.size, 3, none⟩ = some (.int .i64 0) := (hc _ _ (by simp; omega)).trans (by simp [go_sem])
    have hB := Lib.hid hb
    clear hb
    go_wp2
    refine bodyPost_ret (v := .agg #[.int .i64 0, .bool (hi / 9223372036854775808 == 1), .string u, .int .i64 (hi / 562949953421312 % 16384 + -6176)]) (by simp [results, Tryz.results59, go_sem, hc, hz, q0, q1, q2, q3]) rfl ⟨u, by rw [hk.out, hx.out]; rfl, ⟨by rw [hd.out]; exact hu.out⟩, ?_⟩
    exact ((((((((Below.refl _ _).alloc (Nat.le_refl _) _).alloc (by simp) _).trans (hB.out.mono (by simp; omega))).setCell (by simp) _).setCell (by simp) _).setCell (by simp) _).setCell (by simp) _).setCell (by simp) _ |>.setCell (by simp) _
theorem digs_small {n : Nat} (h : n < 10) : digs n = [(48 + n : Int)] := by
 unfold digs
 by_cases h0 : n = 0
 ·subst h0; rfl
 ·rw [if_neg h0, digs0_pos h0, show n / 10 = 0 by omega, digs0_zero, show n % 10 = n by omega]; rfl
theorem digs_big {n : Nat} (h : 10 ≤ n) : digs n = digs (n / 10) ++ [(48 + (n % 10 : Nat) : Int)] := by
 have h1 : n ≠ 0 := by omega
 have h2 : n / 10 ≠ 0 := by omega
 unfold digs
 rw [if_neg h1, if_neg h2, digs0_pos h1]
theorem DocDigits_calls : ∀ (k : Nat) (n : Nat) (w : World), k ≤ 40 → n < 10 ^ k → n ≤ 1000000000 →
  Calls Tryz.prog 100 #[.int .i64 n] w fun e w' => ∃ u, e = .returned (.string u) ∧ StrIs u (digs n) ∧ Below w.heap.size w w' := by
 intro k
 induction k with
 | zero =>
  intro n w _ hn _
  have : n = 0 := by simpa using hn
  subst this
  have hc := fun (x : Int) => lit_str1 w x
  go_enter Tryz.func100, Tryz.ntmps100
  go_wp2
  go_ret
  exact ⟨_, rfl, ⟨by rw [digs_small (by omega)]; rfl⟩, (Below.refl _ _).alloc (Nat.le_refl _) _⟩
 | succ k ih =>
  intro n w hk40 hn hm
  by_cases h10 : n < 10
  ·have hd : decide ((n : Int) < 10) = true := by simp; omega
   have v1 : IntKind.u8.wrap (48 + (n : Int)) = 48 + n := by rw [IntKind.wrap_u8]; omega
   have hc := fun (x : Int) => lit_str1 w x
   go_enter Tryz.func100, Tryz.ntmps100
   go_wp2
   go_ret
   exact ⟨_, rfl, ⟨by rw [digs_small h10]⟩, (Below.refl _ _).alloc (Nat.le_refl _) _⟩
  ·have hd : decide ((n : Int) < 10) = false := by simp; omega
   have IH := Lib.hid (fun w => ih (n / 10) w (by omega) (by rw [Nat.pow_succ] at hn; omega) (by omega))
   have hlen := Lib.hid (digs_length (k := k + 1) (by omega) hn)
   have HB := Lib.hid (digs_big (n := n) (by omega))
   clear ih
   obtain ⟨q, hq⟩ : ∃ q : Nat, q = n / 10 := ⟨_, rfl⟩
   obtain ⟨r, hr⟩ : ∃ r : Nat, r = n % 10 := ⟨_, rfl⟩
   rw [← hq] at IH
   rw [← hq, ← hr] at HB
   have hq' : (n : Int) / 10 = q := by omega
   have hr' : (n : Int) % 10 = r := by omega
   have hr9 : r < 10 := by omega
   have v1 : IntKind.u8.wrap (48 + (r : Int)) = 48 + r := by rw [IntKind.wrap_u8]; omega
   have hk9 : k ≤ 40 := by omega
   have hn1 : (n : Int) ≤ 9223372036854775807 := by omega
   have h10' : 10 ≤ (n : Int) := by omega
   clear hq hr hn hm h10
   have t1 : (n : Int).tdiv 10 = q := by rw [Int.tdiv_eq_ediv_of_nonneg (by omega)]; exact hq'
   have t2 : (n : Int).tmod 10 = r := by rw [Int.tmod_eq_emod_of_nonneg (by omega)]; exact hr'
   have t3 : IntKind.i64.wrap (q : Int) = q := by rw [IntKind.wrap_i64]; omega
   have t4 : IntKind.i64.wrap (48 + (r : Int)) = 48 + r := by rw [IntKind.wrap_i64]; omega
   obtain ⟨dg, hdg⟩ : ∃ dg : ByteArray, StrIs dg [48 + (r : Int)] := ⟨_, .of _⟩
   have hds : dg.size ≤ 1 := hdg.le (by simp)
   have cv := conv1 w.heap.size (48 + r)
   rw [← hdg.out] at cv
   go_enter Tryz.func100, Tryz.ntmps100
   go_wp2
   go_region_with (go_at_call 100; (with_reducible refine (IH.out _).mono ?_); rintro e w1 ⟨u, rfl, hu, hb⟩; obtain ⟨hc, hf⟩ := bcell hb; have cv1 := conv1 w1.heap.size (48 + r); rw [← hdg.out] at cv1; have hus : u.size ≤ 50 := hu.le (by have h1 := hlen.out; rw [HB.out, List.length_append] at h1; omega))
   all_goals
    go_wp2
    go_ret
    refine ⟨_, rfl, (hu.append hdg).cast HB.out.symm, ?_⟩
    first
     | exact ((Below.refl w.heap.size w).drew.trans hb).alloc (by exact hb.size) _
     | exact (((Below.refl w.heap.size w).alloc (Nat.le_refl _) _).drew).trans (hb.mono (by simp))
theorem decNumber_nat : ∀ (k : Nat) (n : Nat) (w : World), k ≤ 40 → n < 10 ^ k → n ≤ 1000000000 →
  Calls Tryz.prog 105 #[.int .i64 n] w fun e w' => ∃ u, e = .returned (.string u) ∧ StrIs u (digs n) ∧ Below w.heap.size w w' := by
 intro k
 induction k with
 | zero =>
  intro n w _ hn _
  have : n = 0 := by simpa using hn
  subst this
  have hc := fun (x : Int) => lit_str1 w x
  go_enter Tryz.func105, Tryz.ntmps105
  go_wp2
  go_ret
  exact ⟨_, rfl, ⟨by rw [digs_small (by omega)]; rfl⟩, (Below.refl _ _).alloc (Nat.le_refl _) _⟩
 | succ k ih =>
  intro n w hk40 hn hm
  by_cases h10 : n < 10
  ·have hd : decide ((n : Int) < 10) = true := by simp; omega
   have v1 : IntKind.u8.wrap (48 + (n : Int)) = 48 + n := by rw [IntKind.wrap_u8]; omega
   have hc := fun (x : Int) => lit_str1 w x
   go_enter Tryz.func105, Tryz.ntmps105
   go_wp2
   go_ret
   exact ⟨_, rfl, ⟨by rw [digs_small h10]⟩, (Below.refl _ _).alloc (Nat.le_refl _) _⟩
  ·have hd : decide ((n : Int) < 10) = false := by simp; omega
   have IH := Lib.hid (fun w => ih (n / 10) w (by omega) (by rw [Nat.pow_succ] at hn; omega) (by omega))
   have hlen := Lib.hid (digs_length (k := k + 1) (by omega) hn)
   have HB := Lib.hid (digs_big (n := n) (by omega))
   clear ih
   obtain ⟨q, hq⟩ : ∃ q : Nat, q = n / 10 := ⟨_, rfl⟩
   obtain ⟨r, hr⟩ : ∃ r : Nat, r = n % 10 := ⟨_, rfl⟩
   rw [← hq] at IH
   rw [← hq, ← hr] at HB
   have hq' : (n : Int) / 10 = q := by omega
   have hr' : (n : Int) % 10 = r := by omega
   have hr9 : r < 10 := by omega
   have v1 : IntKind.u8.wrap (48 + (r : Int)) = 48 + r := by rw [IntKind.wrap_u8]; omega
   have hk9 : k ≤ 40 := by omega
   have hn1 : (n : Int) ≤ 9223372036854775807 := by omega
   have h10' : 10 ≤ (n : Int) := by omega
   clear hq hr hn hm h10
   have t1 : (n : Int).tdiv 10 = q := by rw [Int.tdiv_eq_ediv_of_nonneg (by omega)]; exact hq'
   have t2 : (n : Int).tmod 10 = r := by rw [Int.tmod_eq_emod_of_nonneg (by omega)]; exact hr'
   have t3 : IntKind.i64.wrap (q : Int) = q := by rw [IntKind.wrap_i64]; omega
   have t4 : IntKind.i64.wrap (48 + (r : Int)) = 48 + r := by rw [IntKind.wrap_i64]; omega
   obtain ⟨dg, hdg⟩ : ∃ dg : ByteArray, StrIs dg [48 + (r : Int)] := ⟨_, .of _⟩
   have hds : dg.size ≤ 1 := hdg.le (by simp)
   have cv := conv1 w.heap.size (48 + r)
   rw [← hdg.out] at cv
   go_enter Tryz.func105, Tryz.ntmps105
   go_wp2
   go_region_with (go_at_call 105; (with_reducible refine (IH.out _).mono ?_); rintro e w1 ⟨u, rfl, hu, hb⟩; obtain ⟨hc, hf⟩ := bcell hb; have cv1 := conv1 w1.heap.size (48 + r); rw [← hdg.out] at cv1; have hus : u.size ≤ 50 := hu.le (by have h1 := hlen.out; rw [HB.out, List.length_append] at h1; omega))
   all_goals
    go_wp2
    go_ret
    refine ⟨_, rfl, (hu.append hdg).cast HB.out.symm, ?_⟩
    first
     | exact ((Below.refl w.heap.size w).drew.trans hb).alloc (by exact hb.size) _
     | exact (((Below.refl w.heap.size w).alloc (Nat.le_refl _) _).drew).trans (hb.mono (by simp))
def numF (n : Int) : List Int := if n < 0 then 45 :: digs (-n).toNat else digs n.toNat
theorem decNumber_calls (n : Int) (h0 : -100000000 ≤ n) (h1 : n ≤ 100000000) (w : World) :
  Calls Tryz.prog 105 #[.int .i64 n] w fun e w' => ∃ u, e = .returned (.string u) ∧ StrIs u (numF n) ∧ Below w.heap.size w w' := by
 by_cases hn : n < 0
 ·obtain ⟨m, rfl⟩ : ∃ m : Nat, n = -(m : Int) := ⟨(-n).toNat, by omega⟩
  have hs : Hid (numF (-(m : Int)) = 45 :: digs m) := by show _ = _; unfold numF; rw [if_pos hn]; congr 2; omega
  have C := Lib.hid (fun w => decNumber_nat 9 m w (by omega) (by omega) (by omega))
  have L := Lib.hid (digs_length (k := 9) (n := m) (by omega) (by omega))
  have hd0 : decide (-(m : Int) < 0) = true := by simp; omega
  have t1 : - -(m : Int) = m := by omega
  have hm9 : (m : Int) ≤ 100000000 := by omega
  have hpos : 0 < m := by omega
  clear hn h0 h1
  go_enter Tryz.func105, Tryz.ntmps105
  go_wp2_with fail
  (with_reducible refine (C.out _).mono ?_)
  rintro e w1 ⟨u, rfl, hu, hb⟩
  have hus : u.size ≤ 9 := hu.le L.out
  have HB := Lib.hid hb
  clear hb
  go_wp2
  go_ret
  exact ⟨_, rfl, ((StrIs.append (u := ⟨#[45]⟩) (a := [45]) ⟨rfl⟩ hu).cast hs.out.symm), HB.out⟩
 ·obtain ⟨m, rfl⟩ : ∃ m : Nat, n = (m : Int) := ⟨n.toNat, by omega⟩
  have hs : numF (m : Int) = digs m := by unfold numF; rw [if_neg hn]; congr 1
  rw [hs]
  exact decNumber_nat 9 m w (by omega) (by omega) (by omega)
theorem and32m (n : Int) (h0 : 0 ≤ n) (h1 : n < 18446744073709551616) : bits .and .u64 n 4294967295 = n % 4294967296 :=
 bits_mask .u64 64 (by decide) wraps_u64 32 (by decide) n h0 (by omega)
theorem decTimes_calls (hi lo dg : Int) (h0 : 0 ≤ hi) (h1 : hi < 18446744073709551616) (l0 : 0 ≤ lo) (l1 : lo < 18446744073709551616) (d0 : 0 ≤ dg) (d1 : dg ≤ 255) (w : World) :
  Calls Tryz.prog 140 #[.int .u64 hi, .int .u64 lo, .int .u64 dg] w fun e w' => ∃ (h l : Int) (b : Bool), e = .returned (.tuple #[.int .u64 h, .int .u64 l, .bool b]) ∧
   0 ≤ h ∧ h < 18446744073709551616 ∧ 0 ≤ l ∧ l < 18446744073709551616 ∧ Below w.heap.size w w' := by
 have e1 := and32m hi h0 (by omega)
 have e3 := and32m lo l0 (by omega)
 obtain ⟨L0, g0⟩ : ∃ x, hi / 4294967296 = x := ⟨_, rfl⟩
 obtain ⟨L1, g1⟩ : ∃ x, hi % 4294967296 = x := ⟨_, rfl⟩
 obtain ⟨L2, g2⟩ : ∃ x, lo / 4294967296 = x := ⟨_, rfl⟩
 obtain ⟨L3, g3⟩ : ∃ x, lo % 4294967296 = x := ⟨_, rfl⟩
 rw [g1] at e1
 rw [g3] at e3
 have b0 : 0 ≤ L0 ∧ L0 < 4294967296 := by omega
 have b1 : 0 ≤ L1 ∧ L1 < 4294967296 := by omega
 have b2 : 0 ≤ L2 ∧ L2 < 4294967296 := by omega
 have b3 : 0 ≤ L3 ∧ L3 < 4294967296 := by omega
 clear g1 g3
 obtain ⟨N3, k3⟩ : ∃ x, L3 * 10 + dg = x := ⟨_, rfl⟩
 have c3 : 0 ≤ N3 ∧ N3 < 1099511627776 := by omega
 obtain ⟨N2, k2⟩ : ∃ x, L2 * 10 + N3 / 4294967296 = x := ⟨_, rfl⟩
 have c2 : 0 ≤ N2 ∧ N2 < 1099511627776 := by omega
 obtain ⟨N1, k1⟩ : ∃ x, L1 * 10 + N2 / 4294967296 = x := ⟨_, rfl⟩
 have c1 : 0 ≤ N1 ∧ N1 < 1099511627776 := by omega
 obtain ⟨N0, k0⟩ : ∃ x, L0 * 10 + N1 / 4294967296 = x := ⟨_, rfl⟩
 have c0 : 0 ≤ N0 ∧ N0 < 1099511627776 := by omega
 have m3 := and32m N3 (by omega) (by omega)
 have m2 := and32m N2 (by omega) (by omega)
 have m1 := and32m N1 (by omega) (by omega)
 have m0 := and32m N0 (by omega) (by omega)
 obtain ⟨A, hA⟩ : ∃ x, bits .or .u64 (N1 % 4294967296) (N0 % 4294967296 * 4294967296) = x := ⟨_, rfl⟩
 obtain ⟨B, hB⟩ : ∃ x, bits .or .u64 (N3 % 4294967296) (N2 % 4294967296 * 4294967296) = x := ⟨_, rfl⟩
 have a0 : 0 ≤ A := hA ▸ bits_lo_u64 _ _ _
 have a1 : A ≤ 18446744073709551615 := hA ▸ bits_hi_u64 _ _ _
 have a2 : 0 ≤ B := hB ▸ bits_lo_u64 _ _ _
 have a3 : B ≤ 18446744073709551615 := hB ▸ bits_hi_u64 _ _ _
 go_enter Tryz.func140, Tryz.ntmps140
 go_wp2
 refine wp_loop_rounds 5 ?_
 rw [rounds_succ]
 go_wp2
 rw [rounds_succ]
 go_wp2
 rw [rounds_succ]
 go_wp2
 rw [rounds_succ]
 go_wp2
 rw [rounds_succ]
 go_wp2
 have v1 : IntKind.u64.wrap (N0 % 4294967296 * 4294967296) = N0 % 4294967296 * 4294967296 := wraps_u64 _ (by omega) (by omega)
 have v2 : IntKind.u64.wrap (N2 % 4294967296 * 4294967296) = N2 % 4294967296 * 4294967296 := wraps_u64 _ (by omega) (by omega)
 go_region
 all_goals go_wp2
 all_goals go_ret3
 all_goals exact ⟨_, _, _, rfl, a0, by omega, a2, by omega, ((Below.refl _ _).alloc (Nat.le_refl _) _).drew⟩
def AnsB (Q : Bool → Prop) (w : World) (e : Ending) (w' : World) : Prop := ∃ b : Bool, e = .returned (.bool b) ∧ Q b ∧ Below w.heap.size w w'
theorem AnsB.of {Q : Bool → Prop} {w w' : World} {e : Ending} {b : Bool} (h : e = .returned (.bool b)) (hq : Q b) (hb : Below w.heap.size w w') : AnsB Q w e w' := ⟨b, h, hq, hb⟩
theorem str_at0 {s : ByteArray} (h : 0 < s.size) : ((s[0]'h).toNat : Int) = bt s 0 := bt_at s 0 h
theorem DecIs_calls (k : Int) (neg : Bool) (s : ByteArray) (e : Int) (hs : s.size ≤ 100) (h3 : -100000 ≤ e) (h4 : e ≤ 100000) (w : World) :
  Calls Tryz.prog 95 #[.agg #[.int .i64 k, .bool neg, .string s, .int .i64 e]] w (AnsB (fun b => b = true → k = 0 → s.size ≤ 34) w) := by
 by_cases k0 : k = 0
 ·subst k0
  by_cases z0 : s.size < 1
  ·have c0 : decide ((s.size : Int) < 1) = true := decide_eq_true (by omega)
   go_enter Tryz.func95, Tryz.ntmps95
   go_wp2
   go_ret
   exact AnsB.of rfl (by simp) ((Below.refl _ _).alloc (Nat.le_refl _) _)
  ·have c0 : decide ((s.size : Int) < 1) = false := decide_eq_false (by omega)
   by_cases z1 : 34 < s.size
   ·have c1 : decide (34 < (s.size : Int)) = true := decide_eq_true (by omega)
    go_enter Tryz.func95, Tryz.ntmps95
    go_wp2
    go_ret
    exact AnsB.of rfl (by simp) ((Below.refl _ _).alloc (Nat.le_refl _) _)
   ·have c1 : decide (34 < (s.size : Int)) = false := decide_eq_false (by omega)
    have hz : 0 < s.size := by omega
    have b0 := bt_at s 0 hz
    by_cases z2 : 1 < s.size
    ·have c2 : decide (1 < (s.size : Int)) = true := decide_eq_true (by omega)
     by_cases z3 : bt s 0 = 48
     ·have c3 : (bt s 0 == 48) = true := by simp [z3]
      go_enter Tryz.func95, Tryz.ntmps95
      go_wp2
      go_ret
      exact AnsB.of rfl (by simp) ((Below.refl _ _).alloc (Nat.le_refl _) _)
     ·have c3 : (bt s 0 == 48) = false := by simp [z3]
      by_cases q1 : e < -6176
      ·have f1 : decide (e < -6176) = true := decide_eq_true q1
       go_enter Tryz.func95, Tryz.ntmps95
       go_wp2
       go_ret
       exact AnsB.of rfl (by simp) ((Below.refl _ _).alloc (Nat.le_refl _) _)
      ·have f1 : decide (e < -6176) = false := decide_eq_false q1
       by_cases q2 : 6111 < e
       ·have f2 : decide (6111 < e) = true := decide_eq_true q2
        go_enter Tryz.func95, Tryz.ntmps95
        go_wp2
        go_ret
        exact AnsB.of rfl (by simp) ((Below.refl _ _).alloc (Nat.le_refl _) _)
       ·have f2 : decide (6111 < e) = false := decide_eq_false q2
        go_enter Tryz.func95, Tryz.ntmps95
        go_wp2
        go_loop [3] (fun i => ∃ k : Nat, k ≤ s.size ∧ i = .int .i64 k) (fun i => s.size - (intOf i).toNat)
        case atStart => exact ⟨0, by omega, rfl⟩
        case round =>
         obtain ⟨k, hk, rfl⟩ := hrel
         by_cases hlt : k < s.size
         ·have bk := bt_at s k hlt
          by_cases l1 : bt s k < 48
          ·go_wp2
           go_ret
           exact AnsB.of rfl (by simp) ((Below.refl _ _).alloc (Nat.le_refl _) _)
          ·by_cases l2 : 57 < bt s k
           ·go_wp2
            go_ret
            exact AnsB.of rfl (by simp) ((Below.refl _ _).alloc (Nat.le_refl _) _)
           ·go_wp2
            go_round
            case rel => exact ⟨k + 1, by omega, by go_num⟩
            case measure => simp [intOf]; omega
         ·go_wp2
          go_ret
          exact AnsB.of rfl (by intros; omega) ((Below.refl _ _).alloc (Nat.le_refl _) _)
    ·have c2 : decide (1 < (s.size : Int)) = false := decide_eq_false (by omega)
     by_cases q1 : e < -6176
     ·have f1 : decide (e < -6176) = true := decide_eq_true q1
      go_enter Tryz.func95, Tryz.ntmps95
      go_wp2
      go_ret
      exact AnsB.of rfl (by simp) ((Below.refl _ _).alloc (Nat.le_refl _) _)
     ·have f1 : decide (e < -6176) = false := decide_eq_false q1
      by_cases q2 : 6111 < e
      ·have f2 : decide (6111 < e) = true := decide_eq_true q2
       go_enter Tryz.func95, Tryz.ntmps95
       go_wp2
       go_ret
       exact AnsB.of rfl (by simp) ((Below.refl _ _).alloc (Nat.le_refl _) _)
      ·have f2 : decide (6111 < e) = false := decide_eq_false q2
       go_enter Tryz.func95, Tryz.ntmps95
       go_wp2
       go_loop [3] (fun i => ∃ k : Nat, k ≤ s.size ∧ i = .int .i64 k) (fun i => s.size - (intOf i).toNat)
       case atStart => exact ⟨0, by omega, rfl⟩
       case round =>
        obtain ⟨k, hk, rfl⟩ := hrel
        by_cases hlt : k < s.size
        ·have bk := bt_at s k hlt
         by_cases l1 : bt s k < 48
         ·go_wp2
          go_ret
          exact AnsB.of rfl (by simp) ((Below.refl _ _).alloc (Nat.le_refl _) _)
         ·by_cases l2 : 57 < bt s k
          ·go_wp2
           go_ret
           exact AnsB.of rfl (by simp) ((Below.refl _ _).alloc (Nat.le_refl _) _)
          ·go_wp2
           go_round
           case rel => exact ⟨k + 1, by omega, by go_num⟩
           case measure => simp [intOf]; omega
        ·go_wp2
         go_ret
         exact AnsB.of rfl (by intros; omega) ((Below.refl _ _).alloc (Nat.le_refl _) _)
 ·have c0 : (k == 0) = false := by rw [beq_eq_false_iff_ne]; exact k0
  by_cases k1 : k = 1
  ·subst k1
   go_enter Tryz.func95, Tryz.ntmps95
   go_wp2
   go_ret
   exact AnsB.of rfl (by simp) ((Below.refl _ _).alloc (Nat.le_refl _) _)
  ·have c1 : (k == 1) = false := by rw [beq_eq_false_iff_ne]; exact k1
   go_enter Tryz.func95, Tryz.ntmps95
   go_wp2
   go_ret
   exact AnsB.of rfl (fun _ h => absurd h k0) ((Below.refl _ _).alloc (Nat.le_refl _) _)
def AnsUU (w : World) (e : Ending) (w' : World) : Prop := ∃ h l : Int, e = .returned (.tuple #[.int .u64 h, .int .u64 l]) ∧ Below w.heap.size w w'
theorem DecBits_true (k : Int) (s : ByteArray) (ds : List Int) (e : Int) (hs : s.size ≤ 100) (hds : StrIs s ds) (hr : ∀ x ∈ ds, 48 ≤ x ∧ x ≤ 57) (h3 : -6176 ≤ e) (h4 : e ≤ 10207) (w : World) :
  Calls Tryz.prog 96 #[.agg #[.int .i64 k, .bool true, .string s, .int .i64 e]] w (AnsUU w) := by
 by_cases k1 : k = 1
 ·subst k1
  obtain ⟨Z, hZ⟩ : ∃ Z, bits .or .u64 9223372036854775808 8646911284551352320 = Z := ⟨_, rfl⟩
  go_enter Tryz.func96, Tryz.ntmps96
  go_wp2
  go_ret2
  exact ⟨_, _, rfl, (Below.refl _ _).alloc (Nat.le_refl _) _⟩
 ·have c1 : (k == 1) = false := by rw [beq_eq_false_iff_ne]; exact k1
  by_cases k2 : k = 2
  ·subst k2
   go_enter Tryz.func96, Tryz.ntmps96
   go_wp2
   go_ret2
   exact ⟨_, _, rfl, (Below.refl _ _).alloc (Nat.le_refl _) _⟩
  ·have c2 : (k == 2) = false := by rw [beq_eq_false_iff_ne]; exact k2
   have hsz : Hid (s.size = ds.length) := hds.size
   have hbt : Hid (∀ j, j < s.size → bt s j = rd ds (j : Int)) := by
    intro j hj
    exact hds.bt (fun x hx => by have := hr x hx; omega) j (by rw [← hds.size]; exact hj)
   go_enter Tryz.func96, Tryz.ntmps96
   go_wp2
   go_loopw [5, 6, 7] (fun a b i wr => ∃ (h l : Int) (k : Nat), a = .int .u64 h ∧ b = .int .u64 l ∧ i = .int .i64 k ∧ k ≤ s.size ∧ (0 ≤ h ∧ h < 18446744073709551616) ∧ (0 ≤ l ∧ l < 18446744073709551616) ∧ Below w.heap.size w wr ∧ w.heap.size < wr.heap.size ∧ wr.cell? ⟨w.heap.size, 2, none⟩ = some (.string s) ∧ wr.cell? ⟨w.heap.size, 3, none⟩ = some (.int .i64 e)) (fun _ _ i _ => s.size - (intOf i).toNat)
   case atStart => exact ⟨0, 0, 0, rfl, rfl, rfl, by omega, by omega, by omega, (Below.refl _ _).alloc (Nat.le_refl _) _, by simp, by simp [go_sem], by simp [go_sem]⟩
   case round =>
    obtain ⟨h, l, k, rfl, rfl, rfl, hk, hh, hl, hb, hsz2, q2, q3⟩ := hrel
    have HB := Lib.hid hb
    clear hb
    by_cases hlt : k < s.size
    ·have bk := bt_at s k hlt
     have hrk : 48 ≤ bt s k ∧ bt s k ≤ 57 := by
      rw [hbt.out k hlt]
      exact hr _ (rd_mem (by rw [← hsz.out]; exact hlt))
     go_wp2_with fail
     refine (decTimes_calls h l (bt s k - 48) (by omega) (by omega) (by omega) (by omega) (by omega) (by omega) _).mono ?_
     rintro e' w1 ⟨h', l', b', rfl, hh0, hh1, hl0, hl1, hb1⟩
     have q2' := (hb1.cell (by simp; omega)).trans q2
     have q3' := (hb1.cell (by simp; omega)).trans q3
     have hb1s := hb1.size
     have HB1 := Lib.hid hb1
     clear hb1 q2 q3
     go_wp2
     go_roundw
     case rel => exact ⟨h', l', k + 1, rfl, rfl, by go_num, by omega, by omega, by omega, HB.out.trans (HB1.out.mono (by omega)), by omega, q2', q3'⟩
     case measure => simp [intOf]; omega
    ·obtain ⟨Z1, hZ1⟩ : ∃ Z, bits .or .u64 9223372036854775808 ((e + 6176) * 562949953421312) = Z := ⟨_, rfl⟩
     obtain ⟨Z2, hZ2⟩ : ∃ Z, bits .or .u64 Z1 h = Z := ⟨_, rfl⟩
     have a1 : 0 ≤ Z1 := hZ1 ▸ bits_lo_u64 _ _ _
     have a2 : Z1 ≤ 18446744073709551615 := hZ1 ▸ bits_hi_u64 _ _ _
     go_wp2
     go_ret2
     exact ⟨_, _, rfl, HB.out⟩
theorem DecBits_false (k : Int) (s : ByteArray) (ds : List Int) (e : Int) (hs : s.size ≤ 100) (hds : StrIs s ds) (hr : ∀ x ∈ ds, 48 ≤ x ∧ x ≤ 57) (h3 : -6176 ≤ e) (h4 : e ≤ 10207) (w : World) :
  Calls Tryz.prog 96 #[.agg #[.int .i64 k, .bool false, .string s, .int .i64 e]] w (AnsUU w) := by
 by_cases k1 : k = 1
 ·subst k1
  obtain ⟨Z, hZ⟩ : ∃ Z, bits .or .u64 0 8646911284551352320 = Z := ⟨_, rfl⟩
  go_enter Tryz.func96, Tryz.ntmps96
  go_wp2
  go_ret2
  exact ⟨_, _, rfl, (Below.refl _ _).alloc (Nat.le_refl _) _⟩
 ·have c1 : (k == 1) = false := by rw [beq_eq_false_iff_ne]; exact k1
  by_cases k2 : k = 2
  ·subst k2
   go_enter Tryz.func96, Tryz.ntmps96
   go_wp2
   go_ret2
   exact ⟨_, _, rfl, (Below.refl _ _).alloc (Nat.le_refl _) _⟩
  ·have c2 : (k == 2) = false := by rw [beq_eq_false_iff_ne]; exact k2
   have hsz : Hid (s.size = ds.length) := hds.size
   have hbt : Hid (∀ j, j < s.size → bt s j = rd ds (j : Int)) := by
    intro j hj
    exact hds.bt (fun x hx => by have := hr x hx; omega) j (by rw [← hds.size]; exact hj)
   go_enter Tryz.func96, Tryz.ntmps96
   go_wp2
   go_loopw [5, 6, 7] (fun a b i wr => ∃ (h l : Int) (k : Nat), a = .int .u64 h ∧ b = .int .u64 l ∧ i = .int .i64 k ∧ k ≤ s.size ∧ (0 ≤ h ∧ h < 18446744073709551616) ∧ (0 ≤ l ∧ l < 18446744073709551616) ∧ Below w.heap.size w wr ∧ w.heap.size < wr.heap.size ∧ wr.cell? ⟨w.heap.size, 2, none⟩ = some (.string s) ∧ wr.cell? ⟨w.heap.size, 3, none⟩ = some (.int .i64 e)) (fun _ _ i _ => s.size - (intOf i).toNat)
   case atStart => exact ⟨0, 0, 0, rfl, rfl, rfl, by omega, by omega, by omega, (Below.refl _ _).alloc (Nat.le_refl _) _, by simp, by simp [go_sem], by simp [go_sem]⟩
   case round =>
    obtain ⟨h, l, k, rfl, rfl, rfl, hk, hh, hl, hb, hsz2, q2, q3⟩ := hrel
    have HB := Lib.hid hb
    clear hb
    by_cases hlt : k < s.size
    ·have bk := bt_at s k hlt
     have hrk : 48 ≤ bt s k ∧ bt s k ≤ 57 := by
      rw [hbt.out k hlt]
      exact hr _ (rd_mem (by rw [← hsz.out]; exact hlt))
     go_wp2_with fail
     refine (decTimes_calls h l (bt s k - 48) (by omega) (by omega) (by omega) (by omega) (by omega) (by omega) _).mono ?_
     rintro e' w1 ⟨h', l', b', rfl, hh0, hh1, hl0, hl1, hb1⟩
     have q2' := (hb1.cell (by simp; omega)).trans q2
     have q3' := (hb1.cell (by simp; omega)).trans q3
     have hb1s := hb1.size
     have HB1 := Lib.hid hb1
     clear hb1 q2 q3
     go_wp2
     go_roundw
     case rel => exact ⟨h', l', k + 1, rfl, rfl, by go_num, by omega, by omega, by omega, HB.out.trans (HB1.out.mono (by omega)), by omega, q2', q3'⟩
     case measure => simp [intOf]; omega
    ·obtain ⟨Z1, hZ1⟩ : ∃ Z, bits .or .u64 0 ((e + 6176) * 562949953421312) = Z := ⟨_, rfl⟩
     obtain ⟨Z2, hZ2⟩ : ∃ Z, bits .or .u64 Z1 h = Z := ⟨_, rfl⟩
     have a1 : 0 ≤ Z1 := hZ1 ▸ bits_lo_u64 _ _ _
     have a2 : Z1 ≤ 18446744073709551615 := hZ1 ▸ bits_hi_u64 _ _ _
     go_wp2
     go_ret2
     exact ⟨_, _, rfl, HB.out⟩
theorem DecBits_calls (k : Int) (neg : Bool) (s : ByteArray) (ds : List Int) (e : Int) (hs : s.size ≤ 100) (hds : StrIs s ds) (hr : ∀ x ∈ ds, 48 ≤ x ∧ x ≤ 57) (h3 : -6176 ≤ e) (h4 : e ≤ 10207) (w : World) :
  Calls Tryz.prog 96 #[.agg #[.int .i64 k, .bool neg, .string s, .int .i64 e]] w (AnsUU w) := by
 cases neg
 ·exact DecBits_false k s ds e hs hds hr h3 h4 w
 ·exact DecBits_true k s ds e hs hds hr h3 h4 w
theorem digs0_mem (k : Nat) : ∀ n, n ≤ k → ∀ x ∈ digs0 n, 48 ≤ x ∧ x ≤ 57 := by
 induction k with
 | zero => intro n hn x hx; rw [show n = 0 by omega, digs0_zero] at hx; simp at hx
 | succ k ih =>
  intro n hn x hx
  by_cases h0 : n = 0
  ·subst h0; rw [digs0_zero] at hx; simp at hx
  ·rw [digs0_pos h0, List.mem_append] at hx
   rcases hx with hx | hx
   ·exact ih (n / 10) (by omega) x hx
   ·rw [List.mem_singleton] at hx; omega
theorem digs_mem (n : Nat) : ∀ x ∈ digs n, 48 ≤ x ∧ x ≤ 57 := by
 intro x hx
 unfold digs at hx
 split at hx
 ·rw [List.mem_singleton] at hx; omega
 ·exact digs0_mem n n (by omega) x hx
theorem digs_ge (n : Nat) : 1 ≤ (digs n).length := by
 unfold digs
 split
 ·simp
 ·rename_i h
  rw [digs0_pos h]
  simp
theorem decDig_mem (hi lo : Int) : ∀ x ∈ decDig hi lo, 48 ≤ x ∧ x ≤ 57 := by
 intro x hx
 unfold decDig at hx
 split at hx
 ·simp at hx
 ·split at hx
  ·rw [List.mem_singleton] at hx; omega
  ·exact digs_mem _ x hx
theorem decDig_length (hi lo : Int) (h0 : 0 ≤ hi) (h1 : hi < 18446744073709551616) (l0 : 0 ≤ lo) (l1 : lo < 18446744073709551616) : (decDig hi lo).length ≤ 40 ∧ (decKind hi = 0 → 1 ≤ (decDig hi lo).length) := by
 unfold decDig
 split
 ·exact ⟨by simp, fun h => by contradiction⟩
 ·split
  ·simp
  ·have hp := digs_length (k := 40) (n := (hi % 562949953421312 * 18446744073709551616 + lo).toNat) (by omega) (by omega)
   exact ⟨by omega, fun _ => digs_ge _⟩
theorem decExp_range (hi : Int) (h0 : 0 ≤ hi) : -6176 ≤ decExp hi ∧ decExp hi ≤ 10207 := by
 unfold decExp
 split
 ·omega
 ·split <;> omega
theorem decKind_range (hi : Int) : 0 ≤ decKind hi ∧ decKind hi ≤ 2 := by
 unfold decKind
 split
 ·omega
 ·split <;> omega
theorem decFits_calls (hi lo : Int) (h0 : 0 ≤ hi) (h1 : hi < 18446744073709551616) (l0 : 0 ≤ lo) (l1 : lo < 18446744073709551616) (w : World) :
  Calls Tryz.prog 44 #[.int .u64 hi, .int .u64 lo] w (AnsB (fun b => b = true → decKind hi = 0 → (decDig hi lo).length ≤ 34 ∧ hi / 2305843009213693952 % 4 ≠ 3) w) := by
 have e2 : bits .and .u64 (hi / 2305843009213693952) 3 = hi / 2305843009213693952 % 4 := mask_u64 2 (by decide) _ (by omega) (by omega)
 obtain ⟨hlen, hlen1⟩ := decDig_length hi lo h0 h1 l0 l1
 have hx := decExp_range hi h0
 have hk := decKind_range hi
 have hm := Lib.hid (decDig_mem hi lo)
 have hD := Lib.hid hlen
 have hdo := fun w => DecOf_calls hi lo h0 h1 l0 l1 w
 clear hlen1
 generalize hK : decKind hi = K at *
 generalize hX : decExp hi = X at *
 generalize hT : hi / 2305843009213693952 % 4 = T at *
 generalize hN : decNeg hi = N at *
 generalize hL : decDig hi lo = D at *
 clear hK hX hT hN hL
 have HDO := Lib.hid hdo
 clear hdo hlen
 go_enter Tryz.func44, Tryz.ntmps44
 go_wp2_with fail
 refine (HDO.out _).mono ?_
 rintro e w1 ⟨u, rfl, hu, hb⟩
 have hus : u.size ≤ 40 := hu.le hD.out
 have HU := Lib.hid hu
 have HB := Lib.hid hb
 clear hb hu
 go_wp2_with fail
 refine (DecIs_calls K N u X (by omega) (by omega) (by omega) _).mono ?_
 rintro e w2 ⟨b, rfl, hq, hb2⟩
 have HQ := Lib.hid hq
 obtain ⟨hc, hf⟩ := bcell hb2
 have hz : w1.heap.size < w2.heap.size := by have := hb2.size; simp at this; omega
 have q0 : w2.cell? ⟨w1.heap.size, 0, none⟩ = some (.int .i64 K) := (hc _ _ (by simp)).trans (by simp [go_sem])
 have q1 : w2.cell? ⟨w1.heap.size, 1, none⟩ = some (.bool N) := (hc _ _ (by simp)).trans (by simp [go_sem])
 have q2 : w2.cell? ⟨w1.heap.size, 2, none⟩ = some (.string u) := (hc _ _ (by simp)).trans (by simp [go_sem])
 have q3 : w2.cell? ⟨w1.heap.size, 3, none⟩ = some (.int .i64 X) := (hc _ _ (by simp)).trans (by simp [go_sem])
 have HB2 : Hid (Below w.heap.size w w2) := HB.out.trans ((((Below.refl w1.heap.size w1).alloc (Nat.le_refl _) _).trans (hb2.mono (by simp))).mono HB.out.size)
 have hsz1 := HB.out.size
 clear hq hb2 hc hf
 cases b with
 | false =>
  go_wp2
  go_ret
  exact AnsB.of rfl (by simp) HB2.out
 | true =>
  have hq := HQ.out rfl
  have HQ' := Lib.hid hq
  clear hq HQ
  by_cases t3 : T = 3
  ·by_cases k0 : K = 0
   ·subst k0
    subst t3
    go_wp2
    go_ret
    exact AnsB.of rfl (by simp) HB2.out
   ·have c0 : (K == 0) = false := by rw [beq_eq_false_iff_ne]; exact k0
    subst t3
    have HF : Hid (¬ K = 0) := k0
    go_wp2_with fail
    refine (DecBits_calls K N u D X (by omega) HU.out hm.out (by omega) (by omega) _).mono ?_
    rintro e w3 ⟨h, l, rfl, hb3⟩
    have HB3 : Hid (Below w.heap.size w w3) := HB2.out.trans (hb3.mono (by omega))
    clear hb3
    by_cases r1 : h = hi
    ·subst r1
     by_cases r2 : l = lo
     ·subst r2
      go_wp2
      go_ret
      exact AnsB.of rfl (fun _ h => absurd h HF.out) HB3.out
     ·have r2' : (l == lo) = false := by rw [beq_eq_false_iff_ne]; exact r2
      go_wp2
      go_ret
      exact AnsB.of rfl (by simp) HB3.out
    ·have r1' : (h == hi) = false := by rw [beq_eq_false_iff_ne]; exact r1
     go_wp2
     go_ret
     exact AnsB.of rfl (by simp) HB3.out
  ·have t3' : (T == 3) = false := by rw [beq_eq_false_iff_ne]; exact t3
   have HF : Hid (K = 0 → D.length ≤ 34 ∧ ¬ T = 3) := fun h => ⟨by have := HQ'.out h; rw [HU.out.size] at this; exact this, t3⟩
   go_wp2_with fail
   refine (DecBits_calls K N u D X (by omega) HU.out hm.out (by omega) (by omega) _).mono ?_
   rintro e w3 ⟨h, l, rfl, hb3⟩
   have HB3 : Hid (Below w.heap.size w w3) := HB2.out.trans (hb3.mono (by omega))
   clear hb3
   by_cases r1 : h = hi
   ·subst r1
    by_cases r2 : l = lo
    ·subst r2
     go_wp2
     go_ret
     exact AnsB.of rfl (fun _ => HF.out) HB3.out
    ·have r2' : (l == lo) = false := by rw [beq_eq_false_iff_ne]; exact r2
     go_wp2
     go_ret
     exact AnsB.of rfl (by simp) HB3.out
   ·have r1' : (h == hi) = false := by rw [beq_eq_false_iff_ne]; exact r1
    go_wp2
    go_ret
    exact AnsB.of rfl (by simp) HB3.out
def decFixed (ds : List Int) (e : Int) : List Int :=
 (List.replicate (-e + 1 - ds.length).toNat 48 ++ ds).take ((List.replicate (-e + 1 - ds.length).toNat (48 : Int) ++ ds).length + e).toNat ++ 46 :: (List.replicate (-e + 1 - ds.length).toNat 48 ++ ds).drop ((List.replicate (-e + 1 - ds.length).toNat (48 : Int) ++ ds).length + e).toNat
def decBody (ds : List Int) (e : Int) : List Int :=
 if 0 < e ∨ e + ds.length - 1 < -6 then ds.take 1 ++ (if 1 < ds.length then 46 :: ds.drop 1 else []) ++ (if 0 ≤ e + ds.length - 1 then [69, 43] else [69]) ++ numF (e + ds.length - 1)
 else if e = 0 then ds else decFixed ds e
def decSign (neg : Bool) : List Int := if neg then [45] else []
def decTextF (k : Int) (neg : Bool) (ds : List Int) (e : Int) : List Int :=
 if k = 2 then [78, 97, 78] else if k = 1 then decSign neg ++ [73, 110, 102, 105, 110, 105, 116, 121] else decSign neg ++ decBody ds e
def strLen : Value → Nat
 | .string t => t.size
 | _ => 0
theorem k45 : (⟨#[45]⟩ : ByteArray) = strOfNums [45] := rfl
theorem k46 : (⟨#[46]⟩ : ByteArray) = strOfNums [46] := rfl
theorem k69 : (⟨#[69]⟩ : ByteArray) = strOfNums [69] := rfl
theorem k6943 : (⟨#[69, 43]⟩ : ByteArray) = strOfNums [69, 43] := rfl
theorem k0 : (⟨#[]⟩ : ByteArray) = strOfNums [] := rfl
theorem numF_length {n : Int} (h0 : -100000000 ≤ n) (h1 : n ≤ 100000000) : (numF n).length ≤ 10 := by
 unfold numF
 split
 ·have := digs_length (k := 9) (n := (-n).toNat) (by omega) (by omega)
  simp; omega
 ·have := digs_length (k := 9) (n := n.toNat) (by omega) (by omega)
  omega
theorem DecText_nan_true (s : ByteArray) (ds : List Int) (e : Int) (w : World) : Calls Tryz.prog 58 #[.agg #[.int .i64 2, .bool true, .string s, .int .i64 e]] w fun e' w' => ∃ u, e' = .returned (.string u) ∧ StrIs u (decTextF 2 true ds e) ∧ Below w.heap.size w w' := by
 go_enter Tryz.func58, Tryz.ntmps58
 go_wp2
 go_ret
 exact ⟨_, rfl, ⟨rfl⟩, (Below.refl _ _).alloc (Nat.le_refl _) _⟩
theorem DecText_inf_true (s : ByteArray) (ds : List Int) (e : Int) (w : World) : Calls Tryz.prog 58 #[.agg #[.int .i64 1, .bool true, .string s, .int .i64 e]] w fun e' w' => ∃ u, e' = .returned (.string u) ∧ StrIs u (decTextF 1 true ds e) ∧ Below w.heap.size w w' := by
 go_enter Tryz.func58, Tryz.ntmps58
 go_wp2
 go_ret
 exact ⟨_, rfl, ⟨rfl⟩, (Below.refl _ _).alloc (Nat.le_refl _) _⟩
theorem DecText_exp_true (s : ByteArray) (ds : List Int) (e : Int) (hs : StrIs s ds) (h1 : 1 ≤ ds.length) (h2 : ds.length ≤ 100) (h3 : -100000 ≤ e) (h4 : e ≤ 100000) (w : World) (hc : 0 < e ∨ e + ds.length - 1 < -6) : Calls Tryz.prog 58 #[.agg #[.int .i64 0, .bool true, .string s, .int .i64 e]] w fun e' w' => ∃ u, e' = .returned (.string u) ∧ StrIs u (decTextF 0 true ds e) ∧ Below w.heap.size w w' := by
 have hsz : Hid (s.size = ds.length) := hs.size
 have hsz1 : s.size ≤ 100 := by rw [hsz.out]; exact h2
 have hsz2 : 1 ≤ s.size := by rw [hsz.out]; exact h1
 obtain ⟨F, hF⟩ : ∃ F, F = e + (s.size : Int) - 1 := ⟨_, rfl⟩
 have HF := Lib.hid hF
 have hF1 : -200000 ≤ F ∧ F ≤ 200000 := by omega
 have hF' : e + (s.size : Int) - 1 = F := hF.symm
 have hfin : Hid (decTextF 0 true ds e = decSign true ++ (ds.take 1 ++ (if 1 < ds.length then 46 :: ds.drop 1 else []) ++ (if 0 ≤ F then [69, 43] else [69]) ++ numF F)) := by
  show _ = _
  have hF2 : e + (ds.length : Int) - 1 = F := by rw [← hsz.out]; exact hF'
  unfold decTextF decBody
  rw [hF2] at hc ⊢
  rw [if_neg (by decide), if_neg (by decide), if_pos hc]
 have hcc : (0 < e ∨ (¬ 0 < e ∧ F < -6)) := by
  have := hsz.out
  omega
 clear hF hc
 have hx := hs.extract 0 1
 have hy := hs.extract 1 s.size
 have hxs := hx.le (n := 1) (by simp; omega)
 have hys := hy.le (n := 100) (by simp; omega)
 have hsx : Hid (StrIs (s.extract 0 1) (ds.take 1)) := hx.cast (by simp)
 have hsy : Hid (StrIs (s.extract 1 s.size) (ds.drop 1)) := hy.cast (by rw [List.take_of_length_le]; simp; have := hsz.out; omega)
 clear hx hy
 have HF' := Lib.hid hF'
 have e1 : e + (s.size : Int) = F + 1 := by omega
 clear hF'
 have e2 : F + 1 - 1 = F := by omega
 have hsz3 := Lib.hid hsz1
 have hone2 : Hid ((1 < ds.length) = (1 < s.size)) := by show _ = _; rw [hsz.out]
 rcases hcc with hc | ⟨hc0, hc⟩
 ·have hF0 : 0 ≤ F := by omega
  have HF0 : Hid ((0 ≤ F) = True) := eq_true hF0
  by_cases hone : 1 < s.size
  all_goals
   first | have HN := Lib.hid (eq_false hone) | have HN := Lib.hid (eq_true hone)
   go_enter Tryz.func58, Tryz.ntmps58
   go_wp2_with fail
   refine (decNumber_calls F (by omega) (by omega) _).mono ?_
   rintro e' w1 ⟨u, rfl, hu, hb⟩
   have hus : u.size ≤ 10 := hu.le (numF_length (by omega) (by omega))
   have HB := Lib.hid hb
   clear hb
   go_wp2
   go_ret
   refine ⟨_, rfl, ⟨?_⟩, ((Below.refl _ _).alloc (Nat.le_refl _) _).trans (HB.out.mono (by simp))⟩
   simp only [hfin.out, hone2.out, HN.out, HF0.out, if_true, if_false, hsx.out.out, hsy.out.out, hu.out, k45, k46, k69, k6943, k0, strOfNums_append, decSign, List.append_assoc, List.nil_append, List.append_nil, List.cons_append, Bool.false_eq_true]
 ·have hF0 : ¬ 0 ≤ F := by omega
  have HF0 : Hid ((0 ≤ F) = False) := eq_false hF0
  by_cases hone : 1 < s.size
  all_goals
   first | have HN := Lib.hid (eq_false hone) | have HN := Lib.hid (eq_true hone)
   go_enter Tryz.func58, Tryz.ntmps58
   go_wp2_with fail
   refine (decNumber_calls F (by omega) (by omega) _).mono ?_
   rintro e' w1 ⟨u, rfl, hu, hb⟩
   have hus : u.size ≤ 10 := hu.le (numF_length (by omega) (by omega))
   have HB := Lib.hid hb
   clear hb
   go_wp2
   go_ret
   refine ⟨_, rfl, ⟨?_⟩, ((Below.refl _ _).alloc (Nat.le_refl _) _).trans (HB.out.mono (by simp))⟩
   simp only [hfin.out, hone2.out, HN.out, HF0.out, if_true, if_false, hsx.out.out, hsy.out.out, hu.out, k45, k46, k69, k6943, k0, strOfNums_append, decSign, List.append_assoc, List.nil_append, List.append_nil, List.cons_append, Bool.false_eq_true]
theorem DecText_zero_true (s : ByteArray) (ds : List Int) (hs : StrIs s ds) (h1 : 1 ≤ ds.length) (h2 : ds.length ≤ 100) (w : World) : Calls Tryz.prog 58 #[.agg #[.int .i64 0, .bool true, .string s, .int .i64 0]] w fun e' w' => ∃ u, e' = .returned (.string u) ∧ StrIs u (decTextF 0 true ds 0) ∧ Below w.heap.size w w' := by
 have hsz : Hid (s.size = ds.length) := hs.size
 have hsz1 : s.size ≤ 100 := by rw [hsz.out]; exact h2
 have hsz2 : 1 ≤ s.size := by rw [hsz.out]; exact h1
 have hfin : Hid (decTextF 0 true ds 0 = decSign true ++ ds) := by
  show _ = _
  unfold decTextF decBody
  rw [if_neg (by decide), if_neg (by decide), if_neg (by omega), if_pos rfl]
 have d1 : decide ((s.size : Int) - 1 < -6) = false := decide_eq_false (by omega)
 have HS := Lib.hid hs
 clear hs h1 h2
 go_enter Tryz.func58, Tryz.ntmps58
 go_wp2
 go_ret
 refine ⟨_, rfl, ⟨?_⟩, (Below.refl _ _).alloc (Nat.le_refl _) _⟩
 simp only [hfin.out, HS.out.out, k45, k0, strOfNums_append, decSign, if_true, if_false, Bool.false_eq_true, List.nil_append]
theorem DecText_fix_true (s : ByteArray) (ds : List Int) (e : Int) (hs : StrIs s ds) (h1 : 1 ≤ ds.length) (h2 : ds.length ≤ 100) (h3 : -100000 ≤ e) (h4 : e ≤ 100000) (w : World) (hc : e < 0 ∧ ¬ e + ds.length - 1 < -6) : Calls Tryz.prog 58 #[.agg #[.int .i64 0, .bool true, .string s, .int .i64 e]] w fun e' w' => ∃ u, e' = .returned (.string u) ∧ StrIs u (decTextF 0 true ds e) ∧ Below w.heap.size w w' := by
 have hsz : Hid (s.size = ds.length) := hs.size
 have hsz1 : s.size ≤ 100 := by rw [hsz.out]; exact h2
 have hsz2 : 1 ≤ s.size := by rw [hsz.out]; exact h1
 obtain ⟨M, hM⟩ : ∃ M, M = (-e + 1 - ds.length).toNat := ⟨_, rfl⟩
 have hM6 : M ≤ 6 := by omega
 have hMe : Hid (e < 0 ∧ -6 ≤ e + s.size - 1 ∧ M = (-e + 1 - s.size).toNat) := by rw [hsz.out]; exact ⟨hc.1, by omega, hM⟩
 have hfin : Hid (decTextF 0 true ds e = decSign true ++ ((List.replicate M 48 ++ ds).take ((M + s.size : Nat) + e).toNat ++ 46 :: (List.replicate M 48 ++ ds).drop ((M + s.size : Nat) + e).toNat)) := by
  show _ = _
  unfold decTextF decBody decFixed
  rw [if_neg (by decide), if_neg (by decide), if_neg (by omega), if_neg (by omega), List.length_append, List.length_replicate, ← hM, hsz.out]
 have e0 : e < 0 := hc.1
 have d1 : decide (e + (s.size : Int) - 1 < -6) = false := decide_eq_false (by have := hMe.out; omega)
 have d2 : decide (0 < e) = false := decide_eq_false (by omega)
 have d3 : (e == 0) = false := by rw [beq_eq_false_iff_ne]; omega
 have HS := Lib.hid hs
 clear hs h1 h2 hc hM
 go_enter Tryz.func58, Tryz.ntmps58
 go_wp2
 go_loop [4] (fun s' => ∃ (k : Nat) (t : ByteArray), k ≤ M ∧ s' = .string t ∧ StrIs t (List.replicate k 48 ++ ds)) (fun s' => 200 - strLen s')
 case atStart => exact ⟨0, s, by omega, rfl, HS.out.cast (by simp)⟩
 case round =>
  obtain ⟨k, t, hk, rfl, ht⟩ := hrel
  have hts : t.size = k + s.size := by rw [ht.size, List.length_append, List.length_replicate, hsz.out]
  have hts1 : t.size ≤ 110 := by omega
  have hts2 := Lib.hid hts
  clear hts
  by_cases hlt : k < M
  ·have c1 : decide ((t.size : Int) ≤ -e) = true := decide_eq_true (by have := hMe.out; have := hts2.out; omega)
   have HT := Lib.hid ht
   clear ht
   go_wp2
   go_round
   case rel => exact ⟨k + 1, _, by omega, rfl, (StrIs.append (u := ⟨#[48]⟩) (a := [48]) ⟨rfl⟩ HT.out).cast (by rw [List.replicate_succ]; rfl)⟩
   case measure => show 200 - (ByteArray.mk #[48] ++ t).size < 200 - t.size; rw [ByteArray.size_append]; have h48 : (ByteArray.mk #[48]).size = 1 := rfl; omega
  ·have c1 : decide ((t.size : Int) ≤ -e) = false := decide_eq_false (by have := hMe.out; have := hts2.out; omega)
   have hkM : k = M := by omega
   subst hkM
   have e4 : 0 < (t.size : Int) + e := by have := hMe.out; have := hts2.out; omega
   have e5 : (t.size : Int) + e ≤ t.size := by omega
   have HT := Lib.hid ht
   clear ht
   have hx := HT.out.extract 0 ((t.size : Int) + e).toNat
   have hy := HT.out.extract ((t.size : Int) + e).toNat t.size
   have hxs := hx.le (n := 110) (by simp only [List.length_take, List.length_drop, List.length_append, List.length_replicate]; have := hts2.out; have := hsz.out; omega)
   have hys := hy.le (n := 110) (by simp only [List.length_take, List.length_drop, List.length_append, List.length_replicate]; have := hts2.out; have := hsz.out; omega)
   have HX := Lib.hid hx
   have HY := Lib.hid hy
   clear hx hy
   go_wp2
   go_region
   all_goals go_wp2
   all_goals go_ret
   all_goals
    refine ⟨_, rfl, ⟨?_⟩, ((Below.refl _ _).alloc (Nat.le_refl _) _).drew⟩
    have e7 : ((k + s.size : Nat) : Int) = t.size := by rw [hts2.out]
    have e6 : (List.drop 0 (List.replicate k 48 ++ ds)).take (((t.size : Int) + e).toNat - 0) = (List.replicate k 48 ++ ds).take ((t.size : Int) + e).toNat := by simp
    have e8 : (List.drop ((t.size : Int) + e).toNat (List.replicate k 48 ++ ds)).take (t.size - ((t.size : Int) + e).toNat) = (List.replicate k 48 ++ ds).drop ((t.size : Int) + e).toNat := by
     rw [List.take_of_length_le]
     simp only [List.length_drop, List.length_append, List.length_replicate]; have := hts2.out; have := hsz.out; omega
    have HX' := HX.out.cast e6
    have HY' := HY.out.cast e8
    rw [e7] at hfin
    simp only [hfin.out, HX'.out, HY'.out, k45, k46, k0, strOfNums_append, decSign, if_true, if_false, Bool.false_eq_true, List.nil_append, List.append_assoc, List.cons_append]
theorem DecText_nan_false (s : ByteArray) (ds : List Int) (e : Int) (w : World) : Calls Tryz.prog 58 #[.agg #[.int .i64 2, .bool false, .string s, .int .i64 e]] w fun e' w' => ∃ u, e' = .returned (.string u) ∧ StrIs u (decTextF 2 false ds e) ∧ Below w.heap.size w w' := by
 go_enter Tryz.func58, Tryz.ntmps58
 go_wp2
 go_ret
 exact ⟨_, rfl, ⟨rfl⟩, (Below.refl _ _).alloc (Nat.le_refl _) _⟩
theorem DecText_inf_false (s : ByteArray) (ds : List Int) (e : Int) (w : World) : Calls Tryz.prog 58 #[.agg #[.int .i64 1, .bool false, .string s, .int .i64 e]] w fun e' w' => ∃ u, e' = .returned (.string u) ∧ StrIs u (decTextF 1 false ds e) ∧ Below w.heap.size w w' := by
 go_enter Tryz.func58, Tryz.ntmps58
 go_wp2
 go_ret
 exact ⟨_, rfl, ⟨rfl⟩, (Below.refl _ _).alloc (Nat.le_refl _) _⟩
theorem DecText_exp_false (s : ByteArray) (ds : List Int) (e : Int) (hs : StrIs s ds) (h1 : 1 ≤ ds.length) (h2 : ds.length ≤ 100) (h3 : -100000 ≤ e) (h4 : e ≤ 100000) (w : World) (hc : 0 < e ∨ e + ds.length - 1 < -6) : Calls Tryz.prog 58 #[.agg #[.int .i64 0, .bool false, .string s, .int .i64 e]] w fun e' w' => ∃ u, e' = .returned (.string u) ∧ StrIs u (decTextF 0 false ds e) ∧ Below w.heap.size w w' := by
 have hsz : Hid (s.size = ds.length) := hs.size
 have hsz1 : s.size ≤ 100 := by rw [hsz.out]; exact h2
 have hsz2 : 1 ≤ s.size := by rw [hsz.out]; exact h1
 obtain ⟨F, hF⟩ : ∃ F, F = e + (s.size : Int) - 1 := ⟨_, rfl⟩
 have HF := Lib.hid hF
 have hF1 : -200000 ≤ F ∧ F ≤ 200000 := by omega
 have hF' : e + (s.size : Int) - 1 = F := hF.symm
 have hfin : Hid (decTextF 0 false ds e = decSign false ++ (ds.take 1 ++ (if 1 < ds.length then 46 :: ds.drop 1 else []) ++ (if 0 ≤ F then [69, 43] else [69]) ++ numF F)) := by
  show _ = _
  have hF2 : e + (ds.length : Int) - 1 = F := by rw [← hsz.out]; exact hF'
  unfold decTextF decBody
  rw [hF2] at hc ⊢
  rw [if_neg (by decide), if_neg (by decide), if_pos hc]
 have hcc : (0 < e ∨ (¬ 0 < e ∧ F < -6)) := by
  have := hsz.out
  omega
 clear hF hc
 have hx := hs.extract 0 1
 have hy := hs.extract 1 s.size
 have hxs := hx.le (n := 1) (by simp; omega)
 have hys := hy.le (n := 100) (by simp; omega)
 have hsx : Hid (StrIs (s.extract 0 1) (ds.take 1)) := hx.cast (by simp)
 have hsy : Hid (StrIs (s.extract 1 s.size) (ds.drop 1)) := hy.cast (by rw [List.take_of_length_le]; simp; have := hsz.out; omega)
 clear hx hy
 have HF' := Lib.hid hF'
 have e1 : e + (s.size : Int) = F + 1 := by omega
 clear hF'
 have e2 : F + 1 - 1 = F := by omega
 have hsz3 := Lib.hid hsz1
 have hone2 : Hid ((1 < ds.length) = (1 < s.size)) := by show _ = _; rw [hsz.out]
 rcases hcc with hc | ⟨hc0, hc⟩
 ·have hF0 : 0 ≤ F := by omega
  have HF0 : Hid ((0 ≤ F) = True) := eq_true hF0
  by_cases hone : 1 < s.size
  all_goals
   first | have HN := Lib.hid (eq_false hone) | have HN := Lib.hid (eq_true hone)
   go_enter Tryz.func58, Tryz.ntmps58
   go_wp2_with fail
   refine (decNumber_calls F (by omega) (by omega) _).mono ?_
   rintro e' w1 ⟨u, rfl, hu, hb⟩
   have hus : u.size ≤ 10 := hu.le (numF_length (by omega) (by omega))
   have HB := Lib.hid hb
   clear hb
   go_wp2
   go_ret
   refine ⟨_, rfl, ⟨?_⟩, ((Below.refl _ _).alloc (Nat.le_refl _) _).trans (HB.out.mono (by simp))⟩
   simp only [hfin.out, hone2.out, HN.out, HF0.out, if_true, if_false, hsx.out.out, hsy.out.out, hu.out, k45, k46, k69, k6943, k0, strOfNums_append, decSign, List.append_assoc, List.nil_append, List.append_nil, List.cons_append, Bool.false_eq_true]
 ·have hF0 : ¬ 0 ≤ F := by omega
  have HF0 : Hid ((0 ≤ F) = False) := eq_false hF0
  by_cases hone : 1 < s.size
  all_goals
   first | have HN := Lib.hid (eq_false hone) | have HN := Lib.hid (eq_true hone)
   go_enter Tryz.func58, Tryz.ntmps58
   go_wp2_with fail
   refine (decNumber_calls F (by omega) (by omega) _).mono ?_
   rintro e' w1 ⟨u, rfl, hu, hb⟩
   have hus : u.size ≤ 10 := hu.le (numF_length (by omega) (by omega))
   have HB := Lib.hid hb
   clear hb
   go_wp2
   go_ret
   refine ⟨_, rfl, ⟨?_⟩, ((Below.refl _ _).alloc (Nat.le_refl _) _).trans (HB.out.mono (by simp))⟩
   simp only [hfin.out, hone2.out, HN.out, HF0.out, if_true, if_false, hsx.out.out, hsy.out.out, hu.out, k45, k46, k69, k6943, k0, strOfNums_append, decSign, List.append_assoc, List.nil_append, List.append_nil, List.cons_append, Bool.false_eq_true]
theorem DecText_zero_false (s : ByteArray) (ds : List Int) (hs : StrIs s ds) (h1 : 1 ≤ ds.length) (h2 : ds.length ≤ 100) (w : World) : Calls Tryz.prog 58 #[.agg #[.int .i64 0, .bool false, .string s, .int .i64 0]] w fun e' w' => ∃ u, e' = .returned (.string u) ∧ StrIs u (decTextF 0 false ds 0) ∧ Below w.heap.size w w' := by
 have hsz : Hid (s.size = ds.length) := hs.size
 have hsz1 : s.size ≤ 100 := by rw [hsz.out]; exact h2
 have hsz2 : 1 ≤ s.size := by rw [hsz.out]; exact h1
 have hfin : Hid (decTextF 0 false ds 0 = decSign false ++ ds) := by
  show _ = _
  unfold decTextF decBody
  rw [if_neg (by decide), if_neg (by decide), if_neg (by omega), if_pos rfl]
 have d1 : decide ((s.size : Int) - 1 < -6) = false := decide_eq_false (by omega)
 have HS := Lib.hid hs
 clear hs h1 h2
 go_enter Tryz.func58, Tryz.ntmps58
 go_wp2
 go_ret
 refine ⟨_, rfl, ⟨?_⟩, (Below.refl _ _).alloc (Nat.le_refl _) _⟩
 simp only [hfin.out, HS.out.out, k45, k0, strOfNums_append, decSign, if_true, if_false, Bool.false_eq_true, List.nil_append]
theorem DecText_fix_false (s : ByteArray) (ds : List Int) (e : Int) (hs : StrIs s ds) (h1 : 1 ≤ ds.length) (h2 : ds.length ≤ 100) (h3 : -100000 ≤ e) (h4 : e ≤ 100000) (w : World) (hc : e < 0 ∧ ¬ e + ds.length - 1 < -6) : Calls Tryz.prog 58 #[.agg #[.int .i64 0, .bool false, .string s, .int .i64 e]] w fun e' w' => ∃ u, e' = .returned (.string u) ∧ StrIs u (decTextF 0 false ds e) ∧ Below w.heap.size w w' := by
 have hsz : Hid (s.size = ds.length) := hs.size
 have hsz1 : s.size ≤ 100 := by rw [hsz.out]; exact h2
 have hsz2 : 1 ≤ s.size := by rw [hsz.out]; exact h1
 obtain ⟨M, hM⟩ : ∃ M, M = (-e + 1 - ds.length).toNat := ⟨_, rfl⟩
 have hM6 : M ≤ 6 := by omega
 have hMe : Hid (e < 0 ∧ -6 ≤ e + s.size - 1 ∧ M = (-e + 1 - s.size).toNat) := by rw [hsz.out]; exact ⟨hc.1, by omega, hM⟩
 have hfin : Hid (decTextF 0 false ds e = decSign false ++ ((List.replicate M 48 ++ ds).take ((M + s.size : Nat) + e).toNat ++ 46 :: (List.replicate M 48 ++ ds).drop ((M + s.size : Nat) + e).toNat)) := by
  show _ = _
  unfold decTextF decBody decFixed
  rw [if_neg (by decide), if_neg (by decide), if_neg (by omega), if_neg (by omega), List.length_append, List.length_replicate, ← hM, hsz.out]
 have e0 : e < 0 := hc.1
 have d1 : decide (e + (s.size : Int) - 1 < -6) = false := decide_eq_false (by have := hMe.out; omega)
 have d2 : decide (0 < e) = false := decide_eq_false (by omega)
 have d3 : (e == 0) = false := by rw [beq_eq_false_iff_ne]; omega
 have HS := Lib.hid hs
 clear hs h1 h2 hc hM
 go_enter Tryz.func58, Tryz.ntmps58
 go_wp2
 go_loop [4] (fun s' => ∃ (k : Nat) (t : ByteArray), k ≤ M ∧ s' = .string t ∧ StrIs t (List.replicate k 48 ++ ds)) (fun s' => 200 - strLen s')
 case atStart => exact ⟨0, s, by omega, rfl, HS.out.cast (by simp)⟩
 case round =>
  obtain ⟨k, t, hk, rfl, ht⟩ := hrel
  have hts : t.size = k + s.size := by rw [ht.size, List.length_append, List.length_replicate, hsz.out]
  have hts1 : t.size ≤ 110 := by omega
  have hts2 := Lib.hid hts
  clear hts
  by_cases hlt : k < M
  ·have c1 : decide ((t.size : Int) ≤ -e) = true := decide_eq_true (by have := hMe.out; have := hts2.out; omega)
   have HT := Lib.hid ht
   clear ht
   go_wp2
   go_round
   case rel => exact ⟨k + 1, _, by omega, rfl, (StrIs.append (u := ⟨#[48]⟩) (a := [48]) ⟨rfl⟩ HT.out).cast (by rw [List.replicate_succ]; rfl)⟩
   case measure => show 200 - (ByteArray.mk #[48] ++ t).size < 200 - t.size; rw [ByteArray.size_append]; have h48 : (ByteArray.mk #[48]).size = 1 := rfl; omega
  ·have c1 : decide ((t.size : Int) ≤ -e) = false := decide_eq_false (by have := hMe.out; have := hts2.out; omega)
   have hkM : k = M := by omega
   subst hkM
   have e4 : 0 < (t.size : Int) + e := by have := hMe.out; have := hts2.out; omega
   have e5 : (t.size : Int) + e ≤ t.size := by omega
   have HT := Lib.hid ht
   clear ht
   have hx := HT.out.extract 0 ((t.size : Int) + e).toNat
   have hy := HT.out.extract ((t.size : Int) + e).toNat t.size
   have hxs := hx.le (n := 110) (by simp only [List.length_take, List.length_drop, List.length_append, List.length_replicate]; have := hts2.out; have := hsz.out; omega)
   have hys := hy.le (n := 110) (by simp only [List.length_take, List.length_drop, List.length_append, List.length_replicate]; have := hts2.out; have := hsz.out; omega)
   have HX := Lib.hid hx
   have HY := Lib.hid hy
   clear hx hy
   go_wp2
   go_region
   all_goals go_wp2
   all_goals go_ret
   all_goals
    refine ⟨_, rfl, ⟨?_⟩, ((Below.refl _ _).alloc (Nat.le_refl _) _).drew⟩
    have e7 : ((k + s.size : Nat) : Int) = t.size := by rw [hts2.out]
    have e6 : (List.drop 0 (List.replicate k 48 ++ ds)).take (((t.size : Int) + e).toNat - 0) = (List.replicate k 48 ++ ds).take ((t.size : Int) + e).toNat := by simp
    have e8 : (List.drop ((t.size : Int) + e).toNat (List.replicate k 48 ++ ds)).take (t.size - ((t.size : Int) + e).toNat) = (List.replicate k 48 ++ ds).drop ((t.size : Int) + e).toNat := by
     rw [List.take_of_length_le]
     simp only [List.length_drop, List.length_append, List.length_replicate]; have := hts2.out; have := hsz.out; omega
    have HX' := HX.out.cast e6
    have HY' := HY.out.cast e8
    rw [e7] at hfin
    simp only [hfin.out, HX'.out, HY'.out, k45, k46, k0, strOfNums_append, decSign, if_true, if_false, Bool.false_eq_true, List.nil_append, List.append_assoc, List.cons_append]
theorem DecText_calls (k : Int) (neg : Bool) (s : ByteArray) (ds : List Int) (e : Int) (hk : 0 ≤ k ∧ k ≤ 2) (hs : k = 0 → StrIs s ds) (h1 : k = 0 → 1 ≤ ds.length) (h2 : k = 0 → ds.length ≤ 100) (h3 : -100000 ≤ e) (h4 : e ≤ 100000) (w : World) :
  Calls Tryz.prog 58 #[.agg #[.int .i64 k, .bool neg, .string s, .int .i64 e]] w fun e' w' => ∃ u, e' = .returned (.string u) ∧ StrIs u (decTextF k neg ds e) ∧ Below w.heap.size w w' := by
 rcases (by omega : k = 0 ∨ k = 1 ∨ k = 2) with rfl | rfl | rfl
 ·have hs := hs rfl
  have h1 := h1 rfl
  have h2 := h2 rfl
  by_cases hc : 0 < e ∨ e + ds.length - 1 < -6
  ·cases neg
   ·exact DecText_exp_false s ds e hs h1 h2 h3 h4 w hc
   ·exact DecText_exp_true s ds e hs h1 h2 h3 h4 w hc
  ·by_cases hz : e = 0
   ·subst hz
    cases neg
    ·exact DecText_zero_false s ds hs h1 h2 w
    ·exact DecText_zero_true s ds hs h1 h2 w
   ·cases neg
    ·exact DecText_fix_false s ds e hs h1 h2 h3 h4 w (by omega)
    ·exact DecText_fix_true s ds e hs h1 h2 h3 h4 w (by omega)
 ·have : decTextF 1 neg ds e = decTextF 1 neg [] 0 := rfl
  cases neg
  ·exact DecText_inf_false s ds e w
  ·exact DecText_inf_true s ds e w
 ·cases neg
  ·exact DecText_nan_false s ds e w
  ·exact DecText_nan_true s ds e w
theorem frombits_run (n : Int) (W : World) : (callFunc 41 #[.int .u64 n]).run Tryz.prog W = .ok (.value (.float .f64 n.toNat)) W := by
 rw [run_callFunc_extern (e := Extern.MathFloatBits.float64frombits) (show Tryz.prog.funcs[41]? = some Tryz.f41 by kernel_rfl) (by kernel_rfl) (by kernel_rfl) (by kernel_rfl) (by kernel_rfl)]
 rfl
theorem bits_run (n : Nat) (W : World) : (callFunc 42 #[.float .f64 n]).run Tryz.prog W = .ok (.value (.int .u64 n)) W := by
 rw [run_callFunc_extern (e := Extern.MathFloatBits.float64bits) (show Tryz.prog.funcs[42]? = some Tryz.f42 by kernel_rfl) (by kernel_rfl) (by kernel_rfl) (by kernel_rfl) (by kernel_rfl)]
 rfl
theorem sbits_run (n : Nat) (W : World) : (callFunc 184 #[.float .f64 n]).run Tryz.prog W = .ok (.value (.int .u64 n)) W := by
 rw [run_callFunc_extern (e := Extern.MathFloatBits.float64bits) (show Tryz.prog.funcs[184]? = some Tryz.f184 by kernel_rfl) (by kernel_rfl) (by kernel_rfl) (by kernel_rfl) (by kernel_rfl)]
 rfl
theorem NaN_calls (w : World) : Calls Tryz.prog 43 #[] w fun e w' => e = .returned (.float .f64 9221120237041090561) ∧ w' = w := by
 have h1 := frombits_run 9221120237041090561
 go_enter Tryz.func43, Tryz.ntmps43
 go_wp2
 go_ret
 exact ⟨rfl, rfl⟩
def isNaNF (n : Nat) : Bool := FloatKind.f64.format.order n n != some Ordering.eq
theorem IsNaN_calls (n : Nat) (w : World) : Calls Tryz.prog 50 #[.float .f64 n] w fun e w' => e = .returned (.bool (isNaNF n)) ∧ w' = w := by
 go_enter Tryz.func50, Tryz.ntmps50
 go_wp2
 go_ret
 exact ⟨rfl, rfl⟩
theorem IsInf_up (n : Nat) : ∃ b, ∀ w, Calls Tryz.prog 51 #[.float .f64 n, .int .i64 1] w fun e w' => e = .returned (.bool b) ∧ w' = w := by
 apply Exists.intro
 intro w
 go_enter Tryz.func51, Tryz.ntmps51
 go_wp2
 go_ret
 exact ⟨rfl, rfl⟩
theorem IsInf_down (n : Nat) : ∃ b, ∀ w, Calls Tryz.prog 51 #[.float .f64 n, .int .i64 (-1)] w fun e w' => e = .returned (.bool b) ∧ w' = w := by
 obtain ⟨M, hn⟩ : ∃ M : Nat, ∀ W, Sem.run Tryz.prog (Op.unary UnOp.neg (Value.float FloatKind.f64 n)) W = .ok (.float .f64 M) W := ⟨_, fun W => rfl⟩
 apply Exists.intro
 intro w
 go_enter Tryz.func51, Tryz.ntmps51
 go_wp2
 go_ret
 exact ⟨rfl, rfl⟩
def absF (n : Nat) : Nat := (bits .andNot .u64 n 9223372036854775808).toNat
theorem Abs_calls (n : Nat) (w : World) : Calls Tryz.prog 102 #[.float .f64 n] w fun e w' => e = .returned (.float .f64 (absF n)) ∧ w' = w := by
 have h1 := fun m : Int => frombits_run m
 have h2 := bits_run n
 go_enter Tryz.func102, Tryz.ntmps102
 go_wp2
 go_ret
 exact ⟨rfl, rfl⟩
theorem IsInf_any (n : Nat) : ∃ b, ∀ w, Calls Tryz.prog 51 #[.float .f64 n, .int .i64 0] w fun e w' => e = .returned (.bool b) ∧ w' = w := by
 have h1 := fun m : Int => frombits_run m
 have h2 := bits_run n
 apply Exists.intro
 intro w
 go_enter Tryz.func51, Tryz.ntmps51
 go_wp2_with fail
 refine (Abs_calls n _).mono ?_
 rintro e w1 ⟨rfl, rfl⟩
 go_wp2
 go_ret
 exact ⟨rfl, rfl⟩
theorem docBare_calls (k : Int) (text more : ByteArray) (n bits high : Int) (A : Option Addr) (m c : Nat) (D : Option Addr) (p q : Nat) (w : World) :
  Calls Tryz.prog 98 #[.agg #[.int .i64 k, .string text, .string more, .int .i64 n, .int .u64 bits, .int .u64 high, .slice A m c, .slice D p q]] w fun e w' => ∃ t' m' n' b' h' A' x y D' z u, e = .returned (.agg #[.int .i64 k, .string t', .string m', .int .i64 n', .int .u64 b', .int .u64 h', .slice A' x y, .slice D' z u]) ∧ Below w.heap.size w w' := by
 by_cases k1 : k = 1
 ·subst k1
  go_enter Tryz.func98, Tryz.ntmps98
  go_wp2
  exact bodyPost_ret (v := .agg #[.int .i64 1, .string text, .string more, .int .i64 n, .int .u64 0, .int .u64 high, .slice A m c, .slice D p q]) (by simp [results, Tryz.results98, go_sem]) rfl ⟨text, more, n, 0, high, A, m, c, D, p, q, rfl, ((Below.refl _ _).alloc (Nat.le_refl _) _).alloc (by simp) _⟩
 have c1 : (k == 1) = false := by rw [beq_eq_false_iff_ne]; exact k1
 clear k1
 by_cases k17 : k = 17
 ·subst k17
  go_enter Tryz.func98, Tryz.ntmps98
  go_wp2
  exact bodyPost_ret (v := .agg #[.int .i64 17, .string text, .string more, .int .i64 n, .int .u64 0, .int .u64 high, .slice A m c, .slice D p q]) (by simp [results, Tryz.results98, go_sem]) rfl ⟨text, more, n, 0, high, A, m, c, D, p, q, rfl, ((Below.refl _ _).alloc (Nat.le_refl _) _).alloc (by simp) _⟩
 have c17 : (k == 17) = false := by rw [beq_eq_false_iff_ne]; exact k17
 clear k17
 by_cases k2 : k = 2
 ·subst k2
  go_enter Tryz.func98, Tryz.ntmps98
  go_wp2
  exact bodyPost_ret (v := .agg #[.int .i64 2, .string ⟨#[]⟩, .string more, .int .i64 n, .int .u64 bits, .int .u64 high, .slice A m c, .slice D p q]) (by simp [results, Tryz.results98, go_sem]) rfl ⟨⟨#[]⟩, more, n, bits, high, A, m, c, D, p, q, rfl, ((Below.refl _ _).alloc (Nat.le_refl _) _).alloc (by simp) _⟩
 have c2 : (k == 2) = false := by rw [beq_eq_false_iff_ne]; exact k2
 clear k2
 by_cases k13 : k = 13
 ·subst k13
  go_enter Tryz.func98, Tryz.ntmps98
  go_wp2
  exact bodyPost_ret (v := .agg #[.int .i64 13, .string ⟨#[]⟩, .string more, .int .i64 n, .int .u64 bits, .int .u64 high, .slice A m c, .slice D p q]) (by simp [results, Tryz.results98, go_sem]) rfl ⟨⟨#[]⟩, more, n, bits, high, A, m, c, D, p, q, rfl, ((Below.refl _ _).alloc (Nat.le_refl _) _).alloc (by simp) _⟩
 have c13 : (k == 13) = false := by rw [beq_eq_false_iff_ne]; exact k13
 clear k13
 by_cases k14 : k = 14
 ·subst k14
  go_enter Tryz.func98, Tryz.ntmps98
  go_wp2
  exact bodyPost_ret (v := .agg #[.int .i64 14, .string ⟨#[]⟩, .string more, .int .i64 n, .int .u64 bits, .int .u64 high, .slice A m c, .slice D p q]) (by simp [results, Tryz.results98, go_sem]) rfl ⟨⟨#[]⟩, more, n, bits, high, A, m, c, D, p, q, rfl, ((Below.refl _ _).alloc (Nat.le_refl _) _).alloc (by simp) _⟩
 have c14 : (k == 14) = false := by rw [beq_eq_false_iff_ne]; exact k14
 clear k14
 by_cases k3 : k = 3
 ·subst k3
  go_enter Tryz.func98, Tryz.ntmps98
  go_wp2
  exact bodyPost_ret (v := .agg #[.int .i64 3, .string text, .string more, .int .i64 n, .int .u64 bits, .int .u64 high, .slice A m c, .slice none 0 0]) (by simp [results, Tryz.results98, go_sem]) rfl ⟨text, more, n, bits, high, A, m, c, none, 0, 0, rfl, ((Below.refl _ _).alloc (Nat.le_refl _) _).alloc (by simp) _⟩
 have c3 : (k == 3) = false := by rw [beq_eq_false_iff_ne]; exact k3
 clear k3
 by_cases k4 : k = 4
 ·subst k4
  go_enter Tryz.func98, Tryz.ntmps98
  go_wp2
  exact bodyPost_ret (v := .agg #[.int .i64 4, .string text, .string more, .int .i64 n, .int .u64 bits, .int .u64 high, .slice A m c, .slice none 0 0]) (by simp [results, Tryz.results98, go_sem]) rfl ⟨text, more, n, bits, high, A, m, c, none, 0, 0, rfl, ((Below.refl _ _).alloc (Nat.le_refl _) _).alloc (by simp) _⟩
 have c4 : (k == 4) = false := by rw [beq_eq_false_iff_ne]; exact k4
 clear k4
 by_cases k5 : k = 5
 ·subst k5
  go_enter Tryz.func98, Tryz.ntmps98
  go_wp2
  exact bodyPost_ret (v := .agg #[.int .i64 5, .string text, .string more, .int .i64 0, .int .u64 bits, .int .u64 high, .slice none 0 0, .slice D p q]) (by simp [results, Tryz.results98, go_sem]) rfl ⟨text, more, 0, bits, high, none, 0, 0, D, p, q, rfl, ((Below.refl _ _).alloc (Nat.le_refl _) _).alloc (by simp) _⟩
 have c5 : (k == 5) = false := by rw [beq_eq_false_iff_ne]; exact k5
 clear k5
 by_cases k7 : k = 7
 ·subst k7
  go_enter Tryz.func98, Tryz.ntmps98
  go_wp2
  exact bodyPost_ret (v := .agg #[.int .i64 7, .string text, .string more, .int .i64 n, .int .u64 bits, .int .u64 high, .slice none 0 0, .slice D p q]) (by simp [results, Tryz.results98, go_sem]) rfl ⟨text, more, n, bits, high, none, 0, 0, D, p, q, rfl, ((Below.refl _ _).alloc (Nat.le_refl _) _).alloc (by simp) _⟩
 have c7 : (k == 7) = false := by rw [beq_eq_false_iff_ne]; exact k7
 clear k7
 by_cases k8 : k = 8
 ·subst k8
  go_enter Tryz.func98, Tryz.ntmps98
  go_wp2
  exact bodyPost_ret (v := .agg #[.int .i64 8, .string text, .string more, .int .i64 0, .int .u64 bits, .int .u64 high, .slice A m c, .slice D p q]) (by simp [results, Tryz.results98, go_sem]) rfl ⟨text, more, 0, bits, high, A, m, c, D, p, q, rfl, ((Below.refl _ _).alloc (Nat.le_refl _) _).alloc (by simp) _⟩
 have c8 : (k == 8) = false := by rw [beq_eq_false_iff_ne]; exact k8
 clear k8
 by_cases k9 : k = 9
 ·subst k9
  go_enter Tryz.func98, Tryz.ntmps98
  go_wp2
  exact bodyPost_ret (v := .agg #[.int .i64 9, .string text, .string more, .int .i64 0, .int .u64 bits, .int .u64 high, .slice A m c, .slice D p q]) (by simp [results, Tryz.results98, go_sem]) rfl ⟨text, more, 0, bits, high, A, m, c, D, p, q, rfl, ((Below.refl _ _).alloc (Nat.le_refl _) _).alloc (by simp) _⟩
 have c9 : (k == 9) = false := by rw [beq_eq_false_iff_ne]; exact k9
 clear k9
 by_cases k16 : k = 16
 ·subst k16
  go_enter Tryz.func98, Tryz.ntmps98
  go_wp2
  exact bodyPost_ret (v := .agg #[.int .i64 16, .string text, .string more, .int .i64 0, .int .u64 bits, .int .u64 high, .slice A m c, .slice D p q]) (by simp [results, Tryz.results98, go_sem]) rfl ⟨text, more, 0, bits, high, A, m, c, D, p, q, rfl, ((Below.refl _ _).alloc (Nat.le_refl _) _).alloc (by simp) _⟩
 have c16 : (k == 16) = false := by rw [beq_eq_false_iff_ne]; exact k16
 clear k16
 by_cases k18 : k = 18
 ·subst k18
  go_enter Tryz.func98, Tryz.ntmps98
  go_wp2
  exact bodyPost_ret (v := .agg #[.int .i64 18, .string text, .string more, .int .i64 0, .int .u64 bits, .int .u64 high, .slice A m c, .slice D p q]) (by simp [results, Tryz.results98, go_sem]) rfl ⟨text, more, 0, bits, high, A, m, c, D, p, q, rfl, ((Below.refl _ _).alloc (Nat.le_refl _) _).alloc (by simp) _⟩
 have c18 : (k == 18) = false := by rw [beq_eq_false_iff_ne]; exact k18
 clear k18
 by_cases k11 : k = 11
 ·subst k11
  go_enter Tryz.func98, Tryz.ntmps98
  go_wp2
  exact bodyPost_ret (v := .agg #[.int .i64 11, .string ⟨#[]⟩, .string ⟨#[]⟩, .int .i64 n, .int .u64 bits, .int .u64 high, .slice A m c, .slice D p q]) (by simp [results, Tryz.results98, go_sem]) rfl ⟨⟨#[]⟩, ⟨#[]⟩, n, bits, high, A, m, c, D, p, q, rfl, ((Below.refl _ _).alloc (Nat.le_refl _) _).alloc (by simp) _⟩
 have c11 : (k == 11) = false := by rw [beq_eq_false_iff_ne]; exact k11
 clear k11
 by_cases k12 : k = 12
 ·subst k12
  go_enter Tryz.func98, Tryz.ntmps98
  go_wp2
  exact bodyPost_ret (v := .agg #[.int .i64 12, .string ⟨#[]⟩, .string more, .int .i64 n, .int .u64 bits, .int .u64 high, .slice none 0 0, .slice D p q]) (by simp [results, Tryz.results98, go_sem]) rfl ⟨⟨#[]⟩, more, n, bits, high, none, 0, 0, D, p, q, rfl, ((Below.refl _ _).alloc (Nat.le_refl _) _).alloc (by simp) _⟩
 have c12 : (k == 12) = false := by rw [beq_eq_false_iff_ne]; exact k12
 clear k12
 by_cases k15 : k = 15
 ·subst k15
  go_enter Tryz.func98, Tryz.ntmps98
  go_wp2
  exact bodyPost_ret (v := .agg #[.int .i64 15, .string ⟨#[]⟩, .string more, .int .i64 n, .int .u64 bits, .int .u64 high, .slice A m c, .slice none 0 0]) (by simp [results, Tryz.results98, go_sem]) rfl ⟨⟨#[]⟩, more, n, bits, high, A, m, c, none, 0, 0, rfl, ((Below.refl _ _).alloc (Nat.le_refl _) _).alloc (by simp) _⟩
 have c15 : (k == 15) = false := by rw [beq_eq_false_iff_ne]; exact k15
 clear k15
 by_cases k19 : k = 19
 ·subst k19
  go_enter Tryz.func98, Tryz.ntmps98
  go_wp2
  exact bodyPost_ret (v := .agg #[.int .i64 19, .string text, .string more, .int .i64 n, .int .u64 0, .int .u64 0, .slice A m c, .slice D p q]) (by simp [results, Tryz.results98, go_sem]) rfl ⟨text, more, n, 0, 0, A, m, c, D, p, q, rfl, ((Below.refl _ _).alloc (Nat.le_refl _) _).alloc (by simp) _⟩
 have c19 : (k == 19) = false := by rw [beq_eq_false_iff_ne]; exact k19
 clear k19
 go_enter Tryz.func98, Tryz.ntmps98
 go_wp2
 exact bodyPost_ret (v := .agg #[.int .i64 k, .string text, .string more, .int .i64 n, .int .u64 bits, .int .u64 high, .slice A m c, .slice D p q]) (by simp [results, Tryz.results98, go_sem]) rfl ⟨text, more, n, bits, high, A, m, c, D, p, q, rfl, ((Below.refl _ _).alloc (Nat.le_refl _) _).alloc (by simp) _⟩
theorem extSorted_exact (s : ByteArray) (hs : s.size ≤ 65536) (hr : ∀ k, 0 < k → k < s.size → rd (bytesOf s) ((k - 1 : Nat) : Int) ≤ rd (bytesOf s) (k : Int)) (w : World) :
  Calls Tryz.prog 56 #[.string s] w fun e w' => ∃ u, e = .returned (.string u) ∧ StrIs u (bytesOf s) ∧ Below w.heap.size w w' := by
 have HR := Lib.hid hr
 clear hr
 have kb := fun W => print_bytes (P := Tryz.prog) 9 23 5 Tryz.underlying9 Tryz.underlying23 Tryz.underlying5 s W
 go_enter Tryz.func56, Tryz.ntmps56
 go_wp2_with fail
 generalize hcap : grownCap w s.size 0 5 = cap
 go_loopw [4, 5, 10] (fun a b i wr => ∃ k : Nat, i = .int .i64 k ∧ k ≤ s.size ∧ ReadsInt wr .u8 (some ⟨w.heap.size, 0, none⟩) s.size (bytesOf s) ∧ Below w.heap.size w wr) (fun _ _ i _ => s.size - (intOf i).toNat)
 case atStart => exact ⟨0, rfl, by omega, bytes_reads w _ s (by omega), bytes_below (Below.refl _ _) (Nat.le_refl _) _ _⟩
 case round =>
  obtain ⟨k, rfl, hk, hR, hb⟩ := hrel
  have HB := Lib.hid hb
  clear hb
  by_cases hlt : k < s.size
  ·have cell : ∀ j, j < s.size → wr.cell? ⟨w.heap.size, j, none⟩ = some (.int .u8 (rd (bytesOf s) (j : Int))) := by
    intro j hj
    obtain ⟨ad, e, hc⟩ := hR.at_ j (by omega) (by omega)
    injection e with e
    subst e
    rw [Int.toNat_natCast, add_plain] at hc
    exact hc
   have HRR := Lib.hid hR
   clear hR
   by_cases hz : k = 0
   ·subst hz
    go_wp2
    refine wp_loop_rounds 1 ?_
    rw [rounds_succ]
    go_wp2
    go_quiet (fail)
    go_wp2
    go_roundw
    case rel => exact ⟨1, by go_num, by omega, HRR.out, pw_below_drewN HB.out nq⟩
    case measure => simp [intOf]; omega
   ·obtain ⟨k, rfl⟩ : ∃ m, k = m + 1 := ⟨k - 1, by omega⟩
    have cA := cell (k + 1) hlt
    have cB := cell k (by omega)
    have hle := HR.out (k + 1) (by omega) hlt
    rw [Nat.add_sub_cancel] at hle
    clear cell
    generalize rd (bytesOf s) ((k + 1 : Nat) : Int) = ya at cA hle
    generalize rd (bytesOf s) (k : Int) = yb at cB hle
    have d1 : decide (ya < yb) = false := decide_eq_false (by omega)
    go_wp2
    refine wp_loop_rounds 1 ?_
    rw [rounds_succ]
    go_wp2
    go_quiet (fail)
    go_wp2
    go_roundw
    case rel => exact ⟨k + 2, by go_num, by omega, HRR.out, pw_below_drewN HB.out nq⟩
    case measure => simp [intOf]; omega
  ·have kc := fun (A : Option Addr) (c : Nat) (h : ReadsInt wr .u8 A s.size (bytesOf s)) => string_of_reads (c := c) Tryz.underlying23 Tryz.underlying5 Tryz.underlying9 h
   have kc1 := kc _ cap hR
   clear kc
   go_wp2
   go_ret
   exact ⟨_, rfl, .of _, HB.out⟩
def leI : Nat → Int → List Int
 | 0, _ => []
 | k + 1, n => n % 256 :: leI k (n / 256)
theorem leI_length : ∀ (k : Nat) (n : Int), (leI k n).length = k
 | 0, _ => rfl
 | k + 1, n => by simp [leI, leI_length k]
def txtB (s : ByteArray) : List Int := leI 4 (s.size + 1) ++ (bytesOf s ++ [0])
def docOf (body : List Int) : List Int := leI 4 (body.length + 5) ++ (body ++ [0])
def headB (k : Int) (name : ByteArray) : List Int := k % 256 :: (bytesOf name ++ [0])
def leafB (t : VT) : List Int :=
 if t.kind = 1 ∨ t.kind = 17 then leI 8 t.bits
 else if t.kind = 2 ∨ t.kind = 13 ∨ t.kind = 14 then txtB t.text
 else if t.kind = 5 then (if t.n = 2 then leI 4 (t.bs.length + 4) ++ 2 :: leI 4 t.bs.length else leI 4 t.bs.length ++ [t.n % 256]) ++ t.bs
 else if t.kind = 7 then t.bs
 else if t.kind = 8 then [t.n % 256]
 else if t.kind = 9 ∨ t.kind = 18 then leI 8 t.n
 else if t.kind = 16 then leI 4 t.n
 else if t.kind = 11 then bytesOf t.text ++ 0 :: (bytesOf t.more ++ [0])
 else if t.kind = 12 then txtB t.text ++ t.bs
 else if t.kind = 19 then leI 8 t.bits ++ leI 8 t.high
 else []
def VT.doc : Nat → VT → List Int
 | 0, _ => []
 | d + 1, t => if t.kind = 3 ∨ t.kind = 4 then docOf ((t.kids.map fun x => headB x.2.kind x.1 ++ VT.doc d x.2).flatten) else leafB t
def elemB (d : Nat) (x : ByteArray × VT) : List Int := headB x.2.kind x.1 ++ VT.doc d x.2
def wrapL (name s : List Int) : List Int := [123, 34] ++ name ++ [34, 58] ++ s ++ [125]
def quoL (s : List Int) : List Int := 34 :: s ++ [34]
def leafL (D : Int → List Int) (t : VT) : List Int :=
 if t.kind = 1 then wrapL [36, 110, 117, 109, 98, 101, 114, 68, 111, 117, 98, 108, 101] (quoL (D t.bits))
 else if t.kind = 2 then extStrF t.text true
 else if t.kind = 5 then wrapL [36, 98, 105, 110, 97, 114, 121] ([123, 34, 98, 97, 115, 101, 54, 52, 34, 58, 34] ++ b64L t.bs ++ [34, 44, 34, 115, 117, 98, 84, 121, 112, 101, 34, 58, 34] ++ [hexd (t.n / 16), hexd (t.n % 16)] ++ [34, 125])
 else if t.kind = 6 then wrapL [36, 117, 110, 100, 101, 102, 105, 110, 101, 100] [116, 114, 117, 101]
 else if t.kind = 7 then wrapL [36, 111, 105, 100] (quoL (hexL t.bs))
 else if t.kind = 8 then (if t.n = 1 then [116, 114, 117, 101] else [102, 97, 108, 115, 101])
 else if t.kind = 9 then wrapL [36, 100, 97, 116, 101] ([123, 34, 36, 110, 117, 109, 98, 101, 114, 76, 111, 110, 103, 34, 58, 34] ++ numF t.n ++ [34, 125])
 else if t.kind = 10 then [110, 117, 108, 108]
 else if t.kind = 11 then wrapL [36, 114, 101, 103, 117, 108, 97, 114, 69, 120, 112, 114, 101, 115, 115, 105, 111, 110] ([123, 34, 112, 97, 116, 116, 101, 114, 110, 34, 58] ++ extStrF t.text true ++ [44, 34, 111, 112, 116, 105, 111, 110, 115, 34, 58] ++ extStrF t.more true ++ [125])
 else if t.kind = 12 then wrapL [36, 100, 98, 80, 111, 105, 110, 116, 101, 114] ([123, 34, 36, 114, 101, 102, 34, 58] ++ extStrF t.text true ++ [44, 34, 36, 105, 100, 34, 58, 123, 34, 36, 111, 105, 100, 34, 58] ++ quoL (hexL t.bs) ++ [125, 125])
 else if t.kind = 13 then wrapL [36, 99, 111, 100, 101] (extStrF t.text true)
 else if t.kind = 14 then wrapL [36, 115, 121, 109, 98, 111, 108] (extStrF t.text true)
 else if t.kind = 16 then wrapL [36, 110, 117, 109, 98, 101, 114, 73, 110, 116] (quoL (numF t.n))
 else if t.kind = 17 then wrapL [36, 116, 105, 109, 101, 115, 116, 97, 109, 112] ([123, 34, 116, 34, 58] ++ digs (t.bits / 4294967296).toNat ++ [44, 34, 105, 34, 58] ++ digs (t.bits % 4294967296).toNat ++ [125])
 else if t.kind = 18 then wrapL [36, 110, 117, 109, 98, 101, 114, 76, 111, 110, 103] (quoL (numF t.n))
 else if t.kind = 19 then wrapL [36, 110, 117, 109, 98, 101, 114, 68, 101, 99, 105, 109, 97, 108] (quoL (decTextF (decKind t.high) (decNeg t.high) (decDig t.high t.bits) (decExp t.high)))
 else if t.kind = 255 then wrapL [36, 109, 105, 110, 75, 101, 121] [49]
 else if t.kind = 127 then wrapL [36, 109, 97, 120, 75, 101, 121] [49]
 else []
def memL (name : ByteArray) (s : List Int) : List Int := 34 :: (bytesOf name ++ [34, 58, 32] ++ s)
def joinL : List (List Int) → List Int
 | [] => []
 | x :: r => x ++ (r.map fun y => 44 :: y).flatten
theorem joinL_snoc (l : List (List Int)) (y : List Int) : joinL (l ++ [y]) = joinL l ++ (if l = [] then [] else [44]) ++ y := by
 cases l with
 | nil => simp [joinL]
 | cons x r => simp [joinL]
def VT.long (D : Int → List Int) : Nat → VT → List Int
 | 0, _ => []
 | d + 1, t =>
  if t.kind = 3 then 123 :: (joinL (t.kids.map fun x => memL x.1 (VT.long D d x.2)) ++ [125])
  else if t.kind = 4 then 91 :: (joinL (t.kids.map fun x => VT.long D d x.2) ++ [93])
  else leafL D t
def NameOk (s : ByteArray) : Prop := 0 < s.size ∧ s.size ≤ 300 ∧ utf8F s = true ∧ plainF s = true ∧ extStrF s true = quoL (bytesOf s)
structure LeafOk (D : Int → List Int) (t : VT) : Prop where
 known : knownF t.kind = true
 noscope : t.kind ≠ 15
 text : t.text.size ≤ 300 ∧ utf8F t.text = true
 more : t.more.size ≤ 300 ∧ utf8F t.more = true
 bs : t.bs.length ≤ 300
 bin : t.kind = 5 → 0 ≤ t.n ∧ t.n ≤ 255
 id : t.kind = 7 ∨ t.kind = 12 → t.bs.length = 12
 bool : t.kind = 8 → t.n = 0 ∨ t.n = 1
 int : t.kind = 16 → -2147483648 ≤ t.n ∧ t.n < 2147483648
 rex : t.kind = 11 → plainF t.text = true ∧ plainF t.more = true ∧ ∀ j, j < t.more.size → 97 ≤ bt t.more j ∧ bt t.more j ≤ 122 ∧ (0 < j → bt t.more (j - 1) ≤ bt t.more j)
 dec : t.kind = 19 → decKind t.high = 0 → (decDig t.high t.bits).length ≤ 34 ∧ t.high / 2305843009213693952 % 4 ≠ 3
 dbl : t.kind = 1 → (∀ x ∈ D t.bits, x ≠ 69) ∧ (isNaNF t.bits.toNat = true → t.bits = 9221120237041090561)
def VT.Ok (D : Int → List Int) : Nat → VT → Prop
 | 0, _ => False
 | d + 1, t => LeafOk D t ∧ t.kids.length ≤ 300 ∧ ∀ i (h : i < t.kids.length), t.kind = 3 ∨ t.kind = 4 → NameOk t.kids[i].1 ∧ VT.Ok D d t.kids[i].2
end Go.Proofs.YtkeakdjbidbegaaGreatDoor
