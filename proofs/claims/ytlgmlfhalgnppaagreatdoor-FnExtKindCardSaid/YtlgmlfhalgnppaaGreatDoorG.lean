/- A part of the proof that laws.FnExtKind returns true at every input: Flt, Sca, Sho. -/
import Derived.Test.YtlgmlfhalgnppaaGreatDoorA
import Derived.Laws.Externs
import Derived.Test.YtlgmlfhalgnppaaGreatDoorC
import Derived.Test.YtlgmlfhalgnppaaGreatDoorShelf
import Derived.Laws.Closers25b
import Derived.Great.Walk
/-! math: Float64bits, Float64frombits, NaN, IsNaN, IsInf, Abs. -/
set_option linter.unusedSimpArgs false
set_option linter.unusedVariables false
namespace Go.Proofs.YtlgmlfhalgnppaaGreatDoor
open Go.RowKit
open Go.Proofs.YtlgmlfhalgnppaaGreatDoorW.PrintWords hiding bt bt_at bt_range

theorem frombits_run (n : Int) (W : World) : (callFunc 20 #[.int .u64 n]).run Tryz.prog W = .ok (.value (.float .f64 n.toNat)) W := by
  rw [run_callFunc_extern (e := Extern.MathFloatBits.float64frombits) (show Tryz.prog.funcs[20]? = some Tryz.f20 by kernel_rfl) (by kernel_rfl) (by kernel_rfl) (by kernel_rfl) (by kernel_rfl)]
  rfl
theorem bits_run (n : Nat) (W : World) : (callFunc 37 #[.float .f64 n]).run Tryz.prog W = .ok (.value (.int .u64 n)) W := by
  rw [run_callFunc_extern (e := Extern.MathFloatBits.float64bits) (show Tryz.prog.funcs[37]? = some Tryz.f37 by kernel_rfl) (by kernel_rfl) (by kernel_rfl) (by kernel_rfl) (by kernel_rfl)]
  rfl
theorem sbits_run (n : Nat) (W : World) : (callFunc 83 #[.float .f64 n]).run Tryz.prog W = .ok (.value (.int .u64 n)) W := by
  rw [run_callFunc_extern (e := Extern.MathFloatBits.float64bits) (show Tryz.prog.funcs[83]? = some Tryz.f83 by kernel_rfl) (by kernel_rfl) (by kernel_rfl) (by kernel_rfl) (by kernel_rfl)]
  rfl
theorem NaN_calls (w : World) : Calls Tryz.prog 38 #[] w fun e w' => e = .returned (.float .f64 9221120237041090561) ∧ w' = w := by
  have h1 := frombits_run 9221120237041090561
  go_enter Tryz.func38, Tryz.ntmps38
  go_wp2
  go_ret
  exact ⟨rfl, rfl⟩
/-- f != f. -/
def isNaNF (n : Nat) : Bool := FloatKind.f64.format.order n n != some Ordering.eq
theorem IsNaN_calls (n : Nat) (w : World) : Calls Tryz.prog 22 #[.float .f64 n] w fun e w' => e = .returned (.bool (isNaNF n)) ∧ w' = w := by
  go_enter Tryz.func22, Tryz.ntmps22
  go_wp2
  go_ret
  exact ⟨rfl, rfl⟩
theorem IsInf_up (n : Nat) : ∃ b, ∀ w, Calls Tryz.prog 23 #[.float .f64 n, .int .i64 1] w fun e w' => e = .returned (.bool b) ∧ w' = w := by
  apply Exists.intro
  intro w
  go_enter Tryz.func23, Tryz.ntmps23
  go_wp2
  go_ret
  exact ⟨rfl, rfl⟩
theorem IsInf_down (n : Nat) : ∃ b, ∀ w, Calls Tryz.prog 23 #[.float .f64 n, .int .i64 (-1)] w fun e w' => e = .returned (.bool b) ∧ w' = w := by
  obtain ⟨M, hn⟩ : ∃ M : Nat, ∀ W, Sem.run Tryz.prog (Op.unary UnOp.neg (Value.float FloatKind.f64 n)) W = .ok (.float .f64 M) W := ⟨_, fun W => rfl⟩
  apply Exists.intro
  intro w
  go_enter Tryz.func23, Tryz.ntmps23
  go_wp2
  go_ret
  exact ⟨rfl, rfl⟩
/-- math.Abs on the bits. -/
def absF (n : Nat) : Nat := (bits .andNot .u64 n 9223372036854775808).toNat
theorem Abs_calls (n : Nat) (w : World) : Calls Tryz.prog 45 #[.float .f64 n] w fun e w' => e = .returned (.float .f64 (absF n)) ∧ w' = w := by
  have h1 := fun m : Int => frombits_run m
  have h2 := bits_run n
  go_enter Tryz.func45, Tryz.ntmps45
  go_wp2
  go_ret
  exact ⟨rfl, rfl⟩
theorem IsInf_any (n : Nat) : ∃ b, ∀ w, Calls Tryz.prog 23 #[.float .f64 n, .int .i64 0] w fun e w' => e = .returned (.bool b) ∧ w' = w := by
  have h1 := fun m : Int => frombits_run m
  have h2 := bits_run n
  apply Exists.intro
  intro w
  go_enter Tryz.func23, Tryz.ntmps23
  go_wp2_with fail
  refine (Abs_calls n _).mono ?_
  rintro e w1 ⟨rfl, rfl⟩
  go_wp2
  go_ret
  exact ⟨rfl, rfl⟩
end Go.Proofs.YtlgmlfhalgnppaaGreatDoor
/-! internal/strconv's scaling: the table of powers of ten, prescale, uscale, unrounded's methods. -/
set_option linter.unusedSimpArgs false
set_option linter.unusedVariables false
namespace Go.Proofs.YtlgmlfhalgnppaaGreatDoor
open Go.RowKit
open Go.Proofs.YtlgmlfhalgnppaaGreatDoorW.PrintWords hiding bt bt_at bt_range

theorem bool2_calls (b : Bool) (w : World) : Calls Tryz.prog 150 #[.bool b] w fun e w' => e = .returned (.int .u64 (if b then 1 else 0)) ∧ w' = w := by
  cases b
  all_goals
    go_enter Tryz.func150, Tryz.ntmps150
    go_wp2
    go_ret
    exact ⟨rfl, rfl⟩
theorem skewed_calls (e : Int) (h0 : -3000 ≤ e) (h1 : e ≤ 3000) (w : World) : Calls Tryz.prog 119 #[.int .i64 e] w fun e' w' => e' = .returned (.int .i64 ((e * 631305 - 261663) / 2097152)) ∧ w' = w := by
  go_enter Tryz.func119, Tryz.ntmps119
  go_wp2
  go_ret
  exact ⟨rfl, rfl⟩
theorem log10Pow2_calls (e : Int) (h0 : -3000 ≤ e) (h1 : e ≤ 3000) (w : World) : Calls Tryz.prog 72 #[.int .i64 e] w fun e' w' => e' = .returned (.int .i64 (e * 78913 / 262144)) ∧ w' = w := by
  go_enter Tryz.func72, Tryz.ntmps72
  go_wp2
  go_ret
  exact ⟨rfl, rfl⟩
theorem log2Pow10_calls (e : Int) (h0 : -3000 ≤ e) (h1 : e ≤ 3000) (w : World) : Calls Tryz.prog 121 #[.int .i64 e] w fun e' w' => e' = .returned (.int .i64 (e * 108853 / 32768)) ∧ w' = w := by
  go_enter Tryz.func121, Tryz.ntmps121
  go_wp2
  go_ret
  exact ⟨rfl, rfl⟩
theorem nudge_calls (x d : Int) : ∃ r : Int, (0 ≤ r ∧ r < 18446744073709551616) ∧ ∀ w, Calls Tryz.prog 123 #[.int .u64 x, .int .i64 d] w fun e w' => e = .returned (.int .u64 r) ∧ w' = w := by
  refine ⟨IntKind.u64.wrap (x + IntKind.u64.wrap d), ?_, fun w => ?_⟩
  · simp [IntKind.wrap, IntKind.bits, IntKind.signed]; omega
  go_enter Tryz.func123, Tryz.ntmps123
  go_wp2
  go_ret
  exact ⟨rfl, rfl⟩
/-- The table of powers of ten. -/
structure TabW (hi lo : Nat → Int) (w : World) : Prop where
  hi : ∀ i, i < 696 → w.cell? ⟨9, i * 2, none⟩ = some (.int .u64 (hi i))
  lo : ∀ i, i < 696 → w.cell? ⟨9, i * 2 + 1, none⟩ = some (.int .u64 (lo i))
theorem TabW.below {hi lo : Nat → Int} {w w' : World} (h : TabW hi lo w) (hb : Below w.heap.size w w') : TabW hi lo w' :=
  ⟨fun i hi' => (hb.cell (World.block_lt_of_cell? w _ (h.hi i hi'))).trans (h.hi i hi'), fun i hi' => (hb.cell (World.block_lt_of_cell? w _ (h.lo i hi'))).trans (h.lo i hi')⟩
theorem prescale_calls (hi lo : Nat → Int) (e p lp : Int) (W : World) (hT : TabW hi lo W) (h0 : -348 ≤ p) (h1 : p < 348) (e0 : -3000 ≤ e) (e1 : e ≤ 3000) (l0 : -3000 ≤ lp) (l1 : lp ≤ 3000) :
    Calls Tryz.prog 120 #[.pointer (some ⟨W.heap.size, 0, none⟩), .int .i64 e, .int .i64 p, .int .i64 lp] (W.alloc (.cells #[.int .u64 0, .int .u64 0, .int .i64 0] 190)) fun e' w' =>
      e' = .returned (.tuple #[]) ∧ w' = W.alloc (.cells #[.int .u64 (hi (p + 348).toNat), .int .u64 (lo (p + 348).toNat), .int .i64 (-(e + lp + 3))] 190) := by
  have t1 := hT.hi (p + 348).toNat (by omega)
  have t2 := hT.lo (p + 348).toNat (by omega)
  have hg := World.block_lt_of_cell? W _ t1
  simp only at hg
  go_enter Tryz.func120, Tryz.ntmps120
  go_wp2
  exact Great.bodyPost_end0 (by rfl) rfl ⟨rfl, rfl⟩
theorem ceil_calls (x : Int) : ∃ r : Int, (0 ≤ r ∧ r < 18446744073709551616) ∧ ∀ w, Calls Tryz.prog 124 #[.int .u64 x] w fun e w' => e = .returned (.int .u64 r) ∧ w' = w := by
  refine ⟨IntKind.u64.wrap (x + 3) / 4, ?_, fun w => ?_⟩
  · simp [IntKind.wrap, IntKind.bits, IntKind.signed]; omega
  have h : 0 ≤ IntKind.u64.wrap (x + 3) := by simp [IntKind.wrap, IntKind.bits, IntKind.signed]; omega
  go_enter Tryz.func124, Tryz.ntmps124
  go_wp2
  go_ret
  exact ⟨rfl, rfl⟩
theorem floor_calls (x : Int) (h0 : 0 ≤ x) (h1 : x < 18446744073709551616) : ∃ r : Int, (0 ≤ r ∧ r < 18446744073709551616) ∧ ∀ w, Calls Tryz.prog 125 #[.int .u64 x] w fun e w' => e = .returned (.int .u64 r) ∧ w' = w := by
  refine ⟨x / 4, by omega, fun w => ?_⟩
  go_enter Tryz.func125, Tryz.ntmps125
  go_wp2
  go_ret
  exact ⟨rfl, rfl⟩
theorem round_calls (x : Int) (h0 : 0 ≤ x) (h1 : x < 18446744073709551616) : ∃ r : Int, (0 ≤ r ∧ r < 18446744073709551616) ∧ ∀ w, Calls Tryz.prog 126 #[.int .u64 x] w fun e w' => e = .returned (.int .u64 r) ∧ w' = w := by
  obtain ⟨B, hB⟩ : ∃ B, bits .and .u64 (x / 4) 1 = B := ⟨_, rfl⟩
  have b0 : 0 ≤ B := hB ▸ bits_lo_u64 _ _ _
  have b1 : B ≤ 18446744073709551615 := hB ▸ bits_hi_u64 _ _ _
  obtain ⟨Z, hZ⟩ : ∃ Z, IntKind.u64.wrap (IntKind.u64.wrap (x + 1) + B) = Z := ⟨_, rfl⟩
  have z0 : 0 ≤ Z ∧ Z < 18446744073709551616 := by rw [← hZ]; simp [IntKind.wrap, IntKind.bits, IntKind.signed]; omega
  refine ⟨Z / 4, by omega, fun w => ?_⟩
  go_enter Tryz.func126, Tryz.ntmps126
  go_wp2
  go_ret
  exact ⟨rfl, rfl⟩
theorem mul_calls (x y : Int) (h0 : 0 ≤ x) (h1 : x < 18446744073709551616) (g0 : 0 ≤ y) (g1 : y < 18446744073709551616) : ∃ h l : Int, (0 ≤ h ∧ h < 18446744073709551616) ∧ (0 ≤ l ∧ l < 18446744073709551616) ∧
    ∀ w, Calls Tryz.prog 149 #[.int .u64 x, .int .u64 y] w fun e w' => e = .returned (.tuple #[.int .u64 h, .int .u64 l]) ∧ w' = w := by
  obtain ⟨X, rfl⟩ := Int.eq_ofNat_of_zero_le h0
  obtain ⟨Y, rfl⟩ := Int.eq_ofNat_of_zero_le g0
  refine ⟨((X * Y / 18446744073709551616 : Nat) : Int), ((X * Y % 18446744073709551616 : Nat) : Int), ?_, ?_, fun w => Tryz.bits_Mul64 X Y (by omega) (by omega) w⟩
  · refine ⟨by omega, ?_⟩
    have : X * Y / 18446744073709551616 < 18446744073709551616 := by
      rw [Nat.div_lt_iff_lt_mul (by decide)]
      exact Nat.mul_lt_mul_of_le_of_lt (by omega) (by omega) (by decide)
    omega
  · omega
set_option maxHeartbeats 2000000 in
theorem uscale_calls (x hi lo s : Int) (h0 : 0 ≤ x) (h1 : x < 18446744073709551616) (a0 : 0 ≤ hi) (a1 : hi < 18446744073709551616) (b0 : 0 ≤ lo) (b1 : lo < 18446744073709551616) (s0 : 0 ≤ s) (s1 : s ≤ 10000) : ∃ r : Int, (0 ≤ r ∧ r < 18446744073709551616) ∧
    ∀ b w, w.cell? ⟨b, 0, none⟩ = some (.int .u64 hi) → w.cell? ⟨b, 1, none⟩ = some (.int .u64 lo) → w.cell? ⟨b, 2, none⟩ = some (.int .i64 s) →
      Calls Tryz.prog 122 #[.int .u64 x, .pointer (some ⟨b, 0, none⟩)] w fun e w' => e = .returned (.int .u64 r) ∧ Below w.heap.size w w' := by
  obtain ⟨H, L, ⟨H0, H1⟩, ⟨L0, L1⟩, hm⟩ := mul_calls x hi h0 h1 a0 a1
  obtain ⟨M, N, ⟨M0, M1⟩, ⟨N0, N1⟩, hn⟩ := mul_calls x lo h0 h1 b0 b1
  have es : bits .and .i64 s 63 = s % 64 := and_mask 6 (by decide) s s0 (by omega)
  obtain ⟨S, hS⟩ : ∃ S : Nat, s % 64 = S := ⟨(s % 64).toNat, by omega⟩
  rw [hS] at es
  have S0 : S < 64 := by omega
  have HM := Lib.hid hm
  have HN := Lib.hid hn
  clear hS hm hn
  obtain ⟨R1, hR1⟩ : ∃ R1, H / 2 ^ S = R1 := ⟨_, rfl⟩
  have hR1r : 0 ≤ R1 ∧ R1 ≤ H := by rw [← hR1]; exact ⟨Int.ediv_nonneg H0 (Int.le_of_lt (Int.pow_pos (by decide))), Int.ediv_le_self _ H0⟩
  cases hC : (IntKind.u64.wrap (R1 * 2 ^ S) != H) with
  | true =>
    refine ⟨bits BinOp.or IntKind.u64 R1 1, ⟨bits_lo_u64 _ _ _, by have := bits_hi_u64 .or R1 1; omega⟩, fun b w c0 c1 c2 => ?_⟩
    go_enter Tryz.func122, Tryz.ntmps122
    go_wp2_with fail
    refine (HM.out _).mono ?_
    rintro e w1 ⟨rfl, rfl⟩
    go_wp2_with fail
    go_ret
    exact ⟨rfl, Below.refl _ _⟩
  | false =>
    obtain ⟨D, hD⟩ : ∃ D, IntKind.u64.wrap (L - M) = D := ⟨_, rfl⟩
    have hD0 : 0 ≤ D ∧ D < 18446744073709551616 := by rw [← hD]; simp only [IntKind.wrap, IntKind.bits, IntKind.signed]; simp; omega
    by_cases q1 : L < M
    · obtain ⟨G, hG⟩ : ∃ G, IntKind.u64.wrap (H - 1) = G := ⟨_, rfl⟩
      have hG0 : 0 ≤ G ∧ G < 18446744073709551616 := by rw [← hG]; simp only [IntKind.wrap, IntKind.bits, IntKind.signed]; simp; omega
      obtain ⟨R2, hR2⟩ : ∃ R2, G / 2 ^ S = R2 := ⟨_, rfl⟩
      have hR2r : 0 ≤ R2 ∧ R2 ≤ G := by rw [← hR2]; exact ⟨Int.ediv_nonneg hG0.1 (Int.le_of_lt (Int.pow_pos (by decide))), Int.ediv_le_self _ hG0.1⟩
      by_cases q2 : 1 < D
      · refine ⟨bits BinOp.or IntKind.u64 R2 1, ⟨bits_lo_u64 _ _ _, by have := bits_hi_u64 .or R2 1; omega⟩, fun b w c0 c1 c2 => ?_⟩
        go_enter Tryz.func122, Tryz.ntmps122
        go_wp2_with fail
        refine (HM.out _).mono ?_
        rintro e w1 ⟨rfl, rfl⟩
        go_wp2_with fail
        refine (HN.out _).mono ?_
        rintro e w1 ⟨rfl, rfl⟩
        go_wp2_with fail
        refine (bool2_calls _ _).mono ?_
        rintro e w1 ⟨rfl, rfl⟩
        go_wp2_with fail
        go_region_with (go_at_call 150; (with_reducible refine (bool2_calls _ _).mono ?_); rintro e w1 ⟨rfl, rfl⟩)
        all_goals go_wp2
        all_goals go_ret
        all_goals exact ⟨rfl, (Below.refl _ _).drew⟩
      · refine ⟨bits BinOp.or IntKind.u64 R2 0, ⟨bits_lo_u64 _ _ _, by have := bits_hi_u64 .or R2 0; omega⟩, fun b w c0 c1 c2 => ?_⟩
        go_enter Tryz.func122, Tryz.ntmps122
        go_wp2_with fail
        refine (HM.out _).mono ?_
        rintro e w1 ⟨rfl, rfl⟩
        go_wp2_with fail
        refine (HN.out _).mono ?_
        rintro e w1 ⟨rfl, rfl⟩
        go_wp2_with fail
        refine (bool2_calls _ _).mono ?_
        rintro e w1 ⟨rfl, rfl⟩
        go_wp2_with fail
        go_region_with (go_at_call 150; (with_reducible refine (bool2_calls _ _).mono ?_); rintro e w1 ⟨rfl, rfl⟩)
        all_goals go_wp2
        all_goals go_ret
        all_goals exact ⟨rfl, (Below.refl _ _).drew⟩
    · obtain ⟨G, hG⟩ : ∃ G, IntKind.u64.wrap (H) = G := ⟨_, rfl⟩
      have hG0 : 0 ≤ G ∧ G < 18446744073709551616 := by rw [← hG]; simp only [IntKind.wrap, IntKind.bits, IntKind.signed]; simp; omega
      obtain ⟨R2, hR2⟩ : ∃ R2, G / 2 ^ S = R2 := ⟨_, rfl⟩
      have hR2r : 0 ≤ R2 ∧ R2 ≤ G := by rw [← hR2]; exact ⟨Int.ediv_nonneg hG0.1 (Int.le_of_lt (Int.pow_pos (by decide))), Int.ediv_le_self _ hG0.1⟩
      by_cases q2 : 1 < D
      · refine ⟨bits BinOp.or IntKind.u64 R2 1, ⟨bits_lo_u64 _ _ _, by have := bits_hi_u64 .or R2 1; omega⟩, fun b w c0 c1 c2 => ?_⟩
        go_enter Tryz.func122, Tryz.ntmps122
        go_wp2_with fail
        refine (HM.out _).mono ?_
        rintro e w1 ⟨rfl, rfl⟩
        go_wp2_with fail
        refine (HN.out _).mono ?_
        rintro e w1 ⟨rfl, rfl⟩
        go_wp2_with fail
        refine (bool2_calls _ _).mono ?_
        rintro e w1 ⟨rfl, rfl⟩
        go_wp2_with fail
        go_region_with (go_at_call 150; (with_reducible refine (bool2_calls _ _).mono ?_); rintro e w1 ⟨rfl, rfl⟩)
        all_goals go_wp2
        all_goals go_ret
        all_goals exact ⟨rfl, (Below.refl _ _).drew⟩
      · refine ⟨bits BinOp.or IntKind.u64 R2 0, ⟨bits_lo_u64 _ _ _, by have := bits_hi_u64 .or R2 0; omega⟩, fun b w c0 c1 c2 => ?_⟩
        go_enter Tryz.func122, Tryz.ntmps122
        go_wp2_with fail
        refine (HM.out _).mono ?_
        rintro e w1 ⟨rfl, rfl⟩
        go_wp2_with fail
        refine (HN.out _).mono ?_
        rintro e w1 ⟨rfl, rfl⟩
        go_wp2_with fail
        refine (bool2_calls _ _).mono ?_
        rintro e w1 ⟨rfl, rfl⟩
        go_wp2_with fail
        go_region_with (go_at_call 150; (with_reducible refine (bool2_calls _ _).mono ?_); rintro e w1 ⟨rfl, rfl⟩)
        all_goals go_wp2
        all_goals go_ret
        all_goals exact ⟨rfl, (Below.refl _ _).drew⟩
end Go.Proofs.YtlgmlfhalgnppaaGreatDoor
/-! internal/strconv.shortFloat[float64]. -/
set_option linter.unusedSimpArgs false
set_option linter.unusedVariables false
namespace Go.Proofs.YtlgmlfhalgnppaaGreatDoor
open Go.RowKit
open Go.Proofs.YtlgmlfhalgnppaaGreatDoorW.PrintWords hiding bt bt_at bt_range

theorem u64_range (x : Int) : 0 ≤ IntKind.u64.wrap x ∧ IntKind.u64.wrap x < 18446744073709551616 := by
  simp only [IntKind.wrap, IntKind.bits, IntKind.signed]; simp; omega
set_option maxRecDepth 100000 in
set_option maxHeartbeats 4000000 in
theorem shortFloat_b (hi lo : Nat → Int) (hhi : ∀ i, 0 ≤ hi i ∧ hi i < 18446744073709551616) (hlo : ∀ i, 0 ≤ lo i ∧ lo i < 18446744073709551616) (m e : Int) (h0 : 0 ≤ m) (h1 : m < 18446744073709551616) (e1 : e ≤ 960) (hm : m ≠ 9223372036854775808) (he : -1085 ≤ e) :
    ∃ d p : Int, (0 ≤ d ∧ d < 18446744073709551616) ∧ (-360 ≤ p ∧ p ≤ 360) ∧ ∀ w, TabW hi lo w → Calls Tryz.prog 93 #[.int .u64 m, .int .i64 e] w fun e' w' => e' = .returned (.tuple #[.int .u64 d, .int .i64 p]) ∧ Below w.heap.size w w' := by
  have hmb : (m == 9223372036854775808) = false := by rw [beq_eq_false_iff_ne]; exact hm
  have d1 : decide (-1085 ≤ e) = true := decide_eq_true he
  obtain ⟨P, hPn⟩ : ∃ P, -((e + 11) * 78913 / 262144) = P := ⟨_, rfl⟩
  obtain ⟨O, hO⟩ : ∃ O, bits .and .i64 (m / 2048) 1 = O := ⟨_, rfl⟩
  have hO' : O = m / 2048 % 2 := by rw [← hO]; exact and_mask 1 (by decide) _ (by omega) (by omega)
  have hO2 : 0 ≤ O ∧ O ≤ 1 := by omega
  clear hO'
  obtain ⟨X, hX⟩ : ∃ X, IntKind.u64.wrap (m - 1024) = X := ⟨_, rfl⟩
  obtain ⟨Y, hY⟩ : ∃ Y, IntKind.u64.wrap (m + 1024) = Y := ⟨_, rfl⟩
  have X0 : 0 ≤ X ∧ X < 18446744073709551616 := hX ▸ u64_range _
  have Y0 : 0 ≤ Y ∧ Y < 18446744073709551616 := hY ▸ u64_range _
  have HPn : Hid ((e + 11) * 78913 / 262144 = -P) := by show _ = _; omega
  have hLp : Hid (-3000 ≤ P * 108853 / 32768 ∧ P * 108853 / 32768 ≤ 3000 ∧ 0 ≤ -(e + P * 108853 / 32768 + 3) ∧ -(e + P * 108853 / 32768 + 3) ≤ 10000) := by show _ ∧ _; omega
  obtain ⟨LP, hLP⟩ : ∃ LP, P * 108853 / 32768 = LP := ⟨_, rfl⟩
  have hP : Hid (-348 ≤ P ∧ P < 348) := by show _ ∧ _; omega
  have hPb : -400 ≤ -P ∧ -P ≤ 399 := by omega
  rw [hLP] at hLp
  obtain ⟨S, hS⟩ : ∃ S, -(e + LP + 3) = S := ⟨_, rfl⟩
  rw [hS] at hLp
  obtain ⟨TH, hTH⟩ : ∃ TH, hi (P + 348).toNat = TH := ⟨_, rfl⟩
  obtain ⟨TL, hTL⟩ : ∃ TL, lo (P + 348).toNat = TL := ⟨_, rfl⟩
  have hth := hhi (P + 348).toNat
  have htl := hlo (P + 348).toNat
  rw [hTH] at hth
  rw [hTL] at htl
  obtain ⟨r1, ⟨a1, b1⟩, u1⟩ := uscale_calls X TH TL S (by omega) (by omega) hth.1 hth.2 htl.1 htl.2 hLp.out.2.2.1 hLp.out.2.2.2
  obtain ⟨n1, ⟨a2, b2⟩, u2⟩ := nudge_calls r1 O
  obtain ⟨c1, ⟨a3, b3⟩, u3⟩ := ceil_calls n1
  obtain ⟨r2, ⟨a4, b4⟩, u4⟩ := uscale_calls Y TH TL S (by omega) (by omega) hth.1 hth.2 htl.1 htl.2 hLp.out.2.2.1 hLp.out.2.2.2
  obtain ⟨n2, ⟨a5, b5⟩, u5⟩ := nudge_calls r2 (-O)
  obtain ⟨c2, ⟨a6, b6⟩, u6⟩ := floor_calls n2 a5 b5
  obtain ⟨r3, ⟨a7, b7⟩, u7⟩ := uscale_calls m TH TL S (by omega) (by omega) hth.1 hth.2 htl.1 htl.2 hLp.out.2.2.1 hLp.out.2.2.2
  obtain ⟨c3, ⟨a8, b8⟩, u8⟩ := round_calls r3 a7 b7
  have U1 := Lib.hid u1
  clear u1
  have U2 := Lib.hid u2
  clear u2
  have U3 := Lib.hid u3
  clear u3
  have U4 := Lib.hid u4
  clear u4
  have U5 := Lib.hid u5
  clear u5
  have U6 := Lib.hid u6
  clear u6
  have U7 := Lib.hid u7
  clear u7
  have U8 := Lib.hid u8
  clear u8
  have HTH := Lib.hid hTH
  have HTL := Lib.hid hTL
  have HHI := Lib.hid hhi
  have HLO := Lib.hid hlo
  clear hTH hTL hhi hlo hth htl
  have HSS := Lib.hid hS
  have HLL := Lib.hid hLP
  clear hS hLP
  by_cases k1 : c1 ≤ c2 / 10 * 10
  · have k1d : decide (c1 ≤ c2 / 10 * 10) = true := decide_eq_true k1
    refine ⟨c2 / 10, -(P - 1), by omega, by omega, ?_⟩
    intro w hT
    have HT := Lib.hid hT
    clear hT
    go_enter Tryz.func93, Tryz.ntmps93
    go_wp2_with fail
    refine (log10Pow2_calls (e + 11) (by omega) (by omega) _).mono ?_
    rintro e' w0 ⟨rfl, rfl⟩
    rw [HPn.out]
    go_wp2_with fail
    refine (log2Pow10_calls P (by have := hP.out; omega) (by have := hP.out; omega) _).mono ?_
    rintro e' w1 ⟨rfl, rfl⟩
    rw [HLL.out]
    go_wp2_with fail
    refine (prescale_calls hi lo e P LP w0 HT.out hP.out.1 hP.out.2 (by omega) (by omega) hLp.out.1 hLp.out.2.1).mono ?_
    rintro e' w2 ⟨rfl, rfl⟩
    rw [HTH.out, HTL.out, HSS.out]
    go_wp2_with fail
    refine (U1.out _ _ (by simp [go_sem]) (by simp [go_sem]) (by simp [go_sem])).mono ?_
    rintro e' w3 ⟨rfl, hb3⟩
    have q0 : w3.cell? ⟨w0.heap.size, 0, none⟩ = some (.int .u64 TH) := (hb3.cell (by simp)).trans (by simp [go_sem])
    have q1 : w3.cell? ⟨w0.heap.size, 1, none⟩ = some (.int .u64 TL) := (hb3.cell (by simp)).trans (by simp [go_sem])
    have q2 : w3.cell? ⟨w0.heap.size, 2, none⟩ = some (.int .i64 S) := (hb3.cell (by simp)).trans (by simp [go_sem])
    have B3 : Hid (Below w0.heap.size w0 w3) := ((Below.refl _ _).alloc (Nat.le_refl _) _).trans (hb3.mono (by simp))
    have hz3 : w0.heap.size < w3.heap.size := by have := hb3.size; simp at this; omega
    have Q0 := Lib.hid q0
    have Q1 := Lib.hid q1
    have Q2 := Lib.hid q2
    clear hb3 q0 q1 q2
    go_wp2_with fail
    refine (U2.out _).mono ?_
    rintro e' w4 ⟨rfl, rfl⟩
    go_wp2_with fail
    refine (U3.out _).mono ?_
    rintro e' w4 ⟨rfl, rfl⟩
    go_wp2_with fail
    refine (U4.out _ _ Q0.out Q1.out Q2.out).mono ?_
    rintro e' w5 ⟨rfl, hb5⟩
    have Q3 : Hid (w5.cell? ⟨w0.heap.size, 0, none⟩ = some (.int .u64 TH)) := (hb5.cell hz3).trans Q0.out
    have Q4 : Hid (w5.cell? ⟨w0.heap.size, 1, none⟩ = some (.int .u64 TL)) := (hb5.cell hz3).trans Q1.out
    have Q5 : Hid (w5.cell? ⟨w0.heap.size, 2, none⟩ = some (.int .i64 S)) := (hb5.cell hz3).trans Q2.out
    have B5 : Hid (Below w0.heap.size w0 w5) := B3.out.trans (hb5.mono (by omega))
    clear hb5
    go_wp2_with fail
    refine (U5.out _).mono ?_
    rintro e' w6 ⟨rfl, rfl⟩
    go_wp2_with fail
    refine (U6.out _).mono ?_
    rintro e' w6 ⟨rfl, rfl⟩
    go_wp2
    go_ret2
    exact ⟨rfl, B5.out⟩
  · have k1d : decide (c1 ≤ c2 / 10 * 10) = false := decide_eq_false k1
    by_cases k2 : c1 < c2
    · have k2d : decide (c1 < c2) = true := decide_eq_true k2
      refine ⟨c3, -P, by omega, by omega, ?_⟩
      intro w hT
      have HT := Lib.hid hT
      clear hT
      go_enter Tryz.func93, Tryz.ntmps93
      go_wp2_with fail
      refine (log10Pow2_calls (e + 11) (by omega) (by omega) _).mono ?_
      rintro e' w0 ⟨rfl, rfl⟩
      rw [HPn.out]
      go_wp2_with fail
      refine (log2Pow10_calls P (by have := hP.out; omega) (by have := hP.out; omega) _).mono ?_
      rintro e' w1 ⟨rfl, rfl⟩
      rw [HLL.out]
      go_wp2_with fail
      refine (prescale_calls hi lo e P LP w0 HT.out hP.out.1 hP.out.2 (by omega) (by omega) hLp.out.1 hLp.out.2.1).mono ?_
      rintro e' w2 ⟨rfl, rfl⟩
      rw [HTH.out, HTL.out, HSS.out]
      go_wp2_with fail
      refine (U1.out _ _ (by simp [go_sem]) (by simp [go_sem]) (by simp [go_sem])).mono ?_
      rintro e' w3 ⟨rfl, hb3⟩
      have q0 : w3.cell? ⟨w0.heap.size, 0, none⟩ = some (.int .u64 TH) := (hb3.cell (by simp)).trans (by simp [go_sem])
      have q1 : w3.cell? ⟨w0.heap.size, 1, none⟩ = some (.int .u64 TL) := (hb3.cell (by simp)).trans (by simp [go_sem])
      have q2 : w3.cell? ⟨w0.heap.size, 2, none⟩ = some (.int .i64 S) := (hb3.cell (by simp)).trans (by simp [go_sem])
      have B3 : Hid (Below w0.heap.size w0 w3) := ((Below.refl _ _).alloc (Nat.le_refl _) _).trans (hb3.mono (by simp))
      have hz3 : w0.heap.size < w3.heap.size := by have := hb3.size; simp at this; omega
      have Q0 := Lib.hid q0
      have Q1 := Lib.hid q1
      have Q2 := Lib.hid q2
      clear hb3 q0 q1 q2
      go_wp2_with fail
      refine (U2.out _).mono ?_
      rintro e' w4 ⟨rfl, rfl⟩
      go_wp2_with fail
      refine (U3.out _).mono ?_
      rintro e' w4 ⟨rfl, rfl⟩
      go_wp2_with fail
      refine (U4.out _ _ Q0.out Q1.out Q2.out).mono ?_
      rintro e' w5 ⟨rfl, hb5⟩
      have Q3 : Hid (w5.cell? ⟨w0.heap.size, 0, none⟩ = some (.int .u64 TH)) := (hb5.cell hz3).trans Q0.out
      have Q4 : Hid (w5.cell? ⟨w0.heap.size, 1, none⟩ = some (.int .u64 TL)) := (hb5.cell hz3).trans Q1.out
      have Q5 : Hid (w5.cell? ⟨w0.heap.size, 2, none⟩ = some (.int .i64 S)) := (hb5.cell hz3).trans Q2.out
      have B5 : Hid (Below w0.heap.size w0 w5) := B3.out.trans (hb5.mono (by omega))
      clear hb5
      go_wp2_with fail
      refine (U5.out _).mono ?_
      rintro e' w6 ⟨rfl, rfl⟩
      go_wp2_with fail
      refine (U6.out _).mono ?_
      rintro e' w6 ⟨rfl, rfl⟩
      go_wp2_with fail
      refine (U7.out _ _ Q3.out Q4.out Q5.out).mono ?_
      rintro e' w7 ⟨rfl, hb7⟩
      have B7 : Hid (Below w0.heap.size w0 w7) := B5.out.trans (hb7.mono (by have := B5.out.size; omega))
      clear hb7
      go_wp2_with fail
      refine (U8.out _).mono ?_
      rintro e' w8 ⟨rfl, rfl⟩
      go_wp2
      go_ret2
      exact ⟨rfl, B7.out⟩
    · have k2d : decide (c1 < c2) = false := decide_eq_false k2
      refine ⟨c1, -P, by omega, by omega, ?_⟩
      intro w hT
      have HT := Lib.hid hT
      clear hT
      go_enter Tryz.func93, Tryz.ntmps93
      go_wp2_with fail
      refine (log10Pow2_calls (e + 11) (by omega) (by omega) _).mono ?_
      rintro e' w0 ⟨rfl, rfl⟩
      rw [HPn.out]
      go_wp2_with fail
      refine (log2Pow10_calls P (by have := hP.out; omega) (by have := hP.out; omega) _).mono ?_
      rintro e' w1 ⟨rfl, rfl⟩
      rw [HLL.out]
      go_wp2_with fail
      refine (prescale_calls hi lo e P LP w0 HT.out hP.out.1 hP.out.2 (by omega) (by omega) hLp.out.1 hLp.out.2.1).mono ?_
      rintro e' w2 ⟨rfl, rfl⟩
      rw [HTH.out, HTL.out, HSS.out]
      go_wp2_with fail
      refine (U1.out _ _ (by simp [go_sem]) (by simp [go_sem]) (by simp [go_sem])).mono ?_
      rintro e' w3 ⟨rfl, hb3⟩
      have q0 : w3.cell? ⟨w0.heap.size, 0, none⟩ = some (.int .u64 TH) := (hb3.cell (by simp)).trans (by simp [go_sem])
      have q1 : w3.cell? ⟨w0.heap.size, 1, none⟩ = some (.int .u64 TL) := (hb3.cell (by simp)).trans (by simp [go_sem])
      have q2 : w3.cell? ⟨w0.heap.size, 2, none⟩ = some (.int .i64 S) := (hb3.cell (by simp)).trans (by simp [go_sem])
      have B3 : Hid (Below w0.heap.size w0 w3) := ((Below.refl _ _).alloc (Nat.le_refl _) _).trans (hb3.mono (by simp))
      have hz3 : w0.heap.size < w3.heap.size := by have := hb3.size; simp at this; omega
      have Q0 := Lib.hid q0
      have Q1 := Lib.hid q1
      have Q2 := Lib.hid q2
      clear hb3 q0 q1 q2
      go_wp2_with fail
      refine (U2.out _).mono ?_
      rintro e' w4 ⟨rfl, rfl⟩
      go_wp2_with fail
      refine (U3.out _).mono ?_
      rintro e' w4 ⟨rfl, rfl⟩
      go_wp2_with fail
      refine (U4.out _ _ Q0.out Q1.out Q2.out).mono ?_
      rintro e' w5 ⟨rfl, hb5⟩
      have Q3 : Hid (w5.cell? ⟨w0.heap.size, 0, none⟩ = some (.int .u64 TH)) := (hb5.cell hz3).trans Q0.out
      have Q4 : Hid (w5.cell? ⟨w0.heap.size, 1, none⟩ = some (.int .u64 TL)) := (hb5.cell hz3).trans Q1.out
      have Q5 : Hid (w5.cell? ⟨w0.heap.size, 2, none⟩ = some (.int .i64 S)) := (hb5.cell hz3).trans Q2.out
      have B5 : Hid (Below w0.heap.size w0 w5) := B3.out.trans (hb5.mono (by omega))
      clear hb5
      go_wp2_with fail
      refine (U5.out _).mono ?_
      rintro e' w6 ⟨rfl, rfl⟩
      go_wp2_with fail
      refine (U6.out _).mono ?_
      rintro e' w6 ⟨rfl, rfl⟩
      go_wp2
      go_ret2
      exact ⟨rfl, B5.out⟩
set_option maxRecDepth 100000 in
set_option maxHeartbeats 4000000 in
theorem shortFloat_d (hi lo : Nat → Int) (hhi : ∀ i, 0 ≤ hi i ∧ hi i < 18446744073709551616) (hlo : ∀ i, 0 ≤ lo i ∧ lo i < 18446744073709551616) (m e : Int) (h0 : 0 ≤ m) (h1 : m < 18446744073709551616) (e1 : e = -1085) (hm : m = 9223372036854775808) :
    ∃ d p : Int, (0 ≤ d ∧ d < 18446744073709551616) ∧ (-360 ≤ p ∧ p ≤ 360) ∧ ∀ w, TabW hi lo w → Calls Tryz.prog 93 #[.int .u64 m, .int .i64 e] w fun e' w' => e' = .returned (.tuple #[.int .u64 d, .int .i64 p]) ∧ Below w.heap.size w w' := by
  subst hm
  subst e1
  have hO : bits .and .i64 4503599627370496 1 = 0 := and_mask 1 (by decide) 4503599627370496 (by omega) (by omega)
  obtain ⟨P, hPn⟩ : ∃ P : Int, (324 : Int) = P := ⟨_, rfl⟩
  have hLp : Hid (-3000 ≤ P * 108853 / 32768 ∧ P * 108853 / 32768 ≤ 3000 ∧ 0 ≤ -(-1085 + P * 108853 / 32768 + 3) ∧ -(-1085 + P * 108853 / 32768 + 3) ≤ 10000) := by show _ ∧ _; omega
  obtain ⟨LP, hLP⟩ : ∃ LP, P * 108853 / 32768 = LP := ⟨_, rfl⟩
  have hP : Hid (-348 ≤ P ∧ P < 348) := by show _ ∧ _; omega
  have hPb : -400 ≤ -P ∧ -P ≤ 399 := by omega
  rw [hLP] at hLp
  obtain ⟨S, hS⟩ : ∃ S, -(-1085 + LP + 3) = S := ⟨_, rfl⟩
  rw [hS] at hLp
  obtain ⟨TH, hTH⟩ : ∃ TH, hi (P + 348).toNat = TH := ⟨_, rfl⟩
  obtain ⟨TL, hTL⟩ : ∃ TL, lo (P + 348).toNat = TL := ⟨_, rfl⟩
  have hth := hhi (P + 348).toNat
  have htl := hlo (P + 348).toNat
  rw [hTH] at hth
  rw [hTL] at htl
  obtain ⟨r1, ⟨a1, b1⟩, u1⟩ := uscale_calls 9223372036854774784 TH TL S (by omega) (by omega) hth.1 hth.2 htl.1 htl.2 hLp.out.2.2.1 hLp.out.2.2.2
  obtain ⟨n1, ⟨a2, b2⟩, u2⟩ := nudge_calls r1 0
  obtain ⟨c1, ⟨a3, b3⟩, u3⟩ := ceil_calls n1
  obtain ⟨r2, ⟨a4, b4⟩, u4⟩ := uscale_calls 9223372036854776832 TH TL S (by omega) (by omega) hth.1 hth.2 htl.1 htl.2 hLp.out.2.2.1 hLp.out.2.2.2
  obtain ⟨n2, ⟨a5, b5⟩, u5⟩ := nudge_calls r2 0
  obtain ⟨c2, ⟨a6, b6⟩, u6⟩ := floor_calls n2 a5 b5
  obtain ⟨r3, ⟨a7, b7⟩, u7⟩ := uscale_calls 9223372036854775808 TH TL S (by omega) (by omega) hth.1 hth.2 htl.1 htl.2 hLp.out.2.2.1 hLp.out.2.2.2
  obtain ⟨c3, ⟨a8, b8⟩, u8⟩ := round_calls r3 a7 b7
  have U1 := Lib.hid u1
  clear u1
  have U2 := Lib.hid u2
  clear u2
  have U3 := Lib.hid u3
  clear u3
  have U4 := Lib.hid u4
  clear u4
  have U5 := Lib.hid u5
  clear u5
  have U6 := Lib.hid u6
  clear u6
  have U7 := Lib.hid u7
  clear u7
  have U8 := Lib.hid u8
  clear u8
  have HTH := Lib.hid hTH
  have HTL := Lib.hid hTL
  have HHI := Lib.hid hhi
  have HLO := Lib.hid hlo
  clear hTH hTL hhi hlo hth htl
  have HSS := Lib.hid hS
  have HLL := Lib.hid hLP
  clear hS hLP
  by_cases k1 : c1 ≤ c2 / 10 * 10
  · have k1d : decide (c1 ≤ c2 / 10 * 10) = true := decide_eq_true k1
    refine ⟨c2 / 10, -(P - 1), by omega, by omega, ?_⟩
    intro w hT
    have HT := Lib.hid hT
    clear hT
    have HPn := Lib.hid hPn
    clear hPn
    go_enter Tryz.func93, Tryz.ntmps93
    go_wp2_with fail
    refine (log10Pow2_calls (-1074) (by omega) (by omega) _).mono ?_
    rintro e' w0 ⟨rfl, rfl⟩
    rw [show ((-1074 : Int) * 78913 / 262144) = -P by rw [← HPn.out]; decide]
    go_wp2_with fail
    refine (log2Pow10_calls P (by have := hP.out; omega) (by have := hP.out; omega) _).mono ?_
    rintro e' w1 ⟨rfl, rfl⟩
    rw [HLL.out]
    go_wp2_with fail
    refine (prescale_calls hi lo (-1085) P LP w0 HT.out hP.out.1 hP.out.2 (by omega) (by omega) hLp.out.1 hLp.out.2.1).mono ?_
    rintro e' w2 ⟨rfl, rfl⟩
    rw [HTH.out, HTL.out, HSS.out]
    go_wp2_with fail
    refine (U1.out _ _ (by simp [go_sem]) (by simp [go_sem]) (by simp [go_sem])).mono ?_
    rintro e' w3 ⟨rfl, hb3⟩
    have q0 : w3.cell? ⟨w0.heap.size, 0, none⟩ = some (.int .u64 TH) := (hb3.cell (by simp)).trans (by simp [go_sem])
    have q1 : w3.cell? ⟨w0.heap.size, 1, none⟩ = some (.int .u64 TL) := (hb3.cell (by simp)).trans (by simp [go_sem])
    have q2 : w3.cell? ⟨w0.heap.size, 2, none⟩ = some (.int .i64 S) := (hb3.cell (by simp)).trans (by simp [go_sem])
    have B3 : Hid (Below w0.heap.size w0 w3) := ((Below.refl _ _).alloc (Nat.le_refl _) _).trans (hb3.mono (by simp))
    have hz3 : w0.heap.size < w3.heap.size := by have := hb3.size; simp at this; omega
    have Q0 := Lib.hid q0
    have Q1 := Lib.hid q1
    have Q2 := Lib.hid q2
    clear hb3 q0 q1 q2
    go_wp2_with fail
    refine (U2.out _).mono ?_
    rintro e' w4 ⟨rfl, rfl⟩
    go_wp2_with fail
    refine (U3.out _).mono ?_
    rintro e' w4 ⟨rfl, rfl⟩
    go_wp2_with fail
    refine (U4.out _ _ Q0.out Q1.out Q2.out).mono ?_
    rintro e' w5 ⟨rfl, hb5⟩
    have Q3 : Hid (w5.cell? ⟨w0.heap.size, 0, none⟩ = some (.int .u64 TH)) := (hb5.cell hz3).trans Q0.out
    have Q4 : Hid (w5.cell? ⟨w0.heap.size, 1, none⟩ = some (.int .u64 TL)) := (hb5.cell hz3).trans Q1.out
    have Q5 : Hid (w5.cell? ⟨w0.heap.size, 2, none⟩ = some (.int .i64 S)) := (hb5.cell hz3).trans Q2.out
    have B5 : Hid (Below w0.heap.size w0 w5) := B3.out.trans (hb5.mono (by omega))
    clear hb5
    go_wp2_with fail
    refine (U5.out _).mono ?_
    rintro e' w6 ⟨rfl, rfl⟩
    go_wp2_with fail
    refine (U6.out _).mono ?_
    rintro e' w6 ⟨rfl, rfl⟩
    go_wp2
    go_ret2
    exact ⟨rfl, B5.out⟩
  · have k1d : decide (c1 ≤ c2 / 10 * 10) = false := decide_eq_false k1
    by_cases k2 : c1 < c2
    · have k2d : decide (c1 < c2) = true := decide_eq_true k2
      refine ⟨c3, -P, by omega, by omega, ?_⟩
      intro w hT
      have HT := Lib.hid hT
      clear hT
      have HPn := Lib.hid hPn
      clear hPn
      go_enter Tryz.func93, Tryz.ntmps93
      go_wp2_with fail
      refine (log10Pow2_calls (-1074) (by omega) (by omega) _).mono ?_
      rintro e' w0 ⟨rfl, rfl⟩
      rw [show ((-1074 : Int) * 78913 / 262144) = -P by rw [← HPn.out]; decide]
      go_wp2_with fail
      refine (log2Pow10_calls P (by have := hP.out; omega) (by have := hP.out; omega) _).mono ?_
      rintro e' w1 ⟨rfl, rfl⟩
      rw [HLL.out]
      go_wp2_with fail
      refine (prescale_calls hi lo (-1085) P LP w0 HT.out hP.out.1 hP.out.2 (by omega) (by omega) hLp.out.1 hLp.out.2.1).mono ?_
      rintro e' w2 ⟨rfl, rfl⟩
      rw [HTH.out, HTL.out, HSS.out]
      go_wp2_with fail
      refine (U1.out _ _ (by simp [go_sem]) (by simp [go_sem]) (by simp [go_sem])).mono ?_
      rintro e' w3 ⟨rfl, hb3⟩
      have q0 : w3.cell? ⟨w0.heap.size, 0, none⟩ = some (.int .u64 TH) := (hb3.cell (by simp)).trans (by simp [go_sem])
      have q1 : w3.cell? ⟨w0.heap.size, 1, none⟩ = some (.int .u64 TL) := (hb3.cell (by simp)).trans (by simp [go_sem])
      have q2 : w3.cell? ⟨w0.heap.size, 2, none⟩ = some (.int .i64 S) := (hb3.cell (by simp)).trans (by simp [go_sem])
      have B3 : Hid (Below w0.heap.size w0 w3) := ((Below.refl _ _).alloc (Nat.le_refl _) _).trans (hb3.mono (by simp))
      have hz3 : w0.heap.size < w3.heap.size := by have := hb3.size; simp at this; omega
      have Q0 := Lib.hid q0
      have Q1 := Lib.hid q1
      have Q2 := Lib.hid q2
      clear hb3 q0 q1 q2
      go_wp2_with fail
      refine (U2.out _).mono ?_
      rintro e' w4 ⟨rfl, rfl⟩
      go_wp2_with fail
      refine (U3.out _).mono ?_
      rintro e' w4 ⟨rfl, rfl⟩
      go_wp2_with fail
      refine (U4.out _ _ Q0.out Q1.out Q2.out).mono ?_
      rintro e' w5 ⟨rfl, hb5⟩
      have Q3 : Hid (w5.cell? ⟨w0.heap.size, 0, none⟩ = some (.int .u64 TH)) := (hb5.cell hz3).trans Q0.out
      have Q4 : Hid (w5.cell? ⟨w0.heap.size, 1, none⟩ = some (.int .u64 TL)) := (hb5.cell hz3).trans Q1.out
      have Q5 : Hid (w5.cell? ⟨w0.heap.size, 2, none⟩ = some (.int .i64 S)) := (hb5.cell hz3).trans Q2.out
      have B5 : Hid (Below w0.heap.size w0 w5) := B3.out.trans (hb5.mono (by omega))
      clear hb5
      go_wp2_with fail
      refine (U5.out _).mono ?_
      rintro e' w6 ⟨rfl, rfl⟩
      go_wp2_with fail
      refine (U6.out _).mono ?_
      rintro e' w6 ⟨rfl, rfl⟩
      go_wp2_with fail
      refine (U7.out _ _ Q3.out Q4.out Q5.out).mono ?_
      rintro e' w7 ⟨rfl, hb7⟩
      have B7 : Hid (Below w0.heap.size w0 w7) := B5.out.trans (hb7.mono (by have := B5.out.size; omega))
      clear hb7
      go_wp2_with fail
      refine (U8.out _).mono ?_
      rintro e' w8 ⟨rfl, rfl⟩
      go_wp2
      go_ret2
      exact ⟨rfl, B7.out⟩
    · have k2d : decide (c1 < c2) = false := decide_eq_false k2
      refine ⟨c1, -P, by omega, by omega, ?_⟩
      intro w hT
      have HT := Lib.hid hT
      clear hT
      have HPn := Lib.hid hPn
      clear hPn
      go_enter Tryz.func93, Tryz.ntmps93
      go_wp2_with fail
      refine (log10Pow2_calls (-1074) (by omega) (by omega) _).mono ?_
      rintro e' w0 ⟨rfl, rfl⟩
      rw [show ((-1074 : Int) * 78913 / 262144) = -P by rw [← HPn.out]; decide]
      go_wp2_with fail
      refine (log2Pow10_calls P (by have := hP.out; omega) (by have := hP.out; omega) _).mono ?_
      rintro e' w1 ⟨rfl, rfl⟩
      rw [HLL.out]
      go_wp2_with fail
      refine (prescale_calls hi lo (-1085) P LP w0 HT.out hP.out.1 hP.out.2 (by omega) (by omega) hLp.out.1 hLp.out.2.1).mono ?_
      rintro e' w2 ⟨rfl, rfl⟩
      rw [HTH.out, HTL.out, HSS.out]
      go_wp2_with fail
      refine (U1.out _ _ (by simp [go_sem]) (by simp [go_sem]) (by simp [go_sem])).mono ?_
      rintro e' w3 ⟨rfl, hb3⟩
      have q0 : w3.cell? ⟨w0.heap.size, 0, none⟩ = some (.int .u64 TH) := (hb3.cell (by simp)).trans (by simp [go_sem])
      have q1 : w3.cell? ⟨w0.heap.size, 1, none⟩ = some (.int .u64 TL) := (hb3.cell (by simp)).trans (by simp [go_sem])
      have q2 : w3.cell? ⟨w0.heap.size, 2, none⟩ = some (.int .i64 S) := (hb3.cell (by simp)).trans (by simp [go_sem])
      have B3 : Hid (Below w0.heap.size w0 w3) := ((Below.refl _ _).alloc (Nat.le_refl _) _).trans (hb3.mono (by simp))
      have hz3 : w0.heap.size < w3.heap.size := by have := hb3.size; simp at this; omega
      have Q0 := Lib.hid q0
      have Q1 := Lib.hid q1
      have Q2 := Lib.hid q2
      clear hb3 q0 q1 q2
      go_wp2_with fail
      refine (U2.out _).mono ?_
      rintro e' w4 ⟨rfl, rfl⟩
      go_wp2_with fail
      refine (U3.out _).mono ?_
      rintro e' w4 ⟨rfl, rfl⟩
      go_wp2_with fail
      refine (U4.out _ _ Q0.out Q1.out Q2.out).mono ?_
      rintro e' w5 ⟨rfl, hb5⟩
      have Q3 : Hid (w5.cell? ⟨w0.heap.size, 0, none⟩ = some (.int .u64 TH)) := (hb5.cell hz3).trans Q0.out
      have Q4 : Hid (w5.cell? ⟨w0.heap.size, 1, none⟩ = some (.int .u64 TL)) := (hb5.cell hz3).trans Q1.out
      have Q5 : Hid (w5.cell? ⟨w0.heap.size, 2, none⟩ = some (.int .i64 S)) := (hb5.cell hz3).trans Q2.out
      have B5 : Hid (Below w0.heap.size w0 w5) := B3.out.trans (hb5.mono (by omega))
      clear hb5
      go_wp2_with fail
      refine (U5.out _).mono ?_
      rintro e' w6 ⟨rfl, rfl⟩
      go_wp2_with fail
      refine (U6.out _).mono ?_
      rintro e' w6 ⟨rfl, rfl⟩
      go_wp2
      go_ret2
      exact ⟨rfl, B5.out⟩
set_option maxRecDepth 100000 in
set_option maxHeartbeats 4000000 in
theorem shortFloat_a (hi lo : Nat → Int) (hhi : ∀ i, 0 ≤ hi i ∧ hi i < 18446744073709551616) (hlo : ∀ i, 0 ≤ lo i ∧ lo i < 18446744073709551616) (m e : Int) (h0 : 0 ≤ m) (h1 : m < 18446744073709551616) (e1 : e ≤ 960) (hm : m = 9223372036854775808) (he : -1085 < e) :
    ∃ d p : Int, (0 ≤ d ∧ d < 18446744073709551616) ∧ (-360 ≤ p ∧ p ≤ 360) ∧ ∀ w, TabW hi lo w → Calls Tryz.prog 93 #[.int .u64 m, .int .i64 e] w fun e' w' => e' = .returned (.tuple #[.int .u64 d, .int .i64 p]) ∧ Below w.heap.size w w' := by
  subst hm
  have hO : bits .and .i64 4503599627370496 1 = 0 := and_mask 1 (by decide) 4503599627370496 (by omega) (by omega)
  have d0 : decide (-1085 < e) = true := decide_eq_true he
  obtain ⟨P, hPn⟩ : ∃ P, -(((e + 11) * 631305 - 261663) / 2097152) = P := ⟨_, rfl⟩
  have HPn : Hid (((e + 11) * 631305 - 261663) / 2097152 = -P) := by show _ = _; omega
  have hLp : Hid (-3000 ≤ P * 108853 / 32768 ∧ P * 108853 / 32768 ≤ 3000 ∧ 0 ≤ -(e + P * 108853 / 32768 + 3) ∧ -(e + P * 108853 / 32768 + 3) ≤ 10000) := by show _ ∧ _; omega
  obtain ⟨LP, hLP⟩ : ∃ LP, P * 108853 / 32768 = LP := ⟨_, rfl⟩
  have hP : Hid (-348 ≤ P ∧ P < 348) := by show _ ∧ _; omega
  have hPb : -400 ≤ -P ∧ -P ≤ 399 := by omega
  rw [hLP] at hLp
  obtain ⟨S, hS⟩ : ∃ S, -(e + LP + 3) = S := ⟨_, rfl⟩
  rw [hS] at hLp
  obtain ⟨TH, hTH⟩ : ∃ TH, hi (P + 348).toNat = TH := ⟨_, rfl⟩
  obtain ⟨TL, hTL⟩ : ∃ TL, lo (P + 348).toNat = TL := ⟨_, rfl⟩
  have hth := hhi (P + 348).toNat
  have htl := hlo (P + 348).toNat
  rw [hTH] at hth
  rw [hTL] at htl
  obtain ⟨r1, ⟨a1, b1⟩, u1⟩ := uscale_calls 9223372036854775296 TH TL S (by omega) (by omega) hth.1 hth.2 htl.1 htl.2 hLp.out.2.2.1 hLp.out.2.2.2
  obtain ⟨n1, ⟨a2, b2⟩, u2⟩ := nudge_calls r1 0
  obtain ⟨c1, ⟨a3, b3⟩, u3⟩ := ceil_calls n1
  obtain ⟨r2, ⟨a4, b4⟩, u4⟩ := uscale_calls 9223372036854776832 TH TL S (by omega) (by omega) hth.1 hth.2 htl.1 htl.2 hLp.out.2.2.1 hLp.out.2.2.2
  obtain ⟨n2, ⟨a5, b5⟩, u5⟩ := nudge_calls r2 0
  obtain ⟨c2, ⟨a6, b6⟩, u6⟩ := floor_calls n2 a5 b5
  obtain ⟨r3, ⟨a7, b7⟩, u7⟩ := uscale_calls 9223372036854775808 TH TL S (by omega) (by omega) hth.1 hth.2 htl.1 htl.2 hLp.out.2.2.1 hLp.out.2.2.2
  obtain ⟨c3, ⟨a8, b8⟩, u8⟩ := round_calls r3 a7 b7
  have U1 := Lib.hid u1
  clear u1
  have U2 := Lib.hid u2
  clear u2
  have U3 := Lib.hid u3
  clear u3
  have U4 := Lib.hid u4
  clear u4
  have U5 := Lib.hid u5
  clear u5
  have U6 := Lib.hid u6
  clear u6
  have U7 := Lib.hid u7
  clear u7
  have U8 := Lib.hid u8
  clear u8
  have HTH := Lib.hid hTH
  have HTL := Lib.hid hTL
  have HHI := Lib.hid hhi
  have HLO := Lib.hid hlo
  clear hTH hTL hhi hlo hth htl
  have HSS := Lib.hid hS
  have HLL := Lib.hid hLP
  clear hS hLP
  by_cases k1 : c1 ≤ c2 / 10 * 10
  · have k1d : decide (c1 ≤ c2 / 10 * 10) = true := decide_eq_true k1
    refine ⟨c2 / 10, -(P - 1), by omega, by omega, ?_⟩
    intro w hT
    have HT := Lib.hid hT
    clear hT
    go_enter Tryz.func93, Tryz.ntmps93
    go_wp2_with fail
    refine (skewed_calls (e + 11) (by omega) (by omega) _).mono ?_
    rintro e' w0 ⟨rfl, rfl⟩
    rw [HPn.out]
    go_wp2_with fail
    refine (log2Pow10_calls P (by have := hP.out; omega) (by have := hP.out; omega) _).mono ?_
    rintro e' w1 ⟨rfl, rfl⟩
    rw [HLL.out]
    go_wp2_with fail
    refine (prescale_calls hi lo e P LP w0 HT.out hP.out.1 hP.out.2 (by omega) (by omega) hLp.out.1 hLp.out.2.1).mono ?_
    rintro e' w2 ⟨rfl, rfl⟩
    rw [HTH.out, HTL.out, HSS.out]
    go_wp2_with fail
    refine (U1.out _ _ (by simp [go_sem]) (by simp [go_sem]) (by simp [go_sem])).mono ?_
    rintro e' w3 ⟨rfl, hb3⟩
    have q0 : w3.cell? ⟨w0.heap.size, 0, none⟩ = some (.int .u64 TH) := (hb3.cell (by simp)).trans (by simp [go_sem])
    have q1 : w3.cell? ⟨w0.heap.size, 1, none⟩ = some (.int .u64 TL) := (hb3.cell (by simp)).trans (by simp [go_sem])
    have q2 : w3.cell? ⟨w0.heap.size, 2, none⟩ = some (.int .i64 S) := (hb3.cell (by simp)).trans (by simp [go_sem])
    have B3 : Hid (Below w0.heap.size w0 w3) := ((Below.refl _ _).alloc (Nat.le_refl _) _).trans (hb3.mono (by simp))
    have hz3 : w0.heap.size < w3.heap.size := by have := hb3.size; simp at this; omega
    have Q0 := Lib.hid q0
    have Q1 := Lib.hid q1
    have Q2 := Lib.hid q2
    clear hb3 q0 q1 q2
    go_wp2_with fail
    refine (U2.out _).mono ?_
    rintro e' w4 ⟨rfl, rfl⟩
    go_wp2_with fail
    refine (U3.out _).mono ?_
    rintro e' w4 ⟨rfl, rfl⟩
    go_wp2_with fail
    refine (U4.out _ _ Q0.out Q1.out Q2.out).mono ?_
    rintro e' w5 ⟨rfl, hb5⟩
    have Q3 : Hid (w5.cell? ⟨w0.heap.size, 0, none⟩ = some (.int .u64 TH)) := (hb5.cell hz3).trans Q0.out
    have Q4 : Hid (w5.cell? ⟨w0.heap.size, 1, none⟩ = some (.int .u64 TL)) := (hb5.cell hz3).trans Q1.out
    have Q5 : Hid (w5.cell? ⟨w0.heap.size, 2, none⟩ = some (.int .i64 S)) := (hb5.cell hz3).trans Q2.out
    have B5 : Hid (Below w0.heap.size w0 w5) := B3.out.trans (hb5.mono (by omega))
    clear hb5
    go_wp2_with fail
    refine (U5.out _).mono ?_
    rintro e' w6 ⟨rfl, rfl⟩
    go_wp2_with fail
    refine (U6.out _).mono ?_
    rintro e' w6 ⟨rfl, rfl⟩
    go_wp2
    go_ret2
    exact ⟨rfl, B5.out⟩
  · have k1d : decide (c1 ≤ c2 / 10 * 10) = false := decide_eq_false k1
    by_cases k2 : c1 < c2
    · have k2d : decide (c1 < c2) = true := decide_eq_true k2
      refine ⟨c3, -P, by omega, by omega, ?_⟩
      intro w hT
      have HT := Lib.hid hT
      clear hT
      go_enter Tryz.func93, Tryz.ntmps93
      go_wp2_with fail
      refine (skewed_calls (e + 11) (by omega) (by omega) _).mono ?_
      rintro e' w0 ⟨rfl, rfl⟩
      rw [HPn.out]
      go_wp2_with fail
      refine (log2Pow10_calls P (by have := hP.out; omega) (by have := hP.out; omega) _).mono ?_
      rintro e' w1 ⟨rfl, rfl⟩
      rw [HLL.out]
      go_wp2_with fail
      refine (prescale_calls hi lo e P LP w0 HT.out hP.out.1 hP.out.2 (by omega) (by omega) hLp.out.1 hLp.out.2.1).mono ?_
      rintro e' w2 ⟨rfl, rfl⟩
      rw [HTH.out, HTL.out, HSS.out]
      go_wp2_with fail
      refine (U1.out _ _ (by simp [go_sem]) (by simp [go_sem]) (by simp [go_sem])).mono ?_
      rintro e' w3 ⟨rfl, hb3⟩
      have q0 : w3.cell? ⟨w0.heap.size, 0, none⟩ = some (.int .u64 TH) := (hb3.cell (by simp)).trans (by simp [go_sem])
      have q1 : w3.cell? ⟨w0.heap.size, 1, none⟩ = some (.int .u64 TL) := (hb3.cell (by simp)).trans (by simp [go_sem])
      have q2 : w3.cell? ⟨w0.heap.size, 2, none⟩ = some (.int .i64 S) := (hb3.cell (by simp)).trans (by simp [go_sem])
      have B3 : Hid (Below w0.heap.size w0 w3) := ((Below.refl _ _).alloc (Nat.le_refl _) _).trans (hb3.mono (by simp))
      have hz3 : w0.heap.size < w3.heap.size := by have := hb3.size; simp at this; omega
      have Q0 := Lib.hid q0
      have Q1 := Lib.hid q1
      have Q2 := Lib.hid q2
      clear hb3 q0 q1 q2
      go_wp2_with fail
      refine (U2.out _).mono ?_
      rintro e' w4 ⟨rfl, rfl⟩
      go_wp2_with fail
      refine (U3.out _).mono ?_
      rintro e' w4 ⟨rfl, rfl⟩
      go_wp2_with fail
      refine (U4.out _ _ Q0.out Q1.out Q2.out).mono ?_
      rintro e' w5 ⟨rfl, hb5⟩
      have Q3 : Hid (w5.cell? ⟨w0.heap.size, 0, none⟩ = some (.int .u64 TH)) := (hb5.cell hz3).trans Q0.out
      have Q4 : Hid (w5.cell? ⟨w0.heap.size, 1, none⟩ = some (.int .u64 TL)) := (hb5.cell hz3).trans Q1.out
      have Q5 : Hid (w5.cell? ⟨w0.heap.size, 2, none⟩ = some (.int .i64 S)) := (hb5.cell hz3).trans Q2.out
      have B5 : Hid (Below w0.heap.size w0 w5) := B3.out.trans (hb5.mono (by omega))
      clear hb5
      go_wp2_with fail
      refine (U5.out _).mono ?_
      rintro e' w6 ⟨rfl, rfl⟩
      go_wp2_with fail
      refine (U6.out _).mono ?_
      rintro e' w6 ⟨rfl, rfl⟩
      go_wp2_with fail
      refine (U7.out _ _ Q3.out Q4.out Q5.out).mono ?_
      rintro e' w7 ⟨rfl, hb7⟩
      have B7 : Hid (Below w0.heap.size w0 w7) := B5.out.trans (hb7.mono (by have := B5.out.size; omega))
      clear hb7
      go_wp2_with fail
      refine (U8.out _).mono ?_
      rintro e' w8 ⟨rfl, rfl⟩
      go_wp2
      go_ret2
      exact ⟨rfl, B7.out⟩
    · have k2d : decide (c1 < c2) = false := decide_eq_false k2
      refine ⟨c1, -P, by omega, by omega, ?_⟩
      intro w hT
      have HT := Lib.hid hT
      clear hT
      go_enter Tryz.func93, Tryz.ntmps93
      go_wp2_with fail
      refine (skewed_calls (e + 11) (by omega) (by omega) _).mono ?_
      rintro e' w0 ⟨rfl, rfl⟩
      rw [HPn.out]
      go_wp2_with fail
      refine (log2Pow10_calls P (by have := hP.out; omega) (by have := hP.out; omega) _).mono ?_
      rintro e' w1 ⟨rfl, rfl⟩
      rw [HLL.out]
      go_wp2_with fail
      refine (prescale_calls hi lo e P LP w0 HT.out hP.out.1 hP.out.2 (by omega) (by omega) hLp.out.1 hLp.out.2.1).mono ?_
      rintro e' w2 ⟨rfl, rfl⟩
      rw [HTH.out, HTL.out, HSS.out]
      go_wp2_with fail
      refine (U1.out _ _ (by simp [go_sem]) (by simp [go_sem]) (by simp [go_sem])).mono ?_
      rintro e' w3 ⟨rfl, hb3⟩
      have q0 : w3.cell? ⟨w0.heap.size, 0, none⟩ = some (.int .u64 TH) := (hb3.cell (by simp)).trans (by simp [go_sem])
      have q1 : w3.cell? ⟨w0.heap.size, 1, none⟩ = some (.int .u64 TL) := (hb3.cell (by simp)).trans (by simp [go_sem])
      have q2 : w3.cell? ⟨w0.heap.size, 2, none⟩ = some (.int .i64 S) := (hb3.cell (by simp)).trans (by simp [go_sem])
      have B3 : Hid (Below w0.heap.size w0 w3) := ((Below.refl _ _).alloc (Nat.le_refl _) _).trans (hb3.mono (by simp))
      have hz3 : w0.heap.size < w3.heap.size := by have := hb3.size; simp at this; omega
      have Q0 := Lib.hid q0
      have Q1 := Lib.hid q1
      have Q2 := Lib.hid q2
      clear hb3 q0 q1 q2
      go_wp2_with fail
      refine (U2.out _).mono ?_
      rintro e' w4 ⟨rfl, rfl⟩
      go_wp2_with fail
      refine (U3.out _).mono ?_
      rintro e' w4 ⟨rfl, rfl⟩
      go_wp2_with fail
      refine (U4.out _ _ Q0.out Q1.out Q2.out).mono ?_
      rintro e' w5 ⟨rfl, hb5⟩
      have Q3 : Hid (w5.cell? ⟨w0.heap.size, 0, none⟩ = some (.int .u64 TH)) := (hb5.cell hz3).trans Q0.out
      have Q4 : Hid (w5.cell? ⟨w0.heap.size, 1, none⟩ = some (.int .u64 TL)) := (hb5.cell hz3).trans Q1.out
      have Q5 : Hid (w5.cell? ⟨w0.heap.size, 2, none⟩ = some (.int .i64 S)) := (hb5.cell hz3).trans Q2.out
      have B5 : Hid (Below w0.heap.size w0 w5) := B3.out.trans (hb5.mono (by omega))
      clear hb5
      go_wp2_with fail
      refine (U5.out _).mono ?_
      rintro e' w6 ⟨rfl, rfl⟩
      go_wp2_with fail
      refine (U6.out _).mono ?_
      rintro e' w6 ⟨rfl, rfl⟩
      go_wp2
      go_ret2
      exact ⟨rfl, B5.out⟩
set_option maxRecDepth 100000 in
set_option maxHeartbeats 4000000 in
theorem shortFloat_c (hi lo : Nat → Int) (hhi : ∀ i, 0 ≤ hi i ∧ hi i < 18446744073709551616) (hlo : ∀ i, 0 ≤ lo i ∧ lo i < 18446744073709551616) (m e : Int) (h0 : 0 ≤ m) (h1 : m < 18446744073709551616) (he : e < -1085) (he2 : -1137 ≤ e) (hm : m ≠ 9223372036854775808) :
    ∃ d p : Int, (0 ≤ d ∧ d < 18446744073709551616) ∧ (-360 ≤ p ∧ p ≤ 360) ∧ ∀ w, TabW hi lo w → Calls Tryz.prog 93 #[.int .u64 m, .int .i64 e] w fun e' w' => e' = .returned (.tuple #[.int .u64 d, .int .i64 p]) ∧ Below w.heap.size w w' := by
  have hmb : (m == 9223372036854775808) = false := by rw [beq_eq_false_iff_ne]; exact hm
  have d1 : decide (-1085 ≤ e) = false := decide_eq_false (by omega)
  obtain ⟨P, hPn⟩ : ∃ P : Int, (324 : Int) = P := ⟨_, rfl⟩
  obtain ⟨Z, hZ⟩ : ∃ Z : Nat, -1074 - e = Z := ⟨(-1074 - e).toNat, by omega⟩
  have hZb : 12 ≤ Z ∧ Z ≤ 63 := by omega
  have hpz : (4096 : Int) ≤ 2 ^ Z := by
    have := Nat.pow_le_pow_right (n := 2) (by decide) (show 12 ≤ Z by omega)
    exact_mod_cast this
  have hmz : 0 ≤ m / 2 ^ Z ∧ m / 2 ^ Z < 1152921504606846976 := by
    generalize (2 : Int) ^ Z = T at hpz
    have hq : m < 1152921504606846976 * T := by omega
    exact ⟨Int.ediv_nonneg (by omega) (by omega), Int.ediv_lt_of_lt_mul (by omega) hq⟩
  obtain ⟨M, hM⟩ : ∃ M, m / 2 ^ Z = M := ⟨_, rfl⟩
  rw [hM] at hmz
  obtain ⟨O, hO⟩ : ∃ O, bits .and .i64 M 1 = O := ⟨_, rfl⟩
  have hO' : O = M % 2 := by rw [← hO]; exact and_mask 1 (by decide) _ (by omega) (by omega)
  have hO2 : 0 ≤ O ∧ O ≤ 1 := by omega
  clear hO' hpz
  obtain ⟨X, hX⟩ : ∃ X, IntKind.u64.wrap (m - IntKind.u64.wrap (2 ^ (Z - 1))) = X := ⟨_, rfl⟩
  obtain ⟨Y, hY⟩ : ∃ Y, IntKind.u64.wrap (m + IntKind.u64.wrap (2 ^ (Z - 1))) = Y := ⟨_, rfl⟩
  have X0 : 0 ≤ X ∧ X < 18446744073709551616 := hX ▸ u64_range _
  have Y0 : 0 ≤ Y ∧ Y < 18446744073709551616 := hY ▸ u64_range _

  have hLp : Hid (-3000 ≤ P * 108853 / 32768 ∧ P * 108853 / 32768 ≤ 3000 ∧ 0 ≤ -(e + P * 108853 / 32768 + 3) ∧ -(e + P * 108853 / 32768 + 3) ≤ 10000) := by show _ ∧ _; omega
  obtain ⟨LP, hLP⟩ : ∃ LP, P * 108853 / 32768 = LP := ⟨_, rfl⟩
  have hP : Hid (-348 ≤ P ∧ P < 348) := by show _ ∧ _; omega
  have hPb : -400 ≤ -P ∧ -P ≤ 399 := by omega
  rw [hLP] at hLp
  obtain ⟨S, hS⟩ : ∃ S, -(e + LP + 3) = S := ⟨_, rfl⟩
  rw [hS] at hLp
  obtain ⟨TH, hTH⟩ : ∃ TH, hi (P + 348).toNat = TH := ⟨_, rfl⟩
  obtain ⟨TL, hTL⟩ : ∃ TL, lo (P + 348).toNat = TL := ⟨_, rfl⟩
  have hth := hhi (P + 348).toNat
  have htl := hlo (P + 348).toNat
  rw [hTH] at hth
  rw [hTL] at htl
  obtain ⟨r1, ⟨a1, b1⟩, u1⟩ := uscale_calls X TH TL S (by omega) (by omega) hth.1 hth.2 htl.1 htl.2 hLp.out.2.2.1 hLp.out.2.2.2
  obtain ⟨n1, ⟨a2, b2⟩, u2⟩ := nudge_calls r1 O
  obtain ⟨c1, ⟨a3, b3⟩, u3⟩ := ceil_calls n1
  obtain ⟨r2, ⟨a4, b4⟩, u4⟩ := uscale_calls Y TH TL S (by omega) (by omega) hth.1 hth.2 htl.1 htl.2 hLp.out.2.2.1 hLp.out.2.2.2
  obtain ⟨n2, ⟨a5, b5⟩, u5⟩ := nudge_calls r2 (-O)
  obtain ⟨c2, ⟨a6, b6⟩, u6⟩ := floor_calls n2 a5 b5
  obtain ⟨r3, ⟨a7, b7⟩, u7⟩ := uscale_calls m TH TL S (by omega) (by omega) hth.1 hth.2 htl.1 htl.2 hLp.out.2.2.1 hLp.out.2.2.2
  obtain ⟨c3, ⟨a8, b8⟩, u8⟩ := round_calls r3 a7 b7
  have U1 := Lib.hid u1
  clear u1
  have U2 := Lib.hid u2
  clear u2
  have U3 := Lib.hid u3
  clear u3
  have U4 := Lib.hid u4
  clear u4
  have U5 := Lib.hid u5
  clear u5
  have U6 := Lib.hid u6
  clear u6
  have U7 := Lib.hid u7
  clear u7
  have U8 := Lib.hid u8
  clear u8
  have HTH := Lib.hid hTH
  have HTL := Lib.hid hTL
  have HHI := Lib.hid hhi
  have HLO := Lib.hid hlo
  clear hTH hTL hhi hlo hth htl
  have HSS := Lib.hid hS
  have HLL := Lib.hid hLP
  clear hS hLP
  by_cases k1 : c1 ≤ c2 / 10 * 10
  · have k1d : decide (c1 ≤ c2 / 10 * 10) = true := decide_eq_true k1
    refine ⟨c2 / 10, -(P - 1), by omega, by omega, ?_⟩
    intro w hT
    have HT := Lib.hid hT
    clear hT
    have HPn := Lib.hid hPn
    have HZ := Lib.hid hZ
    clear hPn hZ
    go_enter Tryz.func93, Tryz.ntmps93
    go_wp2_with fail
    rw [show (11 + (-1085 - e)) = (Z : Int) by have := HZ.out; omega]
    rw [show e + (Z : Int) = -1074 by have := HZ.out; omega]
    refine (log10Pow2_calls (-1074) (by omega) (by omega) _).mono ?_
    rintro e' w0 ⟨rfl, rfl⟩
    rw [show ((-1074 : Int) * 78913 / 262144) = -P by rw [← HPn.out]; decide]
    go_wp2_with fail
    refine (log2Pow10_calls P (by have := hP.out; omega) (by have := hP.out; omega) _).mono ?_
    rintro e' w1 ⟨rfl, rfl⟩
    rw [HLL.out]
    go_wp2_with fail
    refine (prescale_calls hi lo e P LP w0 HT.out hP.out.1 hP.out.2 (by omega) (by omega) hLp.out.1 hLp.out.2.1).mono ?_
    rintro e' w2 ⟨rfl, rfl⟩
    rw [HTH.out, HTL.out, HSS.out]
    go_wp2_with fail
    refine (U1.out _ _ (by simp [go_sem]) (by simp [go_sem]) (by simp [go_sem])).mono ?_
    rintro e' w3 ⟨rfl, hb3⟩
    have q0 : w3.cell? ⟨w0.heap.size, 0, none⟩ = some (.int .u64 TH) := (hb3.cell (by simp)).trans (by simp [go_sem])
    have q1 : w3.cell? ⟨w0.heap.size, 1, none⟩ = some (.int .u64 TL) := (hb3.cell (by simp)).trans (by simp [go_sem])
    have q2 : w3.cell? ⟨w0.heap.size, 2, none⟩ = some (.int .i64 S) := (hb3.cell (by simp)).trans (by simp [go_sem])
    have B3 : Hid (Below w0.heap.size w0 w3) := ((Below.refl _ _).alloc (Nat.le_refl _) _).trans (hb3.mono (by simp))
    have hz3 : w0.heap.size < w3.heap.size := by have := hb3.size; simp at this; omega
    have Q0 := Lib.hid q0
    have Q1 := Lib.hid q1
    have Q2 := Lib.hid q2
    clear hb3 q0 q1 q2
    go_wp2_with fail
    refine (U2.out _).mono ?_
    rintro e' w4 ⟨rfl, rfl⟩
    go_wp2_with fail
    refine (U3.out _).mono ?_
    rintro e' w4 ⟨rfl, rfl⟩
    go_wp2_with fail
    refine (U4.out _ _ Q0.out Q1.out Q2.out).mono ?_
    rintro e' w5 ⟨rfl, hb5⟩
    have Q3 : Hid (w5.cell? ⟨w0.heap.size, 0, none⟩ = some (.int .u64 TH)) := (hb5.cell hz3).trans Q0.out
    have Q4 : Hid (w5.cell? ⟨w0.heap.size, 1, none⟩ = some (.int .u64 TL)) := (hb5.cell hz3).trans Q1.out
    have Q5 : Hid (w5.cell? ⟨w0.heap.size, 2, none⟩ = some (.int .i64 S)) := (hb5.cell hz3).trans Q2.out
    have B5 : Hid (Below w0.heap.size w0 w5) := B3.out.trans (hb5.mono (by omega))
    clear hb5
    go_wp2_with fail
    refine (U5.out _).mono ?_
    rintro e' w6 ⟨rfl, rfl⟩
    go_wp2_with fail
    refine (U6.out _).mono ?_
    rintro e' w6 ⟨rfl, rfl⟩
    go_wp2
    go_ret2
    exact ⟨rfl, B5.out⟩
  · have k1d : decide (c1 ≤ c2 / 10 * 10) = false := decide_eq_false k1
    by_cases k2 : c1 < c2
    · have k2d : decide (c1 < c2) = true := decide_eq_true k2
      refine ⟨c3, -P, by omega, by omega, ?_⟩
      intro w hT
      have HT := Lib.hid hT
      clear hT
      have HPn := Lib.hid hPn
      have HZ := Lib.hid hZ
      clear hPn hZ
      go_enter Tryz.func93, Tryz.ntmps93
      go_wp2_with fail
      rw [show (11 + (-1085 - e)) = (Z : Int) by have := HZ.out; omega]
      rw [show e + (Z : Int) = -1074 by have := HZ.out; omega]
      refine (log10Pow2_calls (-1074) (by omega) (by omega) _).mono ?_
      rintro e' w0 ⟨rfl, rfl⟩
      rw [show ((-1074 : Int) * 78913 / 262144) = -P by rw [← HPn.out]; decide]
      go_wp2_with fail
      refine (log2Pow10_calls P (by have := hP.out; omega) (by have := hP.out; omega) _).mono ?_
      rintro e' w1 ⟨rfl, rfl⟩
      rw [HLL.out]
      go_wp2_with fail
      refine (prescale_calls hi lo e P LP w0 HT.out hP.out.1 hP.out.2 (by omega) (by omega) hLp.out.1 hLp.out.2.1).mono ?_
      rintro e' w2 ⟨rfl, rfl⟩
      rw [HTH.out, HTL.out, HSS.out]
      go_wp2_with fail
      refine (U1.out _ _ (by simp [go_sem]) (by simp [go_sem]) (by simp [go_sem])).mono ?_
      rintro e' w3 ⟨rfl, hb3⟩
      have q0 : w3.cell? ⟨w0.heap.size, 0, none⟩ = some (.int .u64 TH) := (hb3.cell (by simp)).trans (by simp [go_sem])
      have q1 : w3.cell? ⟨w0.heap.size, 1, none⟩ = some (.int .u64 TL) := (hb3.cell (by simp)).trans (by simp [go_sem])
      have q2 : w3.cell? ⟨w0.heap.size, 2, none⟩ = some (.int .i64 S) := (hb3.cell (by simp)).trans (by simp [go_sem])
      have B3 : Hid (Below w0.heap.size w0 w3) := ((Below.refl _ _).alloc (Nat.le_refl _) _).trans (hb3.mono (by simp))
      have hz3 : w0.heap.size < w3.heap.size := by have := hb3.size; simp at this; omega
      have Q0 := Lib.hid q0
      have Q1 := Lib.hid q1
      have Q2 := Lib.hid q2
      clear hb3 q0 q1 q2
      go_wp2_with fail
      refine (U2.out _).mono ?_
      rintro e' w4 ⟨rfl, rfl⟩
      go_wp2_with fail
      refine (U3.out _).mono ?_
      rintro e' w4 ⟨rfl, rfl⟩
      go_wp2_with fail
      refine (U4.out _ _ Q0.out Q1.out Q2.out).mono ?_
      rintro e' w5 ⟨rfl, hb5⟩
      have Q3 : Hid (w5.cell? ⟨w0.heap.size, 0, none⟩ = some (.int .u64 TH)) := (hb5.cell hz3).trans Q0.out
      have Q4 : Hid (w5.cell? ⟨w0.heap.size, 1, none⟩ = some (.int .u64 TL)) := (hb5.cell hz3).trans Q1.out
      have Q5 : Hid (w5.cell? ⟨w0.heap.size, 2, none⟩ = some (.int .i64 S)) := (hb5.cell hz3).trans Q2.out
      have B5 : Hid (Below w0.heap.size w0 w5) := B3.out.trans (hb5.mono (by omega))
      clear hb5
      go_wp2_with fail
      refine (U5.out _).mono ?_
      rintro e' w6 ⟨rfl, rfl⟩
      go_wp2_with fail
      refine (U6.out _).mono ?_
      rintro e' w6 ⟨rfl, rfl⟩
      go_wp2_with fail
      refine (U7.out _ _ Q3.out Q4.out Q5.out).mono ?_
      rintro e' w7 ⟨rfl, hb7⟩
      have B7 : Hid (Below w0.heap.size w0 w7) := B5.out.trans (hb7.mono (by have := B5.out.size; omega))
      clear hb7
      go_wp2_with fail
      refine (U8.out _).mono ?_
      rintro e' w8 ⟨rfl, rfl⟩
      go_wp2
      go_ret2
      exact ⟨rfl, B7.out⟩
    · have k2d : decide (c1 < c2) = false := decide_eq_false k2
      refine ⟨c1, -P, by omega, by omega, ?_⟩
      intro w hT
      have HT := Lib.hid hT
      clear hT
      have HPn := Lib.hid hPn
      have HZ := Lib.hid hZ
      clear hPn hZ
      go_enter Tryz.func93, Tryz.ntmps93
      go_wp2_with fail
      rw [show (11 + (-1085 - e)) = (Z : Int) by have := HZ.out; omega]
      rw [show e + (Z : Int) = -1074 by have := HZ.out; omega]
      refine (log10Pow2_calls (-1074) (by omega) (by omega) _).mono ?_
      rintro e' w0 ⟨rfl, rfl⟩
      rw [show ((-1074 : Int) * 78913 / 262144) = -P by rw [← HPn.out]; decide]
      go_wp2_with fail
      refine (log2Pow10_calls P (by have := hP.out; omega) (by have := hP.out; omega) _).mono ?_
      rintro e' w1 ⟨rfl, rfl⟩
      rw [HLL.out]
      go_wp2_with fail
      refine (prescale_calls hi lo e P LP w0 HT.out hP.out.1 hP.out.2 (by omega) (by omega) hLp.out.1 hLp.out.2.1).mono ?_
      rintro e' w2 ⟨rfl, rfl⟩
      rw [HTH.out, HTL.out, HSS.out]
      go_wp2_with fail
      refine (U1.out _ _ (by simp [go_sem]) (by simp [go_sem]) (by simp [go_sem])).mono ?_
      rintro e' w3 ⟨rfl, hb3⟩
      have q0 : w3.cell? ⟨w0.heap.size, 0, none⟩ = some (.int .u64 TH) := (hb3.cell (by simp)).trans (by simp [go_sem])
      have q1 : w3.cell? ⟨w0.heap.size, 1, none⟩ = some (.int .u64 TL) := (hb3.cell (by simp)).trans (by simp [go_sem])
      have q2 : w3.cell? ⟨w0.heap.size, 2, none⟩ = some (.int .i64 S) := (hb3.cell (by simp)).trans (by simp [go_sem])
      have B3 : Hid (Below w0.heap.size w0 w3) := ((Below.refl _ _).alloc (Nat.le_refl _) _).trans (hb3.mono (by simp))
      have hz3 : w0.heap.size < w3.heap.size := by have := hb3.size; simp at this; omega
      have Q0 := Lib.hid q0
      have Q1 := Lib.hid q1
      have Q2 := Lib.hid q2
      clear hb3 q0 q1 q2
      go_wp2_with fail
      refine (U2.out _).mono ?_
      rintro e' w4 ⟨rfl, rfl⟩
      go_wp2_with fail
      refine (U3.out _).mono ?_
      rintro e' w4 ⟨rfl, rfl⟩
      go_wp2_with fail
      refine (U4.out _ _ Q0.out Q1.out Q2.out).mono ?_
      rintro e' w5 ⟨rfl, hb5⟩
      have Q3 : Hid (w5.cell? ⟨w0.heap.size, 0, none⟩ = some (.int .u64 TH)) := (hb5.cell hz3).trans Q0.out
      have Q4 : Hid (w5.cell? ⟨w0.heap.size, 1, none⟩ = some (.int .u64 TL)) := (hb5.cell hz3).trans Q1.out
      have Q5 : Hid (w5.cell? ⟨w0.heap.size, 2, none⟩ = some (.int .i64 S)) := (hb5.cell hz3).trans Q2.out
      have B5 : Hid (Below w0.heap.size w0 w5) := B3.out.trans (hb5.mono (by omega))
      clear hb5
      go_wp2_with fail
      refine (U5.out _).mono ?_
      rintro e' w6 ⟨rfl, rfl⟩
      go_wp2_with fail
      refine (U6.out _).mono ?_
      rintro e' w6 ⟨rfl, rfl⟩
      go_wp2
      go_ret2
      exact ⟨rfl, B5.out⟩
set_option maxRecDepth 100000 in
set_option maxHeartbeats 4000000 in
theorem shortFloat_f (hi lo : Nat → Int) (hhi : ∀ i, 0 ≤ hi i ∧ hi i < 18446744073709551616) (hlo : ∀ i, 0 ≤ lo i ∧ lo i < 18446744073709551616) (m e : Int) (h0 : 0 ≤ m) (h1 : m < 18446744073709551616) (he : e < -1085) (he2 : -1137 ≤ e) (hm : m = 9223372036854775808) :
    ∃ d p : Int, (0 ≤ d ∧ d < 18446744073709551616) ∧ (-360 ≤ p ∧ p ≤ 360) ∧ ∀ w, TabW hi lo w → Calls Tryz.prog 93 #[.int .u64 m, .int .i64 e] w fun e' w' => e' = .returned (.tuple #[.int .u64 d, .int .i64 p]) ∧ Below w.heap.size w w' := by
  subst hm
  have d0 : decide (-1085 < e) = false := decide_eq_false (by omega)
  have d1 : decide (-1085 ≤ e) = false := decide_eq_false (by omega)
  obtain ⟨P, hPn⟩ : ∃ P : Int, (324 : Int) = P := ⟨_, rfl⟩
  obtain ⟨Z, hZ⟩ : ∃ Z : Nat, -1074 - e = Z := ⟨(-1074 - e).toNat, by omega⟩
  have hZb : 12 ≤ Z ∧ Z ≤ 63 := by omega
  have hpz : (4096 : Int) ≤ 2 ^ Z := by
    have := Nat.pow_le_pow_right (n := 2) (by decide) (show 12 ≤ Z by omega)
    exact_mod_cast this
  have hmz : 0 ≤ (9223372036854775808 : Int) / 2 ^ Z ∧ (9223372036854775808 : Int) / 2 ^ Z < 1152921504606846976 := by
    generalize (2 : Int) ^ Z = T at hpz
    have hq : (9223372036854775808 : Int) < 1152921504606846976 * T := by omega
    exact ⟨Int.ediv_nonneg (by omega) (by omega), Int.ediv_lt_of_lt_mul (by omega) hq⟩
  obtain ⟨M, hM⟩ : ∃ M, (9223372036854775808 : Int) / 2 ^ Z = M := ⟨_, rfl⟩
  rw [hM] at hmz
  obtain ⟨O, hO⟩ : ∃ O, bits .and .i64 M 1 = O := ⟨_, rfl⟩
  have hO' : O = M % 2 := by rw [← hO]; exact and_mask 1 (by decide) _ (by omega) (by omega)
  have hO2 : 0 ≤ O ∧ O ≤ 1 := by omega
  clear hO' hpz
  obtain ⟨X, hX⟩ : ∃ X, IntKind.u64.wrap (9223372036854775808 - IntKind.u64.wrap (2 ^ (Z - 1))) = X := ⟨_, rfl⟩
  obtain ⟨Y, hY⟩ : ∃ Y, IntKind.u64.wrap (9223372036854775808 + IntKind.u64.wrap (2 ^ (Z - 1))) = Y := ⟨_, rfl⟩
  have X0 : 0 ≤ X ∧ X < 18446744073709551616 := hX ▸ u64_range _
  have Y0 : 0 ≤ Y ∧ Y < 18446744073709551616 := hY ▸ u64_range _

  have hLp : Hid (-3000 ≤ P * 108853 / 32768 ∧ P * 108853 / 32768 ≤ 3000 ∧ 0 ≤ -(e + P * 108853 / 32768 + 3) ∧ -(e + P * 108853 / 32768 + 3) ≤ 10000) := by show _ ∧ _; omega
  obtain ⟨LP, hLP⟩ : ∃ LP, P * 108853 / 32768 = LP := ⟨_, rfl⟩
  have hP : Hid (-348 ≤ P ∧ P < 348) := by show _ ∧ _; omega
  have hPb : -400 ≤ -P ∧ -P ≤ 399 := by omega
  rw [hLP] at hLp
  obtain ⟨S, hS⟩ : ∃ S, -(e + LP + 3) = S := ⟨_, rfl⟩
  rw [hS] at hLp
  obtain ⟨TH, hTH⟩ : ∃ TH, hi (P + 348).toNat = TH := ⟨_, rfl⟩
  obtain ⟨TL, hTL⟩ : ∃ TL, lo (P + 348).toNat = TL := ⟨_, rfl⟩
  have hth := hhi (P + 348).toNat
  have htl := hlo (P + 348).toNat
  rw [hTH] at hth
  rw [hTL] at htl
  obtain ⟨r1, ⟨a1, b1⟩, u1⟩ := uscale_calls X TH TL S (by omega) (by omega) hth.1 hth.2 htl.1 htl.2 hLp.out.2.2.1 hLp.out.2.2.2
  obtain ⟨n1, ⟨a2, b2⟩, u2⟩ := nudge_calls r1 O
  obtain ⟨c1, ⟨a3, b3⟩, u3⟩ := ceil_calls n1
  obtain ⟨r2, ⟨a4, b4⟩, u4⟩ := uscale_calls Y TH TL S (by omega) (by omega) hth.1 hth.2 htl.1 htl.2 hLp.out.2.2.1 hLp.out.2.2.2
  obtain ⟨n2, ⟨a5, b5⟩, u5⟩ := nudge_calls r2 (-O)
  obtain ⟨c2, ⟨a6, b6⟩, u6⟩ := floor_calls n2 a5 b5
  obtain ⟨r3, ⟨a7, b7⟩, u7⟩ := uscale_calls 9223372036854775808 TH TL S (by omega) (by omega) hth.1 hth.2 htl.1 htl.2 hLp.out.2.2.1 hLp.out.2.2.2
  obtain ⟨c3, ⟨a8, b8⟩, u8⟩ := round_calls r3 a7 b7
  have U1 := Lib.hid u1
  clear u1
  have U2 := Lib.hid u2
  clear u2
  have U3 := Lib.hid u3
  clear u3
  have U4 := Lib.hid u4
  clear u4
  have U5 := Lib.hid u5
  clear u5
  have U6 := Lib.hid u6
  clear u6
  have U7 := Lib.hid u7
  clear u7
  have U8 := Lib.hid u8
  clear u8
  have HTH := Lib.hid hTH
  have HTL := Lib.hid hTL
  have HHI := Lib.hid hhi
  have HLO := Lib.hid hlo
  clear hTH hTL hhi hlo hth htl
  have HSS := Lib.hid hS
  have HLL := Lib.hid hLP
  clear hS hLP
  by_cases k1 : c1 ≤ c2 / 10 * 10
  · have k1d : decide (c1 ≤ c2 / 10 * 10) = true := decide_eq_true k1
    refine ⟨c2 / 10, -(P - 1), by omega, by omega, ?_⟩
    intro w hT
    have HT := Lib.hid hT
    clear hT
    have HPn := Lib.hid hPn
    have HZ := Lib.hid hZ
    clear hPn hZ
    go_enter Tryz.func93, Tryz.ntmps93
    go_wp2_with fail
    rw [show (11 + (-1085 - e)) = (Z : Int) by have := HZ.out; omega]
    rw [show e + (Z : Int) = -1074 by have := HZ.out; omega]
    refine (log10Pow2_calls (-1074) (by omega) (by omega) _).mono ?_
    rintro e' w0 ⟨rfl, rfl⟩
    rw [show ((-1074 : Int) * 78913 / 262144) = -P by rw [← HPn.out]; decide]
    go_wp2_with fail
    refine (log2Pow10_calls P (by have := hP.out; omega) (by have := hP.out; omega) _).mono ?_
    rintro e' w1 ⟨rfl, rfl⟩
    rw [HLL.out]
    go_wp2_with fail
    refine (prescale_calls hi lo e P LP w0 HT.out hP.out.1 hP.out.2 (by omega) (by omega) hLp.out.1 hLp.out.2.1).mono ?_
    rintro e' w2 ⟨rfl, rfl⟩
    rw [HTH.out, HTL.out, HSS.out]
    go_wp2_with fail
    refine (U1.out _ _ (by simp [go_sem]) (by simp [go_sem]) (by simp [go_sem])).mono ?_
    rintro e' w3 ⟨rfl, hb3⟩
    have q0 : w3.cell? ⟨w0.heap.size, 0, none⟩ = some (.int .u64 TH) := (hb3.cell (by simp)).trans (by simp [go_sem])
    have q1 : w3.cell? ⟨w0.heap.size, 1, none⟩ = some (.int .u64 TL) := (hb3.cell (by simp)).trans (by simp [go_sem])
    have q2 : w3.cell? ⟨w0.heap.size, 2, none⟩ = some (.int .i64 S) := (hb3.cell (by simp)).trans (by simp [go_sem])
    have B3 : Hid (Below w0.heap.size w0 w3) := ((Below.refl _ _).alloc (Nat.le_refl _) _).trans (hb3.mono (by simp))
    have hz3 : w0.heap.size < w3.heap.size := by have := hb3.size; simp at this; omega
    have Q0 := Lib.hid q0
    have Q1 := Lib.hid q1
    have Q2 := Lib.hid q2
    clear hb3 q0 q1 q2
    go_wp2_with fail
    refine (U2.out _).mono ?_
    rintro e' w4 ⟨rfl, rfl⟩
    go_wp2_with fail
    refine (U3.out _).mono ?_
    rintro e' w4 ⟨rfl, rfl⟩
    go_wp2_with fail
    refine (U4.out _ _ Q0.out Q1.out Q2.out).mono ?_
    rintro e' w5 ⟨rfl, hb5⟩
    have Q3 : Hid (w5.cell? ⟨w0.heap.size, 0, none⟩ = some (.int .u64 TH)) := (hb5.cell hz3).trans Q0.out
    have Q4 : Hid (w5.cell? ⟨w0.heap.size, 1, none⟩ = some (.int .u64 TL)) := (hb5.cell hz3).trans Q1.out
    have Q5 : Hid (w5.cell? ⟨w0.heap.size, 2, none⟩ = some (.int .i64 S)) := (hb5.cell hz3).trans Q2.out
    have B5 : Hid (Below w0.heap.size w0 w5) := B3.out.trans (hb5.mono (by omega))
    clear hb5
    go_wp2_with fail
    refine (U5.out _).mono ?_
    rintro e' w6 ⟨rfl, rfl⟩
    go_wp2_with fail
    refine (U6.out _).mono ?_
    rintro e' w6 ⟨rfl, rfl⟩
    go_wp2
    go_ret2
    exact ⟨rfl, B5.out⟩
  · have k1d : decide (c1 ≤ c2 / 10 * 10) = false := decide_eq_false k1
    by_cases k2 : c1 < c2
    · have k2d : decide (c1 < c2) = true := decide_eq_true k2
      refine ⟨c3, -P, by omega, by omega, ?_⟩
      intro w hT
      have HT := Lib.hid hT
      clear hT
      have HPn := Lib.hid hPn
      have HZ := Lib.hid hZ
      clear hPn hZ
      go_enter Tryz.func93, Tryz.ntmps93
      go_wp2_with fail
      rw [show (11 + (-1085 - e)) = (Z : Int) by have := HZ.out; omega]
      rw [show e + (Z : Int) = -1074 by have := HZ.out; omega]
      refine (log10Pow2_calls (-1074) (by omega) (by omega) _).mono ?_
      rintro e' w0 ⟨rfl, rfl⟩
      rw [show ((-1074 : Int) * 78913 / 262144) = -P by rw [← HPn.out]; decide]
      go_wp2_with fail
      refine (log2Pow10_calls P (by have := hP.out; omega) (by have := hP.out; omega) _).mono ?_
      rintro e' w1 ⟨rfl, rfl⟩
      rw [HLL.out]
      go_wp2_with fail
      refine (prescale_calls hi lo e P LP w0 HT.out hP.out.1 hP.out.2 (by omega) (by omega) hLp.out.1 hLp.out.2.1).mono ?_
      rintro e' w2 ⟨rfl, rfl⟩
      rw [HTH.out, HTL.out, HSS.out]
      go_wp2_with fail
      refine (U1.out _ _ (by simp [go_sem]) (by simp [go_sem]) (by simp [go_sem])).mono ?_
      rintro e' w3 ⟨rfl, hb3⟩
      have q0 : w3.cell? ⟨w0.heap.size, 0, none⟩ = some (.int .u64 TH) := (hb3.cell (by simp)).trans (by simp [go_sem])
      have q1 : w3.cell? ⟨w0.heap.size, 1, none⟩ = some (.int .u64 TL) := (hb3.cell (by simp)).trans (by simp [go_sem])
      have q2 : w3.cell? ⟨w0.heap.size, 2, none⟩ = some (.int .i64 S) := (hb3.cell (by simp)).trans (by simp [go_sem])
      have B3 : Hid (Below w0.heap.size w0 w3) := ((Below.refl _ _).alloc (Nat.le_refl _) _).trans (hb3.mono (by simp))
      have hz3 : w0.heap.size < w3.heap.size := by have := hb3.size; simp at this; omega
      have Q0 := Lib.hid q0
      have Q1 := Lib.hid q1
      have Q2 := Lib.hid q2
      clear hb3 q0 q1 q2
      go_wp2_with fail
      refine (U2.out _).mono ?_
      rintro e' w4 ⟨rfl, rfl⟩
      go_wp2_with fail
      refine (U3.out _).mono ?_
      rintro e' w4 ⟨rfl, rfl⟩
      go_wp2_with fail
      refine (U4.out _ _ Q0.out Q1.out Q2.out).mono ?_
      rintro e' w5 ⟨rfl, hb5⟩
      have Q3 : Hid (w5.cell? ⟨w0.heap.size, 0, none⟩ = some (.int .u64 TH)) := (hb5.cell hz3).trans Q0.out
      have Q4 : Hid (w5.cell? ⟨w0.heap.size, 1, none⟩ = some (.int .u64 TL)) := (hb5.cell hz3).trans Q1.out
      have Q5 : Hid (w5.cell? ⟨w0.heap.size, 2, none⟩ = some (.int .i64 S)) := (hb5.cell hz3).trans Q2.out
      have B5 : Hid (Below w0.heap.size w0 w5) := B3.out.trans (hb5.mono (by omega))
      clear hb5
      go_wp2_with fail
      refine (U5.out _).mono ?_
      rintro e' w6 ⟨rfl, rfl⟩
      go_wp2_with fail
      refine (U6.out _).mono ?_
      rintro e' w6 ⟨rfl, rfl⟩
      go_wp2_with fail
      refine (U7.out _ _ Q3.out Q4.out Q5.out).mono ?_
      rintro e' w7 ⟨rfl, hb7⟩
      have B7 : Hid (Below w0.heap.size w0 w7) := B5.out.trans (hb7.mono (by have := B5.out.size; omega))
      clear hb7
      go_wp2_with fail
      refine (U8.out _).mono ?_
      rintro e' w8 ⟨rfl, rfl⟩
      go_wp2
      go_ret2
      exact ⟨rfl, B7.out⟩
    · have k2d : decide (c1 < c2) = false := decide_eq_false k2
      refine ⟨c1, -P, by omega, by omega, ?_⟩
      intro w hT
      have HT := Lib.hid hT
      clear hT
      have HPn := Lib.hid hPn
      have HZ := Lib.hid hZ
      clear hPn hZ
      go_enter Tryz.func93, Tryz.ntmps93
      go_wp2_with fail
      rw [show (11 + (-1085 - e)) = (Z : Int) by have := HZ.out; omega]
      rw [show e + (Z : Int) = -1074 by have := HZ.out; omega]
      refine (log10Pow2_calls (-1074) (by omega) (by omega) _).mono ?_
      rintro e' w0 ⟨rfl, rfl⟩
      rw [show ((-1074 : Int) * 78913 / 262144) = -P by rw [← HPn.out]; decide]
      go_wp2_with fail
      refine (log2Pow10_calls P (by have := hP.out; omega) (by have := hP.out; omega) _).mono ?_
      rintro e' w1 ⟨rfl, rfl⟩
      rw [HLL.out]
      go_wp2_with fail
      refine (prescale_calls hi lo e P LP w0 HT.out hP.out.1 hP.out.2 (by omega) (by omega) hLp.out.1 hLp.out.2.1).mono ?_
      rintro e' w2 ⟨rfl, rfl⟩
      rw [HTH.out, HTL.out, HSS.out]
      go_wp2_with fail
      refine (U1.out _ _ (by simp [go_sem]) (by simp [go_sem]) (by simp [go_sem])).mono ?_
      rintro e' w3 ⟨rfl, hb3⟩
      have q0 : w3.cell? ⟨w0.heap.size, 0, none⟩ = some (.int .u64 TH) := (hb3.cell (by simp)).trans (by simp [go_sem])
      have q1 : w3.cell? ⟨w0.heap.size, 1, none⟩ = some (.int .u64 TL) := (hb3.cell (by simp)).trans (by simp [go_sem])
      have q2 : w3.cell? ⟨w0.heap.size, 2, none⟩ = some (.int .i64 S) := (hb3.cell (by simp)).trans (by simp [go_sem])
      have B3 : Hid (Below w0.heap.size w0 w3) := ((Below.refl _ _).alloc (Nat.le_refl _) _).trans (hb3.mono (by simp))
      have hz3 : w0.heap.size < w3.heap.size := by have := hb3.size; simp at this; omega
      have Q0 := Lib.hid q0
      have Q1 := Lib.hid q1
      have Q2 := Lib.hid q2
      clear hb3 q0 q1 q2
      go_wp2_with fail
      refine (U2.out _).mono ?_
      rintro e' w4 ⟨rfl, rfl⟩
      go_wp2_with fail
      refine (U3.out _).mono ?_
      rintro e' w4 ⟨rfl, rfl⟩
      go_wp2_with fail
      refine (U4.out _ _ Q0.out Q1.out Q2.out).mono ?_
      rintro e' w5 ⟨rfl, hb5⟩
      have Q3 : Hid (w5.cell? ⟨w0.heap.size, 0, none⟩ = some (.int .u64 TH)) := (hb5.cell hz3).trans Q0.out
      have Q4 : Hid (w5.cell? ⟨w0.heap.size, 1, none⟩ = some (.int .u64 TL)) := (hb5.cell hz3).trans Q1.out
      have Q5 : Hid (w5.cell? ⟨w0.heap.size, 2, none⟩ = some (.int .i64 S)) := (hb5.cell hz3).trans Q2.out
      have B5 : Hid (Below w0.heap.size w0 w5) := B3.out.trans (hb5.mono (by omega))
      clear hb5
      go_wp2_with fail
      refine (U5.out _).mono ?_
      rintro e' w6 ⟨rfl, rfl⟩
      go_wp2_with fail
      refine (U6.out _).mono ?_
      rintro e' w6 ⟨rfl, rfl⟩
      go_wp2
      go_ret2
      exact ⟨rfl, B5.out⟩
theorem shortFloat_calls (hi lo : Nat → Int) (hhi : ∀ i, 0 ≤ hi i ∧ hi i < 18446744073709551616) (hlo : ∀ i, 0 ≤ lo i ∧ lo i < 18446744073709551616) (m e : Int) (h0 : 0 ≤ m) (h1 : m < 18446744073709551616) (e0 : -1137 ≤ e) (e1 : e ≤ 960) :
    ∃ d p : Int, (0 ≤ d ∧ d < 18446744073709551616) ∧ (-360 ≤ p ∧ p ≤ 360) ∧ ∀ w, TabW hi lo w → Calls Tryz.prog 93 #[.int .u64 m, .int .i64 e] w fun e' w' => e' = .returned (.tuple #[.int .u64 d, .int .i64 p]) ∧ Below w.heap.size w w' := by
  by_cases hm : m = 9223372036854775808
  · rcases (by omega : -1085 < e ∨ e = -1085 ∨ e < -1085) with he | he | he
    · exact shortFloat_a hi lo hhi hlo m e h0 h1 e1 hm he
    · exact shortFloat_d hi lo hhi hlo m e h0 h1 he hm
    · exact shortFloat_f hi lo hhi hlo m e h0 h1 he e0 hm
  · by_cases he : -1085 ≤ e
    · exact shortFloat_b hi lo hhi hlo m e h0 h1 e1 hm he
    · exact shortFloat_c hi lo hhi hlo m e h0 h1 (by omega) e0 hm
end Go.Proofs.YtlgmlfhalgnppaaGreatDoor
