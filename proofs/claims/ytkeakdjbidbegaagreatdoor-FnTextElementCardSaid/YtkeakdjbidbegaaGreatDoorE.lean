/- A part of the proof that laws.FnTextElement returns true at every input: EfgF. -/
import Derived.Test.YtkeakdjbidbegaaGreatDoorD
import Derived.Test.YtkeakdjbidbegaaGreatDoorC
import Derived.LoopN
set_option linter.unusedSimpArgs false
set_option linter.unusedVariables false
set_option maxRecDepth 100000
set_option maxHeartbeats 8000000
namespace Go.Proofs.YtkeakdjbidbegaaGreatDoor
open Go.RowKit
open Go.Proofs.YtkeakdjbidbegaaGreatDoorW.PrintWords
theorem fmtE_f0a (L c : Nat) (B : Nat) (l : List Int) (dp : Int) (nd : Nat) (hnd : nd ≤ L) (hL : L ≤ 100) (hc : L ≤ c) (w : World) (base : Nat) (v : Value) (xs : List Int) (hx : xs.length ≤ 1000000) (hO : Own w base v xs) (hb : base ≤ w.heap.size) (hR : ReadsInt w .u8 (some ⟨B, 0, none⟩) L l) (hB : B < w.heap.size) (hne : some B ≠ v.ownBlock) (h2 : nd = 0) (e0 : -400 ≤ dp - 1) (e1 : dp - 1 ≤ -100) :
  Calls Tryz.prog 187 #[v, .bool false, .slice (some ⟨B, 0, none⟩) L c, .int .i64 dp, .int .i64 nd, .int .i64 nd, .int .u8 71, .bool true] w fun e w' => ∃ v', e = .returned v' ∧ Dst base w v xs w' v' (fmtEL false l nd dp) := by
 subst h2
 have hR2 : ∀ W u ys, Dst base w v xs W u ys → ReadsInt W .u8 (some ⟨B, 0, none⟩) L l := fun W u ys h => h.reads hR (fun ad ha _ => by injection ha with ha; subst ha; exact ⟨hB, hne⟩)
 have HD := Lib.hid (Dst.start hO hb)
 have HR := Lib.hid hR2
 clear hO hb hR hR2
 go_enter Tryz.func187, Tryz.ntmps187
 go_wp2_with (first | (at_builtin; refine dl (.tmp 87) (.tmp 89) [_] HD.out ?_; intro v1 w1 HD) | (at_builtin; refine dl (.tmp 120) (.tmp 122) [_] HD.out ?_; intro v1 w1 HD) | (at_builtin; refine dl (.tmp 132) (.tmp 134) [_] HD.out ?_; intro v1 w1 HD) | (at_builtin; refine dl (.tmp 155) (.tmp 159) [_, _] HD.out ?_; intro v1 w1 HD))
 go_ret
 refine ⟨_, rfl, HD.out.cast ?_⟩
 unfold fmtEL expS expL signL
 simp
theorem fmtE_f0b (L c : Nat) (B : Nat) (l : List Int) (dp : Int) (nd : Nat) (hnd : nd ≤ L) (hL : L ≤ 100) (hc : L ≤ c) (w : World) (base : Nat) (v : Value) (xs : List Int) (hx : xs.length ≤ 1000000) (hO : Own w base v xs) (hb : base ≤ w.heap.size) (hR : ReadsInt w .u8 (some ⟨B, 0, none⟩) L l) (hB : B < w.heap.size) (hne : some B ≠ v.ownBlock) (h2 : nd = 0) (e0 : -100 < dp - 1) (e1 : dp - 1 ≤ -10) :
  Calls Tryz.prog 187 #[v, .bool false, .slice (some ⟨B, 0, none⟩) L c, .int .i64 dp, .int .i64 nd, .int .i64 nd, .int .u8 71, .bool true] w fun e w' => ∃ v', e = .returned v' ∧ Dst base w v xs w' v' (fmtEL false l nd dp) := by
 subst h2
 have hR2 : ∀ W u ys, Dst base w v xs W u ys → ReadsInt W .u8 (some ⟨B, 0, none⟩) L l := fun W u ys h => h.reads hR (fun ad ha _ => by injection ha with ha; subst ha; exact ⟨hB, hne⟩)
 have HD := Lib.hid (Dst.start hO hb)
 have HR := Lib.hid hR2
 clear hO hb hR hR2
 go_enter Tryz.func187, Tryz.ntmps187
 go_wp2_with (first | (at_builtin; refine dl (.tmp 87) (.tmp 89) [_] HD.out ?_; intro v1 w1 HD) | (at_builtin; refine dl (.tmp 120) (.tmp 122) [_] HD.out ?_; intro v1 w1 HD) | (at_builtin; refine dl (.tmp 132) (.tmp 134) [_] HD.out ?_; intro v1 w1 HD) | (at_builtin; refine dl (.tmp 155) (.tmp 159) [_, _] HD.out ?_; intro v1 w1 HD))
 go_ret
 refine ⟨_, rfl, HD.out.cast ?_⟩
 unfold fmtEL expS expL signL
 simp
theorem fmtE_f0c (L c : Nat) (B : Nat) (l : List Int) (dp : Int) (nd : Nat) (hnd : nd ≤ L) (hL : L ≤ 100) (hc : L ≤ c) (w : World) (base : Nat) (v : Value) (xs : List Int) (hx : xs.length ≤ 1000000) (hO : Own w base v xs) (hb : base ≤ w.heap.size) (hR : ReadsInt w .u8 (some ⟨B, 0, none⟩) L l) (hB : B < w.heap.size) (hne : some B ≠ v.ownBlock) (h2 : nd = 0) (e0 : -10 < dp - 1) (e1 : dp - 1 < -4) :
  Calls Tryz.prog 187 #[v, .bool false, .slice (some ⟨B, 0, none⟩) L c, .int .i64 dp, .int .i64 nd, .int .i64 nd, .int .u8 71, .bool true] w fun e w' => ∃ v', e = .returned v' ∧ Dst base w v xs w' v' (fmtEL false l nd dp) := by
 subst h2
 have hR2 : ∀ W u ys, Dst base w v xs W u ys → ReadsInt W .u8 (some ⟨B, 0, none⟩) L l := fun W u ys h => h.reads hR (fun ad ha _ => by injection ha with ha; subst ha; exact ⟨hB, hne⟩)
 have HD := Lib.hid (Dst.start hO hb)
 have HR := Lib.hid hR2
 clear hO hb hR hR2
 go_enter Tryz.func187, Tryz.ntmps187
 go_wp2_with (first | (at_builtin; refine dl (.tmp 87) (.tmp 89) [_] HD.out ?_; intro v1 w1 HD) | (at_builtin; refine dl (.tmp 120) (.tmp 122) [_] HD.out ?_; intro v1 w1 HD) | (at_builtin; refine dl (.tmp 132) (.tmp 134) [_] HD.out ?_; intro v1 w1 HD) | (at_builtin; refine dl (.tmp 155) (.tmp 159) [_, _] HD.out ?_; intro v1 w1 HD))
 go_ret
 refine ⟨_, rfl, HD.out.cast ?_⟩
 unfold fmtEL expS expL signL
 simp
theorem fmtE_f0d (L c : Nat) (B : Nat) (l : List Int) (dp : Int) (nd : Nat) (hnd : nd ≤ L) (hL : L ≤ 100) (hc : L ≤ c) (w : World) (base : Nat) (v : Value) (xs : List Int) (hx : xs.length ≤ 1000000) (hO : Own w base v xs) (hb : base ≤ w.heap.size) (hR : ReadsInt w .u8 (some ⟨B, 0, none⟩) L l) (hB : B < w.heap.size) (hne : some B ≠ v.ownBlock) (h2 : nd = 0) (e0 : 6 ≤ dp - 1) (e1 : dp - 1 < 10) :
  Calls Tryz.prog 187 #[v, .bool false, .slice (some ⟨B, 0, none⟩) L c, .int .i64 dp, .int .i64 nd, .int .i64 nd, .int .u8 71, .bool true] w fun e w' => ∃ v', e = .returned v' ∧ Dst base w v xs w' v' (fmtEL false l nd dp) := by
 subst h2
 have hR2 : ∀ W u ys, Dst base w v xs W u ys → ReadsInt W .u8 (some ⟨B, 0, none⟩) L l := fun W u ys h => h.reads hR (fun ad ha _ => by injection ha with ha; subst ha; exact ⟨hB, hne⟩)
 have HD := Lib.hid (Dst.start hO hb)
 have HR := Lib.hid hR2
 clear hO hb hR hR2
 go_enter Tryz.func187, Tryz.ntmps187
 go_wp2_with (first | (at_builtin; refine dl (.tmp 87) (.tmp 89) [_] HD.out ?_; intro v1 w1 HD) | (at_builtin; refine dl (.tmp 120) (.tmp 122) [_] HD.out ?_; intro v1 w1 HD) | (at_builtin; refine dl (.tmp 132) (.tmp 134) [_] HD.out ?_; intro v1 w1 HD) | (at_builtin; refine dl (.tmp 155) (.tmp 159) [_, _] HD.out ?_; intro v1 w1 HD))
 go_ret
 refine ⟨_, rfl, HD.out.cast ?_⟩
 unfold fmtEL expS expL signL
 simp
theorem fmtE_f0e (L c : Nat) (B : Nat) (l : List Int) (dp : Int) (nd : Nat) (hnd : nd ≤ L) (hL : L ≤ 100) (hc : L ≤ c) (w : World) (base : Nat) (v : Value) (xs : List Int) (hx : xs.length ≤ 1000000) (hO : Own w base v xs) (hb : base ≤ w.heap.size) (hR : ReadsInt w .u8 (some ⟨B, 0, none⟩) L l) (hB : B < w.heap.size) (hne : some B ≠ v.ownBlock) (h2 : nd = 0) (e0 : 10 ≤ dp - 1) (e1 : dp - 1 < 100) :
  Calls Tryz.prog 187 #[v, .bool false, .slice (some ⟨B, 0, none⟩) L c, .int .i64 dp, .int .i64 nd, .int .i64 nd, .int .u8 71, .bool true] w fun e w' => ∃ v', e = .returned v' ∧ Dst base w v xs w' v' (fmtEL false l nd dp) := by
 subst h2
 have hR2 : ∀ W u ys, Dst base w v xs W u ys → ReadsInt W .u8 (some ⟨B, 0, none⟩) L l := fun W u ys h => h.reads hR (fun ad ha _ => by injection ha with ha; subst ha; exact ⟨hB, hne⟩)
 have HD := Lib.hid (Dst.start hO hb)
 have HR := Lib.hid hR2
 clear hO hb hR hR2
 go_enter Tryz.func187, Tryz.ntmps187
 go_wp2_with (first | (at_builtin; refine dl (.tmp 87) (.tmp 89) [_] HD.out ?_; intro v1 w1 HD) | (at_builtin; refine dl (.tmp 120) (.tmp 122) [_] HD.out ?_; intro v1 w1 HD) | (at_builtin; refine dl (.tmp 132) (.tmp 134) [_] HD.out ?_; intro v1 w1 HD) | (at_builtin; refine dl (.tmp 155) (.tmp 159) [_, _] HD.out ?_; intro v1 w1 HD))
 go_ret
 refine ⟨_, rfl, HD.out.cast ?_⟩
 unfold fmtEL expS expL signL
 simp
theorem fmtE_f0f (L c : Nat) (B : Nat) (l : List Int) (dp : Int) (nd : Nat) (hnd : nd ≤ L) (hL : L ≤ 100) (hc : L ≤ c) (w : World) (base : Nat) (v : Value) (xs : List Int) (hx : xs.length ≤ 1000000) (hO : Own w base v xs) (hb : base ≤ w.heap.size) (hR : ReadsInt w .u8 (some ⟨B, 0, none⟩) L l) (hB : B < w.heap.size) (hne : some B ≠ v.ownBlock) (h2 : nd = 0) (e0 : 100 ≤ dp - 1) (e1 : dp - 1 ≤ 400) :
  Calls Tryz.prog 187 #[v, .bool false, .slice (some ⟨B, 0, none⟩) L c, .int .i64 dp, .int .i64 nd, .int .i64 nd, .int .u8 71, .bool true] w fun e w' => ∃ v', e = .returned v' ∧ Dst base w v xs w' v' (fmtEL false l nd dp) := by
 subst h2
 have hR2 : ∀ W u ys, Dst base w v xs W u ys → ReadsInt W .u8 (some ⟨B, 0, none⟩) L l := fun W u ys h => h.reads hR (fun ad ha _ => by injection ha with ha; subst ha; exact ⟨hB, hne⟩)
 have HD := Lib.hid (Dst.start hO hb)
 have HR := Lib.hid hR2
 clear hO hb hR hR2
 go_enter Tryz.func187, Tryz.ntmps187
 go_wp2_with (first | (at_builtin; refine dl (.tmp 87) (.tmp 89) [_] HD.out ?_; intro v1 w1 HD) | (at_builtin; refine dl (.tmp 120) (.tmp 122) [_] HD.out ?_; intro v1 w1 HD) | (at_builtin; refine dl (.tmp 132) (.tmp 134) [_] HD.out ?_; intro v1 w1 HD) | (at_builtin; refine dl (.tmp 155) (.tmp 159) [_, _] HD.out ?_; intro v1 w1 HD))
 go_ret
 refine ⟨_, rfl, HD.out.cast ?_⟩
 unfold fmtEL expS expL signL
 simp
theorem fmtE_f1a (L c : Nat) (B : Nat) (l : List Int) (dp : Int) (nd : Nat) (hnd : nd ≤ L) (hL : L ≤ 100) (hc : L ≤ c) (w : World) (base : Nat) (v : Value) (xs : List Int) (hx : xs.length ≤ 1000000) (hO : Own w base v xs) (hb : base ≤ w.heap.size) (hR : ReadsInt w .u8 (some ⟨B, 0, none⟩) L l) (hB : B < w.heap.size) (hne : some B ≠ v.ownBlock) (h2 : nd = 1) (e0 : -400 ≤ dp - 1) (e1 : dp - 1 ≤ -100) :
  Calls Tryz.prog 187 #[v, .bool false, .slice (some ⟨B, 0, none⟩) L c, .int .i64 dp, .int .i64 nd, .int .i64 nd, .int .u8 71, .bool true] w fun e w' => ∃ v', e = .returned v' ∧ Dst base w v xs w' v' (fmtEL false l nd dp) := by
 subst h2
 have hR2 : ∀ W u ys, Dst base w v xs W u ys → ReadsInt W .u8 (some ⟨B, 0, none⟩) L l := fun W u ys h => h.reads hR (fun ad ha _ => by injection ha with ha; subst ha; exact ⟨hB, hne⟩)
 have HD := Lib.hid (Dst.start hO hb)
 have HR := Lib.hid hR2
 have c0 := cell0 hR (by omega)
 clear hO hb hR hR2
 go_enter Tryz.func187, Tryz.ntmps187
 go_wp2_with (first | (at_builtin; refine dl (.tmp 87) (.tmp 89) [_] HD.out ?_; intro v1 w1 HD; have c0 := cell0 (HR.out _ _ _ HD.out) (by omega)) | (at_builtin; refine dl (.tmp 120) (.tmp 122) [_] HD.out ?_; intro v1 w1 HD; have c0 := cell0 (HR.out _ _ _ HD.out) (by omega)) | (at_builtin; refine dl (.tmp 132) (.tmp 134) [_] HD.out ?_; intro v1 w1 HD; have c0 := cell0 (HR.out _ _ _ HD.out) (by omega)) | (at_builtin; refine dl (.tmp 136) (.tmp 150) [_, _, _] HD.out ?_; intro v1 w1 HD; have c0 := cell0 (HR.out _ _ _ HD.out) (by omega)))
 go_ret
 refine ⟨_, rfl, HD.out.cast ?_⟩
 unfold fmtEL expS expL signL
 rw [if_neg (show ¬ (1 : Nat) = 0 by omega), if_neg (show ¬ 1 < (1 : Nat) by omega), if_neg (show ¬ (1 : Nat) = 0 by omega)]
 rw [if_pos (show dp - 1 < 0 by omega), if_neg (show ¬ -(dp - 1) < 10 by omega), if_neg (show ¬ -(dp - 1) < 100 by omega)]
 obtain ⟨X, hX⟩ : ∃ X, -(dp - 1) = X := ⟨_, rfl⟩
 have hX0 : 0 ≤ X := by omega
 have hX1 : dp - 1 = -X := by omega
 rw [hX1]
 simp only [Int.neg_neg, Int.neg_tdiv, Int.neg_tmod, Int.tdiv_eq_ediv_of_nonneg hX0, Int.tmod_eq_emod_of_nonneg hX0]
 simp [wrap64]
 try omega
theorem fmtE_f1b (L c : Nat) (B : Nat) (l : List Int) (dp : Int) (nd : Nat) (hnd : nd ≤ L) (hL : L ≤ 100) (hc : L ≤ c) (w : World) (base : Nat) (v : Value) (xs : List Int) (hx : xs.length ≤ 1000000) (hO : Own w base v xs) (hb : base ≤ w.heap.size) (hR : ReadsInt w .u8 (some ⟨B, 0, none⟩) L l) (hB : B < w.heap.size) (hne : some B ≠ v.ownBlock) (h2 : nd = 1) (e0 : -100 < dp - 1) (e1 : dp - 1 ≤ -10) :
  Calls Tryz.prog 187 #[v, .bool false, .slice (some ⟨B, 0, none⟩) L c, .int .i64 dp, .int .i64 nd, .int .i64 nd, .int .u8 71, .bool true] w fun e w' => ∃ v', e = .returned v' ∧ Dst base w v xs w' v' (fmtEL false l nd dp) := by
 subst h2
 have hR2 : ∀ W u ys, Dst base w v xs W u ys → ReadsInt W .u8 (some ⟨B, 0, none⟩) L l := fun W u ys h => h.reads hR (fun ad ha _ => by injection ha with ha; subst ha; exact ⟨hB, hne⟩)
 have HD := Lib.hid (Dst.start hO hb)
 have HR := Lib.hid hR2
 have c0 := cell0 hR (by omega)
 clear hO hb hR hR2
 go_enter Tryz.func187, Tryz.ntmps187
 go_wp2_with (first | (at_builtin; refine dl (.tmp 87) (.tmp 89) [_] HD.out ?_; intro v1 w1 HD; have c0 := cell0 (HR.out _ _ _ HD.out) (by omega)) | (at_builtin; refine dl (.tmp 120) (.tmp 122) [_] HD.out ?_; intro v1 w1 HD; have c0 := cell0 (HR.out _ _ _ HD.out) (by omega)) | (at_builtin; refine dl (.tmp 132) (.tmp 134) [_] HD.out ?_; intro v1 w1 HD; have c0 := cell0 (HR.out _ _ _ HD.out) (by omega)) | (at_builtin; refine dl (.tmp 164) (.tmp 173) [_, _] HD.out ?_; intro v1 w1 HD; have c0 := cell0 (HR.out _ _ _ HD.out) (by omega)))
 go_ret
 refine ⟨_, rfl, HD.out.cast ?_⟩
 unfold fmtEL expS expL signL
 rw [if_neg (show ¬ (1 : Nat) = 0 by omega), if_neg (show ¬ 1 < (1 : Nat) by omega), if_neg (show ¬ (1 : Nat) = 0 by omega)]
 rw [if_pos (show dp - 1 < 0 by omega), if_neg (show ¬ -(dp - 1) < 10 by omega), if_pos (show -(dp - 1) < 100 by omega)]
 obtain ⟨X, hX⟩ : ∃ X, -(dp - 1) = X := ⟨_, rfl⟩
 have hX0 : 0 ≤ X := by omega
 have hX1 : dp - 1 = -X := by omega
 rw [hX1]
 simp only [Int.neg_neg, Int.neg_tdiv, Int.neg_tmod, Int.tdiv_eq_ediv_of_nonneg hX0, Int.tmod_eq_emod_of_nonneg hX0]
 simp [wrap64]
 try omega
theorem fmtE_f1c (L c : Nat) (B : Nat) (l : List Int) (dp : Int) (nd : Nat) (hnd : nd ≤ L) (hL : L ≤ 100) (hc : L ≤ c) (w : World) (base : Nat) (v : Value) (xs : List Int) (hx : xs.length ≤ 1000000) (hO : Own w base v xs) (hb : base ≤ w.heap.size) (hR : ReadsInt w .u8 (some ⟨B, 0, none⟩) L l) (hB : B < w.heap.size) (hne : some B ≠ v.ownBlock) (h2 : nd = 1) (e0 : -10 < dp - 1) (e1 : dp - 1 < -4) :
  Calls Tryz.prog 187 #[v, .bool false, .slice (some ⟨B, 0, none⟩) L c, .int .i64 dp, .int .i64 nd, .int .i64 nd, .int .u8 71, .bool true] w fun e w' => ∃ v', e = .returned v' ∧ Dst base w v xs w' v' (fmtEL false l nd dp) := by
 subst h2
 have hR2 : ∀ W u ys, Dst base w v xs W u ys → ReadsInt W .u8 (some ⟨B, 0, none⟩) L l := fun W u ys h => h.reads hR (fun ad ha _ => by injection ha with ha; subst ha; exact ⟨hB, hne⟩)
 have HD := Lib.hid (Dst.start hO hb)
 have HR := Lib.hid hR2
 have c0 := cell0 hR (by omega)
 clear hO hb hR hR2
 go_enter Tryz.func187, Tryz.ntmps187
 go_wp2_with (first | (at_builtin; refine dl (.tmp 87) (.tmp 89) [_] HD.out ?_; intro v1 w1 HD; have c0 := cell0 (HR.out _ _ _ HD.out) (by omega)) | (at_builtin; refine dl (.tmp 120) (.tmp 122) [_] HD.out ?_; intro v1 w1 HD; have c0 := cell0 (HR.out _ _ _ HD.out) (by omega)) | (at_builtin; refine dl (.tmp 132) (.tmp 134) [_] HD.out ?_; intro v1 w1 HD; have c0 := cell0 (HR.out _ _ _ HD.out) (by omega)) | (at_builtin; refine dl (.tmp 155) (.tmp 159) [_, _] HD.out ?_; intro v1 w1 HD; have c0 := cell0 (HR.out _ _ _ HD.out) (by omega)))
 go_ret
 refine ⟨_, rfl, HD.out.cast ?_⟩
 unfold fmtEL expS expL signL
 rw [if_neg (show ¬ (1 : Nat) = 0 by omega), if_neg (show ¬ 1 < (1 : Nat) by omega), if_neg (show ¬ (1 : Nat) = 0 by omega)]
 rw [if_pos (show dp - 1 < 0 by omega), if_pos (show -(dp - 1) < 10 by omega)]
 obtain ⟨X, hX⟩ : ∃ X, -(dp - 1) = X := ⟨_, rfl⟩
 have hX0 : 0 ≤ X := by omega
 have hX1 : dp - 1 = -X := by omega
 rw [hX1]
 simp only [Int.neg_neg, Int.neg_tdiv, Int.neg_tmod, Int.tdiv_eq_ediv_of_nonneg hX0, Int.tmod_eq_emod_of_nonneg hX0]
 simp [wrap64]
 try omega
theorem fmtE_f1d (L c : Nat) (B : Nat) (l : List Int) (dp : Int) (nd : Nat) (hnd : nd ≤ L) (hL : L ≤ 100) (hc : L ≤ c) (w : World) (base : Nat) (v : Value) (xs : List Int) (hx : xs.length ≤ 1000000) (hO : Own w base v xs) (hb : base ≤ w.heap.size) (hR : ReadsInt w .u8 (some ⟨B, 0, none⟩) L l) (hB : B < w.heap.size) (hne : some B ≠ v.ownBlock) (h2 : nd = 1) (e0 : 6 ≤ dp - 1) (e1 : dp - 1 < 10) :
  Calls Tryz.prog 187 #[v, .bool false, .slice (some ⟨B, 0, none⟩) L c, .int .i64 dp, .int .i64 nd, .int .i64 nd, .int .u8 71, .bool true] w fun e w' => ∃ v', e = .returned v' ∧ Dst base w v xs w' v' (fmtEL false l nd dp) := by
 subst h2
 have hR2 : ∀ W u ys, Dst base w v xs W u ys → ReadsInt W .u8 (some ⟨B, 0, none⟩) L l := fun W u ys h => h.reads hR (fun ad ha _ => by injection ha with ha; subst ha; exact ⟨hB, hne⟩)
 have HD := Lib.hid (Dst.start hO hb)
 have HR := Lib.hid hR2
 have c0 := cell0 hR (by omega)
 clear hO hb hR hR2
 go_enter Tryz.func187, Tryz.ntmps187
 go_wp2_with (first | (at_builtin; refine dl (.tmp 87) (.tmp 89) [_] HD.out ?_; intro v1 w1 HD; have c0 := cell0 (HR.out _ _ _ HD.out) (by omega)) | (at_builtin; refine dl (.tmp 120) (.tmp 122) [_] HD.out ?_; intro v1 w1 HD; have c0 := cell0 (HR.out _ _ _ HD.out) (by omega)) | (at_builtin; refine dl (.tmp 132) (.tmp 134) [_] HD.out ?_; intro v1 w1 HD; have c0 := cell0 (HR.out _ _ _ HD.out) (by omega)) | (at_builtin; refine dl (.tmp 155) (.tmp 159) [_, _] HD.out ?_; intro v1 w1 HD; have c0 := cell0 (HR.out _ _ _ HD.out) (by omega)))
 go_ret
 refine ⟨_, rfl, HD.out.cast ?_⟩
 unfold fmtEL expS expL signL
 rw [if_neg (show ¬ (1 : Nat) = 0 by omega), if_neg (show ¬ 1 < (1 : Nat) by omega), if_neg (show ¬ (1 : Nat) = 0 by omega)]
 rw [if_neg (show ¬ dp - 1 < 0 by omega), if_pos (show dp - 1 < 10 by omega)]
 simp [wrap64]
 try omega
theorem fmtE_f1e (L c : Nat) (B : Nat) (l : List Int) (dp : Int) (nd : Nat) (hnd : nd ≤ L) (hL : L ≤ 100) (hc : L ≤ c) (w : World) (base : Nat) (v : Value) (xs : List Int) (hx : xs.length ≤ 1000000) (hO : Own w base v xs) (hb : base ≤ w.heap.size) (hR : ReadsInt w .u8 (some ⟨B, 0, none⟩) L l) (hB : B < w.heap.size) (hne : some B ≠ v.ownBlock) (h2 : nd = 1) (e0 : 10 ≤ dp - 1) (e1 : dp - 1 < 100) :
  Calls Tryz.prog 187 #[v, .bool false, .slice (some ⟨B, 0, none⟩) L c, .int .i64 dp, .int .i64 nd, .int .i64 nd, .int .u8 71, .bool true] w fun e w' => ∃ v', e = .returned v' ∧ Dst base w v xs w' v' (fmtEL false l nd dp) := by
 subst h2
 have hR2 : ∀ W u ys, Dst base w v xs W u ys → ReadsInt W .u8 (some ⟨B, 0, none⟩) L l := fun W u ys h => h.reads hR (fun ad ha _ => by injection ha with ha; subst ha; exact ⟨hB, hne⟩)
 have HD := Lib.hid (Dst.start hO hb)
 have HR := Lib.hid hR2
 have c0 := cell0 hR (by omega)
 clear hO hb hR hR2
 go_enter Tryz.func187, Tryz.ntmps187
 go_wp2_with (first | (at_builtin; refine dl (.tmp 87) (.tmp 89) [_] HD.out ?_; intro v1 w1 HD; have c0 := cell0 (HR.out _ _ _ HD.out) (by omega)) | (at_builtin; refine dl (.tmp 120) (.tmp 122) [_] HD.out ?_; intro v1 w1 HD; have c0 := cell0 (HR.out _ _ _ HD.out) (by omega)) | (at_builtin; refine dl (.tmp 132) (.tmp 134) [_] HD.out ?_; intro v1 w1 HD; have c0 := cell0 (HR.out _ _ _ HD.out) (by omega)) | (at_builtin; refine dl (.tmp 164) (.tmp 173) [_, _] HD.out ?_; intro v1 w1 HD; have c0 := cell0 (HR.out _ _ _ HD.out) (by omega)))
 go_ret
 refine ⟨_, rfl, HD.out.cast ?_⟩
 unfold fmtEL expS expL signL
 rw [if_neg (show ¬ (1 : Nat) = 0 by omega), if_neg (show ¬ 1 < (1 : Nat) by omega), if_neg (show ¬ (1 : Nat) = 0 by omega)]
 rw [if_neg (show ¬ dp - 1 < 0 by omega), if_neg (show ¬ dp - 1 < 10 by omega), if_pos (show dp - 1 < 100 by omega)]
 simp [wrap64]
 try omega
theorem fmtE_f1f (L c : Nat) (B : Nat) (l : List Int) (dp : Int) (nd : Nat) (hnd : nd ≤ L) (hL : L ≤ 100) (hc : L ≤ c) (w : World) (base : Nat) (v : Value) (xs : List Int) (hx : xs.length ≤ 1000000) (hO : Own w base v xs) (hb : base ≤ w.heap.size) (hR : ReadsInt w .u8 (some ⟨B, 0, none⟩) L l) (hB : B < w.heap.size) (hne : some B ≠ v.ownBlock) (h2 : nd = 1) (e0 : 100 ≤ dp - 1) (e1 : dp - 1 ≤ 400) :
  Calls Tryz.prog 187 #[v, .bool false, .slice (some ⟨B, 0, none⟩) L c, .int .i64 dp, .int .i64 nd, .int .i64 nd, .int .u8 71, .bool true] w fun e w' => ∃ v', e = .returned v' ∧ Dst base w v xs w' v' (fmtEL false l nd dp) := by
 subst h2
 have hR2 : ∀ W u ys, Dst base w v xs W u ys → ReadsInt W .u8 (some ⟨B, 0, none⟩) L l := fun W u ys h => h.reads hR (fun ad ha _ => by injection ha with ha; subst ha; exact ⟨hB, hne⟩)
 have HD := Lib.hid (Dst.start hO hb)
 have HR := Lib.hid hR2
 have c0 := cell0 hR (by omega)
 clear hO hb hR hR2
 go_enter Tryz.func187, Tryz.ntmps187
 go_wp2_with (first | (at_builtin; refine dl (.tmp 87) (.tmp 89) [_] HD.out ?_; intro v1 w1 HD; have c0 := cell0 (HR.out _ _ _ HD.out) (by omega)) | (at_builtin; refine dl (.tmp 120) (.tmp 122) [_] HD.out ?_; intro v1 w1 HD; have c0 := cell0 (HR.out _ _ _ HD.out) (by omega)) | (at_builtin; refine dl (.tmp 132) (.tmp 134) [_] HD.out ?_; intro v1 w1 HD; have c0 := cell0 (HR.out _ _ _ HD.out) (by omega)) | (at_builtin; refine dl (.tmp 136) (.tmp 150) [_, _, _] HD.out ?_; intro v1 w1 HD; have c0 := cell0 (HR.out _ _ _ HD.out) (by omega)))
 go_ret
 refine ⟨_, rfl, HD.out.cast ?_⟩
 unfold fmtEL expS expL signL
 rw [if_neg (show ¬ (1 : Nat) = 0 by omega), if_neg (show ¬ 1 < (1 : Nat) by omega), if_neg (show ¬ (1 : Nat) = 0 by omega)]
 rw [if_neg (show ¬ dp - 1 < 0 by omega), if_neg (show ¬ dp - 1 < 10 by omega), if_neg (show ¬ dp - 1 < 100 by omega)]
 simp [wrap64]
 try omega
theorem fmtE_f2a (L c : Nat) (B : Nat) (l : List Int) (dp : Int) (nd : Nat) (hnd : nd ≤ L) (hL : L ≤ 100) (hc : L ≤ c) (w : World) (base : Nat) (v : Value) (xs : List Int) (hx : xs.length ≤ 1000000) (hO : Own w base v xs) (hb : base ≤ w.heap.size) (hR : ReadsInt w .u8 (some ⟨B, 0, none⟩) L l) (hB : B < w.heap.size) (hne : some B ≠ v.ownBlock) (h2 : 2 ≤ nd) (e0 : -400 ≤ dp - 1) (e1 : dp - 1 ≤ -100) :
  Calls Tryz.prog 187 #[v, .bool false, .slice (some ⟨B, 0, none⟩) L c, .int .i64 dp, .int .i64 nd, .int .i64 nd, .int .u8 71, .bool true] w fun e w' => ∃ v', e = .returned v' ∧ Dst base w v xs w' v' (fmtEL false l nd dp) := by
 have hR2 : ∀ W u ys, Dst base w v xs W u ys → ReadsInt W .u8 (some ⟨B, 0, none⟩) L l := fun W u ys h => h.reads hR (fun ad ha _ => by injection ha with ha; subst ha; exact ⟨hB, hne⟩)
 have HD := Lib.hid (Dst.start hO hb)
 have HR := Lib.hid hR2
 have c0 := cell0 hR (by omega)
 clear hO hb hR hR2
 go_enter Tryz.func187, Tryz.ntmps187
 go_wp2_with (first | (at_builtin; refine dl (.tmp 87) (.tmp 89) [_] HD.out ?_; intro v1 w1 HD; have c0 := cell0 (HR.out _ _ _ HD.out) (by omega)) | (at_builtin; refine dl (.tmp 93) (.tmp 94) [_] HD.out ?_; intro v1 w1 HD; have c0 := cell0 (HR.out _ _ _ HD.out) (by omega)) | (at_builtin; refine dst_row rfl (.tmp 103) (.tmp 107) rfl _ xs _ ((l.take nd).drop 1) _ _ _ rfl rfl HD.out (reads_sub (HR.out _ _ _ HD.out) 1 nd (by omega) (by omega)) (by (try simp only [List.length_append, List.length_cons, List.length_nil, List.length_drop, List.length_take]); omega) ?_; intro v1 w1 n0; clear HD; have HD := Lib.hid n0; clear n0; have c0 := cell0 (HR.out _ _ _ HD.out) (by omega)))
 refine wp_loop_rounds 1 ?_
 rw [rounds_succ]
 go_wp2_with (first | (at_builtin; refine dl (.tmp 120) (.tmp 122) [_] HD.out ?_; intro v1 w1 HD; have c0 := cell0 (HR.out _ _ _ HD.out) (by omega)) | (at_builtin; refine dl (.tmp 132) (.tmp 134) [_] HD.out ?_; intro v1 w1 HD; have c0 := cell0 (HR.out _ _ _ HD.out) (by omega)) | (at_builtin; refine dl (.tmp 136) (.tmp 150) [_, _, _] HD.out ?_; intro v1 w1 HD; have c0 := cell0 (HR.out _ _ _ HD.out) (by omega)))
 go_ret
 refine ⟨_, rfl, HD.out.cast ?_⟩
 unfold fmtEL expS expL signL
 rw [if_neg (show ¬ nd = 0 by omega), if_pos (show 1 < nd by omega)]
 rw [if_neg (show ¬ nd = 0 by omega)]
 rw [if_pos (show dp - 1 < 0 by omega), if_neg (show ¬ -(dp - 1) < 10 by omega), if_neg (show ¬ -(dp - 1) < 100 by omega)]
 obtain ⟨X, hX⟩ : ∃ X, -(dp - 1) = X := ⟨_, rfl⟩
 have hX0 : 0 ≤ X := by omega
 have hX1 : dp - 1 = -X := by omega
 rw [hX1]
 simp only [Int.neg_neg, Int.neg_tdiv, Int.neg_tmod, Int.tdiv_eq_ediv_of_nonneg hX0, Int.tmod_eq_emod_of_nonneg hX0]
 simp [wrap64]
 try omega
theorem fmtE_f2b (L c : Nat) (B : Nat) (l : List Int) (dp : Int) (nd : Nat) (hnd : nd ≤ L) (hL : L ≤ 100) (hc : L ≤ c) (w : World) (base : Nat) (v : Value) (xs : List Int) (hx : xs.length ≤ 1000000) (hO : Own w base v xs) (hb : base ≤ w.heap.size) (hR : ReadsInt w .u8 (some ⟨B, 0, none⟩) L l) (hB : B < w.heap.size) (hne : some B ≠ v.ownBlock) (h2 : 2 ≤ nd) (e0 : -100 < dp - 1) (e1 : dp - 1 ≤ -10) :
  Calls Tryz.prog 187 #[v, .bool false, .slice (some ⟨B, 0, none⟩) L c, .int .i64 dp, .int .i64 nd, .int .i64 nd, .int .u8 71, .bool true] w fun e w' => ∃ v', e = .returned v' ∧ Dst base w v xs w' v' (fmtEL false l nd dp) := by
 have hR2 : ∀ W u ys, Dst base w v xs W u ys → ReadsInt W .u8 (some ⟨B, 0, none⟩) L l := fun W u ys h => h.reads hR (fun ad ha _ => by injection ha with ha; subst ha; exact ⟨hB, hne⟩)
 have HD := Lib.hid (Dst.start hO hb)
 have HR := Lib.hid hR2
 have c0 := cell0 hR (by omega)
 clear hO hb hR hR2
 go_enter Tryz.func187, Tryz.ntmps187
 go_wp2_with (first | (at_builtin; refine dl (.tmp 87) (.tmp 89) [_] HD.out ?_; intro v1 w1 HD; have c0 := cell0 (HR.out _ _ _ HD.out) (by omega)) | (at_builtin; refine dl (.tmp 93) (.tmp 94) [_] HD.out ?_; intro v1 w1 HD; have c0 := cell0 (HR.out _ _ _ HD.out) (by omega)) | (at_builtin; refine dst_row rfl (.tmp 103) (.tmp 107) rfl _ xs _ ((l.take nd).drop 1) _ _ _ rfl rfl HD.out (reads_sub (HR.out _ _ _ HD.out) 1 nd (by omega) (by omega)) (by (try simp only [List.length_append, List.length_cons, List.length_nil, List.length_drop, List.length_take]); omega) ?_; intro v1 w1 n0; clear HD; have HD := Lib.hid n0; clear n0; have c0 := cell0 (HR.out _ _ _ HD.out) (by omega)))
 refine wp_loop_rounds 1 ?_
 rw [rounds_succ]
 go_wp2_with (first | (at_builtin; refine dl (.tmp 120) (.tmp 122) [_] HD.out ?_; intro v1 w1 HD; have c0 := cell0 (HR.out _ _ _ HD.out) (by omega)) | (at_builtin; refine dl (.tmp 132) (.tmp 134) [_] HD.out ?_; intro v1 w1 HD; have c0 := cell0 (HR.out _ _ _ HD.out) (by omega)) | (at_builtin; refine dl (.tmp 164) (.tmp 173) [_, _] HD.out ?_; intro v1 w1 HD; have c0 := cell0 (HR.out _ _ _ HD.out) (by omega)))
 go_ret
 refine ⟨_, rfl, HD.out.cast ?_⟩
 unfold fmtEL expS expL signL
 rw [if_neg (show ¬ nd = 0 by omega), if_pos (show 1 < nd by omega)]
 rw [if_neg (show ¬ nd = 0 by omega)]
 rw [if_pos (show dp - 1 < 0 by omega), if_neg (show ¬ -(dp - 1) < 10 by omega), if_pos (show -(dp - 1) < 100 by omega)]
 obtain ⟨X, hX⟩ : ∃ X, -(dp - 1) = X := ⟨_, rfl⟩
 have hX0 : 0 ≤ X := by omega
 have hX1 : dp - 1 = -X := by omega
 rw [hX1]
 simp only [Int.neg_neg, Int.neg_tdiv, Int.neg_tmod, Int.tdiv_eq_ediv_of_nonneg hX0, Int.tmod_eq_emod_of_nonneg hX0]
 simp [wrap64]
 try omega
theorem fmtE_f2c (L c : Nat) (B : Nat) (l : List Int) (dp : Int) (nd : Nat) (hnd : nd ≤ L) (hL : L ≤ 100) (hc : L ≤ c) (w : World) (base : Nat) (v : Value) (xs : List Int) (hx : xs.length ≤ 1000000) (hO : Own w base v xs) (hb : base ≤ w.heap.size) (hR : ReadsInt w .u8 (some ⟨B, 0, none⟩) L l) (hB : B < w.heap.size) (hne : some B ≠ v.ownBlock) (h2 : 2 ≤ nd) (e0 : -10 < dp - 1) (e1 : dp - 1 < -4) :
  Calls Tryz.prog 187 #[v, .bool false, .slice (some ⟨B, 0, none⟩) L c, .int .i64 dp, .int .i64 nd, .int .i64 nd, .int .u8 71, .bool true] w fun e w' => ∃ v', e = .returned v' ∧ Dst base w v xs w' v' (fmtEL false l nd dp) := by
 have hR2 : ∀ W u ys, Dst base w v xs W u ys → ReadsInt W .u8 (some ⟨B, 0, none⟩) L l := fun W u ys h => h.reads hR (fun ad ha _ => by injection ha with ha; subst ha; exact ⟨hB, hne⟩)
 have HD := Lib.hid (Dst.start hO hb)
 have HR := Lib.hid hR2
 have c0 := cell0 hR (by omega)
 clear hO hb hR hR2
 go_enter Tryz.func187, Tryz.ntmps187
 go_wp2_with (first | (at_builtin; refine dl (.tmp 87) (.tmp 89) [_] HD.out ?_; intro v1 w1 HD; have c0 := cell0 (HR.out _ _ _ HD.out) (by omega)) | (at_builtin; refine dl (.tmp 93) (.tmp 94) [_] HD.out ?_; intro v1 w1 HD; have c0 := cell0 (HR.out _ _ _ HD.out) (by omega)) | (at_builtin; refine dst_row rfl (.tmp 103) (.tmp 107) rfl _ xs _ ((l.take nd).drop 1) _ _ _ rfl rfl HD.out (reads_sub (HR.out _ _ _ HD.out) 1 nd (by omega) (by omega)) (by (try simp only [List.length_append, List.length_cons, List.length_nil, List.length_drop, List.length_take]); omega) ?_; intro v1 w1 n0; clear HD; have HD := Lib.hid n0; clear n0; have c0 := cell0 (HR.out _ _ _ HD.out) (by omega)))
 refine wp_loop_rounds 1 ?_
 rw [rounds_succ]
 go_wp2_with (first | (at_builtin; refine dl (.tmp 120) (.tmp 122) [_] HD.out ?_; intro v1 w1 HD; have c0 := cell0 (HR.out _ _ _ HD.out) (by omega)) | (at_builtin; refine dl (.tmp 132) (.tmp 134) [_] HD.out ?_; intro v1 w1 HD; have c0 := cell0 (HR.out _ _ _ HD.out) (by omega)) | (at_builtin; refine dl (.tmp 155) (.tmp 159) [_, _] HD.out ?_; intro v1 w1 HD; have c0 := cell0 (HR.out _ _ _ HD.out) (by omega)))
 go_ret
 refine ⟨_, rfl, HD.out.cast ?_⟩
 unfold fmtEL expS expL signL
 rw [if_neg (show ¬ nd = 0 by omega), if_pos (show 1 < nd by omega)]
 rw [if_neg (show ¬ nd = 0 by omega)]
 rw [if_pos (show dp - 1 < 0 by omega), if_pos (show -(dp - 1) < 10 by omega)]
 obtain ⟨X, hX⟩ : ∃ X, -(dp - 1) = X := ⟨_, rfl⟩
 have hX0 : 0 ≤ X := by omega
 have hX1 : dp - 1 = -X := by omega
 rw [hX1]
 simp only [Int.neg_neg, Int.neg_tdiv, Int.neg_tmod, Int.tdiv_eq_ediv_of_nonneg hX0, Int.tmod_eq_emod_of_nonneg hX0]
 simp [wrap64]
 try omega
theorem fmtE_f2d (L c : Nat) (B : Nat) (l : List Int) (dp : Int) (nd : Nat) (hnd : nd ≤ L) (hL : L ≤ 100) (hc : L ≤ c) (w : World) (base : Nat) (v : Value) (xs : List Int) (hx : xs.length ≤ 1000000) (hO : Own w base v xs) (hb : base ≤ w.heap.size) (hR : ReadsInt w .u8 (some ⟨B, 0, none⟩) L l) (hB : B < w.heap.size) (hne : some B ≠ v.ownBlock) (h2 : 2 ≤ nd) (e0 : 6 ≤ dp - 1) (e1 : dp - 1 < 10) :
  Calls Tryz.prog 187 #[v, .bool false, .slice (some ⟨B, 0, none⟩) L c, .int .i64 dp, .int .i64 nd, .int .i64 nd, .int .u8 71, .bool true] w fun e w' => ∃ v', e = .returned v' ∧ Dst base w v xs w' v' (fmtEL false l nd dp) := by
 have hR2 : ∀ W u ys, Dst base w v xs W u ys → ReadsInt W .u8 (some ⟨B, 0, none⟩) L l := fun W u ys h => h.reads hR (fun ad ha _ => by injection ha with ha; subst ha; exact ⟨hB, hne⟩)
 have HD := Lib.hid (Dst.start hO hb)
 have HR := Lib.hid hR2
 have c0 := cell0 hR (by omega)
 clear hO hb hR hR2
 go_enter Tryz.func187, Tryz.ntmps187
 go_wp2_with (first | (at_builtin; refine dl (.tmp 87) (.tmp 89) [_] HD.out ?_; intro v1 w1 HD; have c0 := cell0 (HR.out _ _ _ HD.out) (by omega)) | (at_builtin; refine dl (.tmp 93) (.tmp 94) [_] HD.out ?_; intro v1 w1 HD; have c0 := cell0 (HR.out _ _ _ HD.out) (by omega)) | (at_builtin; refine dst_row rfl (.tmp 103) (.tmp 107) rfl _ xs _ ((l.take nd).drop 1) _ _ _ rfl rfl HD.out (reads_sub (HR.out _ _ _ HD.out) 1 nd (by omega) (by omega)) (by (try simp only [List.length_append, List.length_cons, List.length_nil, List.length_drop, List.length_take]); omega) ?_; intro v1 w1 n0; clear HD; have HD := Lib.hid n0; clear n0; have c0 := cell0 (HR.out _ _ _ HD.out) (by omega)))
 refine wp_loop_rounds 1 ?_
 rw [rounds_succ]
 go_wp2_with (first | (at_builtin; refine dl (.tmp 120) (.tmp 122) [_] HD.out ?_; intro v1 w1 HD; have c0 := cell0 (HR.out _ _ _ HD.out) (by omega)) | (at_builtin; refine dl (.tmp 132) (.tmp 134) [_] HD.out ?_; intro v1 w1 HD; have c0 := cell0 (HR.out _ _ _ HD.out) (by omega)) | (at_builtin; refine dl (.tmp 155) (.tmp 159) [_, _] HD.out ?_; intro v1 w1 HD; have c0 := cell0 (HR.out _ _ _ HD.out) (by omega)))
 go_ret
 refine ⟨_, rfl, HD.out.cast ?_⟩
 unfold fmtEL expS expL signL
 rw [if_neg (show ¬ nd = 0 by omega), if_pos (show 1 < nd by omega)]
 rw [if_neg (show ¬ nd = 0 by omega)]
 rw [if_neg (show ¬ dp - 1 < 0 by omega), if_pos (show dp - 1 < 10 by omega)]
 simp [wrap64]
 try omega
theorem fmtE_f2e (L c : Nat) (B : Nat) (l : List Int) (dp : Int) (nd : Nat) (hnd : nd ≤ L) (hL : L ≤ 100) (hc : L ≤ c) (w : World) (base : Nat) (v : Value) (xs : List Int) (hx : xs.length ≤ 1000000) (hO : Own w base v xs) (hb : base ≤ w.heap.size) (hR : ReadsInt w .u8 (some ⟨B, 0, none⟩) L l) (hB : B < w.heap.size) (hne : some B ≠ v.ownBlock) (h2 : 2 ≤ nd) (e0 : 10 ≤ dp - 1) (e1 : dp - 1 < 100) :
  Calls Tryz.prog 187 #[v, .bool false, .slice (some ⟨B, 0, none⟩) L c, .int .i64 dp, .int .i64 nd, .int .i64 nd, .int .u8 71, .bool true] w fun e w' => ∃ v', e = .returned v' ∧ Dst base w v xs w' v' (fmtEL false l nd dp) := by
 have hR2 : ∀ W u ys, Dst base w v xs W u ys → ReadsInt W .u8 (some ⟨B, 0, none⟩) L l := fun W u ys h => h.reads hR (fun ad ha _ => by injection ha with ha; subst ha; exact ⟨hB, hne⟩)
 have HD := Lib.hid (Dst.start hO hb)
 have HR := Lib.hid hR2
 have c0 := cell0 hR (by omega)
 clear hO hb hR hR2
 go_enter Tryz.func187, Tryz.ntmps187
 go_wp2_with (first | (at_builtin; refine dl (.tmp 87) (.tmp 89) [_] HD.out ?_; intro v1 w1 HD; have c0 := cell0 (HR.out _ _ _ HD.out) (by omega)) | (at_builtin; refine dl (.tmp 93) (.tmp 94) [_] HD.out ?_; intro v1 w1 HD; have c0 := cell0 (HR.out _ _ _ HD.out) (by omega)) | (at_builtin; refine dst_row rfl (.tmp 103) (.tmp 107) rfl _ xs _ ((l.take nd).drop 1) _ _ _ rfl rfl HD.out (reads_sub (HR.out _ _ _ HD.out) 1 nd (by omega) (by omega)) (by (try simp only [List.length_append, List.length_cons, List.length_nil, List.length_drop, List.length_take]); omega) ?_; intro v1 w1 n0; clear HD; have HD := Lib.hid n0; clear n0; have c0 := cell0 (HR.out _ _ _ HD.out) (by omega)))
 refine wp_loop_rounds 1 ?_
 rw [rounds_succ]
 go_wp2_with (first | (at_builtin; refine dl (.tmp 120) (.tmp 122) [_] HD.out ?_; intro v1 w1 HD; have c0 := cell0 (HR.out _ _ _ HD.out) (by omega)) | (at_builtin; refine dl (.tmp 132) (.tmp 134) [_] HD.out ?_; intro v1 w1 HD; have c0 := cell0 (HR.out _ _ _ HD.out) (by omega)) | (at_builtin; refine dl (.tmp 164) (.tmp 173) [_, _] HD.out ?_; intro v1 w1 HD; have c0 := cell0 (HR.out _ _ _ HD.out) (by omega)))
 go_ret
 refine ⟨_, rfl, HD.out.cast ?_⟩
 unfold fmtEL expS expL signL
 rw [if_neg (show ¬ nd = 0 by omega), if_pos (show 1 < nd by omega)]
 rw [if_neg (show ¬ nd = 0 by omega)]
 rw [if_neg (show ¬ dp - 1 < 0 by omega), if_neg (show ¬ dp - 1 < 10 by omega), if_pos (show dp - 1 < 100 by omega)]
 simp [wrap64]
 try omega
theorem fmtE_f2f (L c : Nat) (B : Nat) (l : List Int) (dp : Int) (nd : Nat) (hnd : nd ≤ L) (hL : L ≤ 100) (hc : L ≤ c) (w : World) (base : Nat) (v : Value) (xs : List Int) (hx : xs.length ≤ 1000000) (hO : Own w base v xs) (hb : base ≤ w.heap.size) (hR : ReadsInt w .u8 (some ⟨B, 0, none⟩) L l) (hB : B < w.heap.size) (hne : some B ≠ v.ownBlock) (h2 : 2 ≤ nd) (e0 : 100 ≤ dp - 1) (e1 : dp - 1 ≤ 400) :
  Calls Tryz.prog 187 #[v, .bool false, .slice (some ⟨B, 0, none⟩) L c, .int .i64 dp, .int .i64 nd, .int .i64 nd, .int .u8 71, .bool true] w fun e w' => ∃ v', e = .returned v' ∧ Dst base w v xs w' v' (fmtEL false l nd dp) := by
 have hR2 : ∀ W u ys, Dst base w v xs W u ys → ReadsInt W .u8 (some ⟨B, 0, none⟩) L l := fun W u ys h => h.reads hR (fun ad ha _ => by injection ha with ha; subst ha; exact ⟨hB, hne⟩)
 have HD := Lib.hid (Dst.start hO hb)
 have HR := Lib.hid hR2
 have c0 := cell0 hR (by omega)
 clear hO hb hR hR2
 go_enter Tryz.func187, Tryz.ntmps187
 go_wp2_with (first | (at_builtin; refine dl (.tmp 87) (.tmp 89) [_] HD.out ?_; intro v1 w1 HD; have c0 := cell0 (HR.out _ _ _ HD.out) (by omega)) | (at_builtin; refine dl (.tmp 93) (.tmp 94) [_] HD.out ?_; intro v1 w1 HD; have c0 := cell0 (HR.out _ _ _ HD.out) (by omega)) | (at_builtin; refine dst_row rfl (.tmp 103) (.tmp 107) rfl _ xs _ ((l.take nd).drop 1) _ _ _ rfl rfl HD.out (reads_sub (HR.out _ _ _ HD.out) 1 nd (by omega) (by omega)) (by (try simp only [List.length_append, List.length_cons, List.length_nil, List.length_drop, List.length_take]); omega) ?_; intro v1 w1 n0; clear HD; have HD := Lib.hid n0; clear n0; have c0 := cell0 (HR.out _ _ _ HD.out) (by omega)))
 refine wp_loop_rounds 1 ?_
 rw [rounds_succ]
 go_wp2_with (first | (at_builtin; refine dl (.tmp 120) (.tmp 122) [_] HD.out ?_; intro v1 w1 HD; have c0 := cell0 (HR.out _ _ _ HD.out) (by omega)) | (at_builtin; refine dl (.tmp 132) (.tmp 134) [_] HD.out ?_; intro v1 w1 HD; have c0 := cell0 (HR.out _ _ _ HD.out) (by omega)) | (at_builtin; refine dl (.tmp 136) (.tmp 150) [_, _, _] HD.out ?_; intro v1 w1 HD; have c0 := cell0 (HR.out _ _ _ HD.out) (by omega)))
 go_ret
 refine ⟨_, rfl, HD.out.cast ?_⟩
 unfold fmtEL expS expL signL
 rw [if_neg (show ¬ nd = 0 by omega), if_pos (show 1 < nd by omega)]
 rw [if_neg (show ¬ nd = 0 by omega)]
 rw [if_neg (show ¬ dp - 1 < 0 by omega), if_neg (show ¬ dp - 1 < 10 by omega), if_neg (show ¬ dp - 1 < 100 by omega)]
 simp [wrap64]
 try omega
end Go.Proofs.YtkeakdjbidbegaaGreatDoor
