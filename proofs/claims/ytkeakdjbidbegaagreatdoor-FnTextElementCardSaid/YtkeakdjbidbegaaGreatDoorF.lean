/- A part of the proof that laws.FnTextElement returns true at every input: Efgn, Efg. -/
import Derived.Test.YtkeakdjbidbegaaGreatDoorD
import Derived.Test.YtkeakdjbidbegaaGreatDoorE
set_option linter.unusedSimpArgs false
set_option linter.unusedVariables false
set_option maxRecDepth 100000
set_option maxHeartbeats 8000000
namespace Go.Proofs.YtkeakdjbidbegaaGreatDoor
open Go.RowKit
open Go.Proofs.YtkeakdjbidbegaaGreatDoorW.PrintWords
theorem celln {W : World} {B n : Nat} {l : List Int} (h : ReadsInt W .u8 (some ⟨B, 0, none⟩) n l) (k : Nat) (hk : k < n) : W.cell? ⟨B, k, none⟩ = some (.int .u8 (rd l k)) := by
 obtain ⟨ad, e, hc⟩ := h.at_ k (by omega) (by omega)
 injection e with e
 subst e
 simpa [add_plain] using hc
theorem take_snoc_rd {l : List Int} {n k : Nat} (hl : n ≤ l.length) (hk : k < n) : l.take k ++ [rd l k] = l.take (k + 1) := by
 have hkl : k < l.length := by omega
 rw [List.take_add_one, List.getElem?_eq_getElem hkl]
 unfold rd
 rw [show ((k : Int)).toNat = k by omega, List.getD_eq_getElem?_getD, List.getElem?_eq_getElem hkl]
 rfl
def fmtNL (neg : Bool) (l : List Int) (nd : Nat) (dp : Int) : List Int :=
 signL neg ++ (if 0 < dp then l.take (min nd dp.toNat) ++ List.replicate (dp.toNat - nd) 48 else [48]) ++
  (if dp < nd then 46 :: (List.replicate (-dp).toNat 48 ++ (l.take nd).drop dp.toNat) else [])
theorem fmtN_tD (L c : Nat) (B : Nat) (l : List Int) (nd : Nat) (hnd : nd ≤ L) (hL : L ≤ 100) (hc : L ≤ c) (w : World) (base : Nat) (v : Value) (xs : List Int) (hx : xs.length ≤ 1000000) (hO : Own w base v xs) (hb : base ≤ w.heap.size) (hR : ReadsInt w .u8 (some ⟨B, 0, none⟩) L l) (hB : B < w.heap.size) (hne : some B ≠ v.ownBlock) (h2 : nd = 0) :
  Calls Tryz.prog 187 #[v, .bool true, .slice (some ⟨B, 0, none⟩) L c, .int .i64 (0), .int .i64 nd, .int .i64 nd, .int .u8 71, .bool true] w fun e w' => ∃ v', e = .returned v' ∧ Dst base w v xs w' v' (fmtNL true l nd (0)) := by
 subst h2
 have hR2 : ∀ W u ys, Dst base w v xs W u ys → ReadsInt W .u8 (some ⟨B, 0, none⟩) L l := fun W u ys h => h.reads hR (fun ad ha _ => by injection ha with ha; subst ha; exact ⟨hB, hne⟩)
 have hll : l.length = L := hR.1
 have hsg : (signL true).length ≤ 1 := by simp [signL]
 have HD := Lib.hid (Dst.start hO hb)
 have HR := Lib.hid hR2
 clear hO hb hR hR2
 go_enter Tryz.func187, Tryz.ntmps187
 go_wp2_with (first | (at_builtin; refine dl (.tmp 179) (.tmp 180) [_] HD.out ?_; intro v1 w1 HD) | (at_builtin; refine dl (.tmp 195) (.tmp 197) [_] HD.out ?_; intro v1 w1 HD) | (at_builtin; refine dl (.tmp 205) (.tmp 206) [_] HD.out ?_; intro v1 w1 HD) | (at_builtin; refine dl (.tmp 209) (.tmp 210) [_] HD.out ?_; intro v1 w1 HD) | (at_builtin; refine dl (.tmp 214) (.tmp 215) [_] HD.out ?_; intro v1 w1 HD) | (at_builtin; refine dl (.tmp 242) (.tmp 243) [_] HD.out ?_; intro v1 w1 HD) | (at_builtin; refine dl (.tmp 250) (.tmp 257) [_] HD.out ?_; intro v1 w1 HD) | (at_builtin; refine dl (.tmp 263) (.tmp 264) [_] HD.out ?_; intro v1 w1 HD))
 go_ret
 exact ⟨_, rfl, HD.out.cast (by simp [fmtNL, signL])⟩
theorem fmtN_tB (L c : Nat) (B : Nat) (l : List Int) (nd : Nat) (hnd : nd ≤ L) (hL : L ≤ 100) (hc : L ≤ c) (w : World) (base : Nat) (v : Value) (xs : List Int) (hx : xs.length ≤ 1000000) (hO : Own w base v xs) (hb : base ≤ w.heap.size) (hR : ReadsInt w .u8 (some ⟨B, 0, none⟩) L l) (hB : B < w.heap.size) (hne : some B ≠ v.ownBlock) (D : Nat) (d0 : 1 ≤ D) (d1 : D ≤ 6) (h2 : nd ≤ D) :
  Calls Tryz.prog 187 #[v, .bool true, .slice (some ⟨B, 0, none⟩) L c, .int .i64 ((D : Int)), .int .i64 nd, .int .i64 nd, .int .u8 71, .bool true] w fun e w' => ∃ v', e = .returned v' ∧ Dst base w v xs w' v' (fmtNL true l nd ((D : Int))) := by
 have hR2 : ∀ W u ys, Dst base w v xs W u ys → ReadsInt W .u8 (some ⟨B, 0, none⟩) L l := fun W u ys h => h.reads hR (fun ad ha _ => by injection ha with ha; subst ha; exact ⟨hB, hne⟩)
 have hll : l.length = L := hR.1
 have hsg : (signL true).length ≤ 1 := by simp [signL]
 have HD := Lib.hid (Dst.start hO hb)
 have HR := Lib.hid hR2
 clear hO hb hR hR2
 have z4 : decide (D < nd) = false := by simp; omega
 have z1 : decide ((D : Int) - 1 < -4) = false := by simp; omega
 have z2 : decide (6 ≤ (D : Int) - 1) = false := by simp; omega
 have z3 : decide (0 < D) = true := by simp; omega
 have q1 : min (nd : Int) (D : Int) = nd := by omega
 have q2 : max ((nd : Int) - (D : Int)) 0 = 0 := by omega
 go_enter Tryz.func187, Tryz.ntmps187
 go_wp2_with (first | (at_builtin; refine dl (.tmp 179) (.tmp 180) [_] HD.out ?_; intro v1 w1 HD) | (at_builtin; refine dl (.tmp 195) (.tmp 197) [_] HD.out ?_; intro v1 w1 HD) | (at_builtin; refine dl (.tmp 205) (.tmp 206) [_] HD.out ?_; intro v1 w1 HD) | (at_builtin; refine dl (.tmp 209) (.tmp 210) [_] HD.out ?_; intro v1 w1 HD) | (at_builtin; refine dl (.tmp 214) (.tmp 215) [_] HD.out ?_; intro v1 w1 HD) | (at_builtin; refine dl (.tmp 242) (.tmp 243) [_] HD.out ?_; intro v1 w1 HD) | (at_builtin; refine dl (.tmp 250) (.tmp 257) [_] HD.out ?_; intro v1 w1 HD) | (at_builtin; refine dl (.tmp 263) (.tmp 264) [_] HD.out ?_; intro v1 w1 HD))
 go_loopw [0, 25, 191] (fun d x q wr => ∃ k : Nat, k ≤ nd ∧ q = .int .i64 k ∧ Hid (Dst base w v xs wr d (signL true ++ l.take k))) (fun _ _ q _ => nd - (intOf q).toNat)
 case atStart => exact ⟨0, by omega, rfl, HD.out.cast (by simp [signL])⟩
 case round =>
  obtain ⟨k, hk, rfl, HDk⟩ := hrel
  by_cases hlt : k < nd
  ·have ck := celln (HR.out _ _ _ HDk.out) k (by omega)
   have hd : decide ((k : Int) < nd) = true := by simp; omega
   go_wp2_with (at_builtin; refine dl (.tmp 195) (.tmp 197) [_] HDk.out ?_; intro v1 w1 HDk)
   exact ⟨⟨k + 1, by omega, by first | rfl | (congr 1; omega), HDk.out.cast (by rw [List.append_assoc, take_snoc_rd (n := L) (by omega) (by omega)])⟩, by simp [intOf] <;> omega⟩
  ·obtain rfl : k = nd := by omega
   go_wp2_with fail
   go_loopw [0, 203] (fun d q wr => ∃ j : Nat, j ≤ D - k ∧ q = .int .i64 j ∧ Hid (Dst base w v xs wr d (signL true ++ l.take k ++ List.replicate j 48))) (fun _ q _ => D - k - (intOf q).toNat)
   case atStart => exact ⟨0, by omega, rfl, HDk.out.cast (by simp)⟩
   case round =>
    obtain ⟨j, hj, rfl, HDj⟩ := hrel
    by_cases hlt2 : j < D - k
    ·have hd : decide ((j : Int) < (D : Int) - k) = true := by simp; omega
     go_wp2_with (at_builtin; refine dl (.tmp 205) (.tmp 206) [_] HDj.out ?_; intro v1 w1 HDj)
     exact ⟨⟨j + 1, by omega, by first | rfl | (congr 1; omega), HDj.out.cast (by simp [List.replicate_succ'])⟩, by simp [intOf] <;> omega⟩
    ·obtain rfl : j = D - k := by omega
     have hd : decide (((D - k : Nat) : Int) < (D : Int) - k) = false := by simp; omega
     go_wp2_with fail
     go_ret
     exact ⟨_, rfl, HDj.out.cast (by
      unfold fmtNL
      rw [if_pos (by omega), if_neg (by omega), show min k (D : Int).toNat = k by omega, show (D : Int).toNat = D by omega]
      simp)⟩
theorem fmtN_tA (L c : Nat) (B : Nat) (l : List Int) (nd : Nat) (hnd : nd ≤ L) (hL : L ≤ 100) (hc : L ≤ c) (w : World) (base : Nat) (v : Value) (xs : List Int) (hx : xs.length ≤ 1000000) (hO : Own w base v xs) (hb : base ≤ w.heap.size) (hR : ReadsInt w .u8 (some ⟨B, 0, none⟩) L l) (hB : B < w.heap.size) (hne : some B ≠ v.ownBlock) (D : Nat) (d0 : 1 ≤ D) (d1 : D ≤ 6) (h2 : D < nd) :
  Calls Tryz.prog 187 #[v, .bool true, .slice (some ⟨B, 0, none⟩) L c, .int .i64 ((D : Int)), .int .i64 nd, .int .i64 nd, .int .u8 71, .bool true] w fun e w' => ∃ v', e = .returned v' ∧ Dst base w v xs w' v' (fmtNL true l nd ((D : Int))) := by
 have hR2 : ∀ W u ys, Dst base w v xs W u ys → ReadsInt W .u8 (some ⟨B, 0, none⟩) L l := fun W u ys h => h.reads hR (fun ad ha _ => by injection ha with ha; subst ha; exact ⟨hB, hne⟩)
 have hll : l.length = L := hR.1
 have hsg : (signL true).length ≤ 1 := by simp [signL]
 have HD := Lib.hid (Dst.start hO hb)
 have HR := Lib.hid hR2
 clear hO hb hR hR2
 have z1 : decide ((D : Int) - 1 < -4) = false := by simp; omega
 have z2 : decide (6 ≤ (D : Int) - 1) = false := by simp; omega
 have z3 : decide (0 < D) = true := by simp; omega
 have q1 : min (nd : Int) (D : Int) = D := by omega
 have q2 : max ((nd : Int) - (D : Int)) 0 = nd - D := by omega
 have q3 : max 0 (-(D : Int)) = 0 := by omega
 have q4 : min ((nd : Int) - D) 0 = 0 := by omega
 have q5 : max 0 ((nd : Int) - D) = nd - D := by omega
 go_enter Tryz.func187, Tryz.ntmps187
 go_wp2_with (first | (at_builtin; refine dl (.tmp 179) (.tmp 180) [_] HD.out ?_; intro v1 w1 HD) | (at_builtin; refine dl (.tmp 195) (.tmp 197) [_] HD.out ?_; intro v1 w1 HD) | (at_builtin; refine dl (.tmp 205) (.tmp 206) [_] HD.out ?_; intro v1 w1 HD) | (at_builtin; refine dl (.tmp 209) (.tmp 210) [_] HD.out ?_; intro v1 w1 HD) | (at_builtin; refine dl (.tmp 214) (.tmp 215) [_] HD.out ?_; intro v1 w1 HD) | (at_builtin; refine dl (.tmp 242) (.tmp 243) [_] HD.out ?_; intro v1 w1 HD) | (at_builtin; refine dl (.tmp 250) (.tmp 257) [_] HD.out ?_; intro v1 w1 HD) | (at_builtin; refine dl (.tmp 263) (.tmp 264) [_] HD.out ?_; intro v1 w1 HD))
 go_loopw [0, 25, 191] (fun d x q wr => ∃ k : Nat, k ≤ D ∧ q = .int .i64 k ∧ Hid (Dst base w v xs wr d (signL true ++ l.take k))) (fun _ _ q _ => D - (intOf q).toNat)
 case atStart => exact ⟨0, by omega, rfl, HD.out.cast (by simp [signL])⟩
 case round =>
  obtain ⟨k, hk, rfl, HDk⟩ := hrel
  by_cases hlt : k < D
  ·have ck := celln (HR.out _ _ _ HDk.out) k (by omega)
   have hd : decide ((k : Int) < D) = true := by simp; omega
   go_wp2_with (at_builtin; refine dl (.tmp 195) (.tmp 197) [_] HDk.out ?_; intro v1 w1 HDk)
   exact ⟨⟨k + 1, by omega, by first | rfl | (congr 1; omega), HDk.out.cast (by rw [List.append_assoc, take_snoc_rd (n := L) (by omega) (by omega)])⟩, by simp [intOf] <;> omega⟩
  ·obtain rfl : k = D := by omega
   go_wp2_with fail
   refine wp_loop_rounds 1 ?_
   rw [rounds_succ]
   go_wp2_with (at_builtin; refine dl (.tmp 214) (.tmp 215) [_] HDk.out ?_; intro v1 w1 HDk)
   refine wp_loop_rounds 1 ?_
   rw [rounds_succ]
   go_wp2_with fail
   go_loopw [0, 30, 247] (fun d x q wr => ∃ j : Nat, j ≤ nd - k ∧ q = .int .i64 j ∧ Hid (Dst base w v xs wr d (signL true ++ l.take k ++ [46] ++ (l.drop k).take j))) (fun _ _ q _ => nd - k - (intOf q).toNat)
   case atStart => exact ⟨0, by omega, rfl, HDk.out.cast (by simp)⟩
   case round =>
    obtain ⟨j, hj, rfl, HDj⟩ := hrel
    by_cases hlt2 : j < nd - k
    ·have ck := celln (HR.out _ _ _ HDj.out) (k + j) (by omega)
     have hd : decide ((j : Int) < (nd : Int) - k) = true := by simp; omega
     go_wp2_with (at_builtin; refine dl (.tmp 250) (.tmp 257) [_] HDj.out ?_; intro v1 w1 HDj)
     exact ⟨⟨j + 1, by omega, by first | rfl | (congr 1; omega), HDj.out.cast (by rw [List.append_assoc _ _ [_]]; congr 1; rw [← take_snoc_rd (l := l.drop k) (n := nd - k) (by rw [List.length_drop]; omega) (by omega)]; congr 1; simp only [rd]; rw [show ((k : Int) + (j : Int)).toNat = k + j by omega]; simp [List.getElem?_drop])⟩, by simp [intOf] <;> omega⟩
    ·obtain rfl : j = nd - k := by omega
     have hd : decide (((nd - k : Nat) : Int) < (nd : Int) - k) = false := by simp; omega
     go_wp2_with fail
     refine wp_loop_rounds 1 ?_
     rw [rounds_succ]
     go_wp2_with fail
     go_ret
     exact ⟨_, rfl, HDj.out.cast (by
      unfold fmtNL
      rw [if_pos (by omega), if_pos (by omega), show min nd (k : Int).toNat = k by omega, show (k : Int).toNat = k by omega, show k - nd = 0 by omega, show (-(k : Int)).toNat = 0 by omega, List.drop_take]
      simp)⟩
theorem fmtN_tC (L c : Nat) (B : Nat) (l : List Int) (nd : Nat) (hnd : nd ≤ L) (hL : L ≤ 100) (hc : L ≤ c) (w : World) (base : Nat) (v : Value) (xs : List Int) (hx : xs.length ≤ 1000000) (hO : Own w base v xs) (hb : base ≤ w.heap.size) (hR : ReadsInt w .u8 (some ⟨B, 0, none⟩) L l) (hB : B < w.heap.size) (hne : some B ≠ v.ownBlock) (Z : Nat) (d1 : Z ≤ 3) (h2 : 0 < nd + Z) :
  Calls Tryz.prog 187 #[v, .bool true, .slice (some ⟨B, 0, none⟩) L c, .int .i64 (-(Z : Int)), .int .i64 nd, .int .i64 nd, .int .u8 71, .bool true] w fun e w' => ∃ v', e = .returned v' ∧ Dst base w v xs w' v' (fmtNL true l nd (-(Z : Int))) := by
 have hR2 : ∀ W u ys, Dst base w v xs W u ys → ReadsInt W .u8 (some ⟨B, 0, none⟩) L l := fun W u ys h => h.reads hR (fun ad ha _ => by injection ha with ha; subst ha; exact ⟨hB, hne⟩)
 have hll : l.length = L := hR.1
 have hsg : (signL true).length ≤ 1 := by simp [signL]
 have HD := Lib.hid (Dst.start hO hb)
 have HR := Lib.hid hR2
 clear hO hb hR hR2
 have z1 : decide (-(Z : Int) - 1 < -4) = false := by simp; omega
 have z2 : decide (6 ≤ -(Z : Int) - 1) = false := by simp; omega
 have z3 : decide (0 < -(Z : Int)) = false := by simp
 have z4 : decide (0 < (nd : Int) + Z) = true := by simp; omega
 have z5 : decide ((Z : Int) < 0) = false := decide_eq_false (by omega)
 have z6 : -(Z : Int) + Z = 0 := by omega
 have q0 : max ((nd : Int) + (Z : Int)) 0 = nd + Z := by omega
 have q2 : max ((nd : Int) - -(Z : Int)) 0 = nd + Z := by omega
 have q3 : max 0 (Z : Int) = Z := by omega
 have q4 : min ((nd : Int) + Z) Z = Z := by omega
 have q5 : max 0 (nd : Int) = nd := by omega
 go_enter Tryz.func187, Tryz.ntmps187
 go_wp2_with (first | (at_builtin; refine dl (.tmp 179) (.tmp 180) [_] HD.out ?_; intro v1 w1 HD) | (at_builtin; refine dl (.tmp 195) (.tmp 197) [_] HD.out ?_; intro v1 w1 HD) | (at_builtin; refine dl (.tmp 205) (.tmp 206) [_] HD.out ?_; intro v1 w1 HD) | (at_builtin; refine dl (.tmp 209) (.tmp 210) [_] HD.out ?_; intro v1 w1 HD) | (at_builtin; refine dl (.tmp 214) (.tmp 215) [_] HD.out ?_; intro v1 w1 HD) | (at_builtin; refine dl (.tmp 242) (.tmp 243) [_] HD.out ?_; intro v1 w1 HD) | (at_builtin; refine dl (.tmp 250) (.tmp 257) [_] HD.out ?_; intro v1 w1 HD) | (at_builtin; refine dl (.tmp 263) (.tmp 264) [_] HD.out ?_; intro v1 w1 HD))
 trace_state
 go_loopw [0, 240] (fun d q wr => ∃ j : Nat, j ≤ Z ∧ q = .int .i64 j ∧ Hid (Dst base w v xs wr d (signL true ++ [48, 46] ++ List.replicate j 48))) (fun _ q _ => Z - (intOf q).toNat)
 case atStart => exact ⟨0, by omega, rfl, HD.out.cast (by simp [signL])⟩
 case round =>
  obtain ⟨j, hj, rfl, HDj⟩ := hrel
  by_cases hlt2 : j < Z
  ·have hd : decide ((j : Int) < (Z : Int)) = true := by simp; omega
   go_wp2_with (at_builtin; refine dl (.tmp 242) (.tmp 243) [_] HDj.out ?_; intro v1 w1 HDj)
   exact ⟨⟨j + 1, by omega, by first | rfl | (congr 1; omega), HDj.out.cast (by simp [List.replicate_succ'])⟩, by simp [intOf] <;> omega⟩
  ·obtain rfl : j = Z := by omega
   go_wp2_with fail
   go_loopw [0, 30, 247] (fun d x q wr => ∃ k : Nat, k ≤ nd ∧ q = .int .i64 k ∧ Hid (Dst base w v xs wr d (signL true ++ [48, 46] ++ List.replicate j 48 ++ l.take k))) (fun _ _ q _ => nd - (intOf q).toNat)
   case atStart => exact ⟨0, by omega, rfl, HDj.out.cast (by simp)⟩
   case round =>
    obtain ⟨k, hk, rfl, HDk⟩ := hrel
    by_cases hlt : k < nd
    ·have ck := celln (HR.out _ _ _ HDk.out) k (by omega)
     have hd : decide ((k : Int) < nd) = true := by simp; omega
     go_wp2_with (at_builtin; refine dl (.tmp 250) (.tmp 257) [_] HDk.out ?_; intro v1 w1 HDk)
     exact ⟨⟨k + 1, by omega, by first | rfl | (congr 1; omega), HDk.out.cast (by rw [List.append_assoc, take_snoc_rd (n := L) (by omega) (by omega)])⟩, by simp [intOf] <;> omega⟩
    ·obtain rfl : k = nd := by omega
     go_wp2_with fail
     refine wp_loop_rounds 1 ?_
     rw [rounds_succ]
     go_wp2_with fail
     go_ret
     exact ⟨_, rfl, HDk.out.cast (by
      unfold fmtNL
      rw [if_neg (by omega), if_pos (by omega), show (- -(j : Int)).toNat = j by omega, show (-(j : Int)).toNat = 0 by omega]
      simp)⟩
theorem fmtN_fD (L c : Nat) (B : Nat) (l : List Int) (nd : Nat) (hnd : nd ≤ L) (hL : L ≤ 100) (hc : L ≤ c) (w : World) (base : Nat) (v : Value) (xs : List Int) (hx : xs.length ≤ 1000000) (hO : Own w base v xs) (hb : base ≤ w.heap.size) (hR : ReadsInt w .u8 (some ⟨B, 0, none⟩) L l) (hB : B < w.heap.size) (hne : some B ≠ v.ownBlock) (h2 : nd = 0) :
  Calls Tryz.prog 187 #[v, .bool false, .slice (some ⟨B, 0, none⟩) L c, .int .i64 (0), .int .i64 nd, .int .i64 nd, .int .u8 71, .bool true] w fun e w' => ∃ v', e = .returned v' ∧ Dst base w v xs w' v' (fmtNL false l nd (0)) := by
 subst h2
 have hR2 : ∀ W u ys, Dst base w v xs W u ys → ReadsInt W .u8 (some ⟨B, 0, none⟩) L l := fun W u ys h => h.reads hR (fun ad ha _ => by injection ha with ha; subst ha; exact ⟨hB, hne⟩)
 have hll : l.length = L := hR.1
 have hsg : (signL false).length ≤ 1 := by simp [signL]
 have HD := Lib.hid (Dst.start hO hb)
 have HR := Lib.hid hR2
 clear hO hb hR hR2
 go_enter Tryz.func187, Tryz.ntmps187
 go_wp2_with (first | (at_builtin; refine dl (.tmp 179) (.tmp 180) [_] HD.out ?_; intro v1 w1 HD) | (at_builtin; refine dl (.tmp 195) (.tmp 197) [_] HD.out ?_; intro v1 w1 HD) | (at_builtin; refine dl (.tmp 205) (.tmp 206) [_] HD.out ?_; intro v1 w1 HD) | (at_builtin; refine dl (.tmp 209) (.tmp 210) [_] HD.out ?_; intro v1 w1 HD) | (at_builtin; refine dl (.tmp 214) (.tmp 215) [_] HD.out ?_; intro v1 w1 HD) | (at_builtin; refine dl (.tmp 242) (.tmp 243) [_] HD.out ?_; intro v1 w1 HD) | (at_builtin; refine dl (.tmp 250) (.tmp 257) [_] HD.out ?_; intro v1 w1 HD) | (at_builtin; refine dl (.tmp 263) (.tmp 264) [_] HD.out ?_; intro v1 w1 HD))
 go_ret
 exact ⟨_, rfl, HD.out.cast (by simp [fmtNL, signL])⟩
theorem fmtN_fB (L c : Nat) (B : Nat) (l : List Int) (nd : Nat) (hnd : nd ≤ L) (hL : L ≤ 100) (hc : L ≤ c) (w : World) (base : Nat) (v : Value) (xs : List Int) (hx : xs.length ≤ 1000000) (hO : Own w base v xs) (hb : base ≤ w.heap.size) (hR : ReadsInt w .u8 (some ⟨B, 0, none⟩) L l) (hB : B < w.heap.size) (hne : some B ≠ v.ownBlock) (D : Nat) (d0 : 1 ≤ D) (d1 : D ≤ 6) (h2 : nd ≤ D) :
  Calls Tryz.prog 187 #[v, .bool false, .slice (some ⟨B, 0, none⟩) L c, .int .i64 ((D : Int)), .int .i64 nd, .int .i64 nd, .int .u8 71, .bool true] w fun e w' => ∃ v', e = .returned v' ∧ Dst base w v xs w' v' (fmtNL false l nd ((D : Int))) := by
 have hR2 : ∀ W u ys, Dst base w v xs W u ys → ReadsInt W .u8 (some ⟨B, 0, none⟩) L l := fun W u ys h => h.reads hR (fun ad ha _ => by injection ha with ha; subst ha; exact ⟨hB, hne⟩)
 have hll : l.length = L := hR.1
 have hsg : (signL false).length ≤ 1 := by simp [signL]
 have HD := Lib.hid (Dst.start hO hb)
 have HR := Lib.hid hR2
 clear hO hb hR hR2
 have z4 : decide (D < nd) = false := by simp; omega
 have z1 : decide ((D : Int) - 1 < -4) = false := by simp; omega
 have z2 : decide (6 ≤ (D : Int) - 1) = false := by simp; omega
 have z3 : decide (0 < D) = true := by simp; omega
 have q1 : min (nd : Int) (D : Int) = nd := by omega
 have q2 : max ((nd : Int) - (D : Int)) 0 = 0 := by omega
 go_enter Tryz.func187, Tryz.ntmps187
 go_wp2_with (first | (at_builtin; refine dl (.tmp 179) (.tmp 180) [_] HD.out ?_; intro v1 w1 HD) | (at_builtin; refine dl (.tmp 195) (.tmp 197) [_] HD.out ?_; intro v1 w1 HD) | (at_builtin; refine dl (.tmp 205) (.tmp 206) [_] HD.out ?_; intro v1 w1 HD) | (at_builtin; refine dl (.tmp 209) (.tmp 210) [_] HD.out ?_; intro v1 w1 HD) | (at_builtin; refine dl (.tmp 214) (.tmp 215) [_] HD.out ?_; intro v1 w1 HD) | (at_builtin; refine dl (.tmp 242) (.tmp 243) [_] HD.out ?_; intro v1 w1 HD) | (at_builtin; refine dl (.tmp 250) (.tmp 257) [_] HD.out ?_; intro v1 w1 HD) | (at_builtin; refine dl (.tmp 263) (.tmp 264) [_] HD.out ?_; intro v1 w1 HD))
 go_loopw [0, 25, 191] (fun d x q wr => ∃ k : Nat, k ≤ nd ∧ q = .int .i64 k ∧ Hid (Dst base w v xs wr d (signL false ++ l.take k))) (fun _ _ q _ => nd - (intOf q).toNat)
 case atStart => exact ⟨0, by omega, rfl, HD.out.cast (by simp [signL])⟩
 case round =>
  obtain ⟨k, hk, rfl, HDk⟩ := hrel
  by_cases hlt : k < nd
  ·have ck := celln (HR.out _ _ _ HDk.out) k (by omega)
   have hd : decide ((k : Int) < nd) = true := by simp; omega
   go_wp2_with (at_builtin; refine dl (.tmp 195) (.tmp 197) [_] HDk.out ?_; intro v1 w1 HDk)
   exact ⟨⟨k + 1, by omega, by first | rfl | (congr 1; omega), HDk.out.cast (by rw [List.append_assoc, take_snoc_rd (n := L) (by omega) (by omega)])⟩, by simp [intOf] <;> omega⟩
  ·obtain rfl : k = nd := by omega
   go_wp2_with fail
   go_loopw [0, 203] (fun d q wr => ∃ j : Nat, j ≤ D - k ∧ q = .int .i64 j ∧ Hid (Dst base w v xs wr d (signL false ++ l.take k ++ List.replicate j 48))) (fun _ q _ => D - k - (intOf q).toNat)
   case atStart => exact ⟨0, by omega, rfl, HDk.out.cast (by simp)⟩
   case round =>
    obtain ⟨j, hj, rfl, HDj⟩ := hrel
    by_cases hlt2 : j < D - k
    ·have hd : decide ((j : Int) < (D : Int) - k) = true := by simp; omega
     go_wp2_with (at_builtin; refine dl (.tmp 205) (.tmp 206) [_] HDj.out ?_; intro v1 w1 HDj)
     exact ⟨⟨j + 1, by omega, by first | rfl | (congr 1; omega), HDj.out.cast (by simp [List.replicate_succ'])⟩, by simp [intOf] <;> omega⟩
    ·obtain rfl : j = D - k := by omega
     have hd : decide (((D - k : Nat) : Int) < (D : Int) - k) = false := by simp; omega
     go_wp2_with fail
     go_ret
     exact ⟨_, rfl, HDj.out.cast (by
      unfold fmtNL
      rw [if_pos (by omega), if_neg (by omega), show min k (D : Int).toNat = k by omega, show (D : Int).toNat = D by omega]
      simp)⟩
theorem fmtN_fA (L c : Nat) (B : Nat) (l : List Int) (nd : Nat) (hnd : nd ≤ L) (hL : L ≤ 100) (hc : L ≤ c) (w : World) (base : Nat) (v : Value) (xs : List Int) (hx : xs.length ≤ 1000000) (hO : Own w base v xs) (hb : base ≤ w.heap.size) (hR : ReadsInt w .u8 (some ⟨B, 0, none⟩) L l) (hB : B < w.heap.size) (hne : some B ≠ v.ownBlock) (D : Nat) (d0 : 1 ≤ D) (d1 : D ≤ 6) (h2 : D < nd) :
  Calls Tryz.prog 187 #[v, .bool false, .slice (some ⟨B, 0, none⟩) L c, .int .i64 ((D : Int)), .int .i64 nd, .int .i64 nd, .int .u8 71, .bool true] w fun e w' => ∃ v', e = .returned v' ∧ Dst base w v xs w' v' (fmtNL false l nd ((D : Int))) := by
 have hR2 : ∀ W u ys, Dst base w v xs W u ys → ReadsInt W .u8 (some ⟨B, 0, none⟩) L l := fun W u ys h => h.reads hR (fun ad ha _ => by injection ha with ha; subst ha; exact ⟨hB, hne⟩)
 have hll : l.length = L := hR.1
 have hsg : (signL false).length ≤ 1 := by simp [signL]
 have HD := Lib.hid (Dst.start hO hb)
 have HR := Lib.hid hR2
 clear hO hb hR hR2
 have z1 : decide ((D : Int) - 1 < -4) = false := by simp; omega
 have z2 : decide (6 ≤ (D : Int) - 1) = false := by simp; omega
 have z3 : decide (0 < D) = true := by simp; omega
 have q1 : min (nd : Int) (D : Int) = D := by omega
 have q2 : max ((nd : Int) - (D : Int)) 0 = nd - D := by omega
 have q3 : max 0 (-(D : Int)) = 0 := by omega
 have q4 : min ((nd : Int) - D) 0 = 0 := by omega
 have q5 : max 0 ((nd : Int) - D) = nd - D := by omega
 go_enter Tryz.func187, Tryz.ntmps187
 go_wp2_with (first | (at_builtin; refine dl (.tmp 179) (.tmp 180) [_] HD.out ?_; intro v1 w1 HD) | (at_builtin; refine dl (.tmp 195) (.tmp 197) [_] HD.out ?_; intro v1 w1 HD) | (at_builtin; refine dl (.tmp 205) (.tmp 206) [_] HD.out ?_; intro v1 w1 HD) | (at_builtin; refine dl (.tmp 209) (.tmp 210) [_] HD.out ?_; intro v1 w1 HD) | (at_builtin; refine dl (.tmp 214) (.tmp 215) [_] HD.out ?_; intro v1 w1 HD) | (at_builtin; refine dl (.tmp 242) (.tmp 243) [_] HD.out ?_; intro v1 w1 HD) | (at_builtin; refine dl (.tmp 250) (.tmp 257) [_] HD.out ?_; intro v1 w1 HD) | (at_builtin; refine dl (.tmp 263) (.tmp 264) [_] HD.out ?_; intro v1 w1 HD))
 go_loopw [0, 25, 191] (fun d x q wr => ∃ k : Nat, k ≤ D ∧ q = .int .i64 k ∧ Hid (Dst base w v xs wr d (signL false ++ l.take k))) (fun _ _ q _ => D - (intOf q).toNat)
 case atStart => exact ⟨0, by omega, rfl, HD.out.cast (by simp [signL])⟩
 case round =>
  obtain ⟨k, hk, rfl, HDk⟩ := hrel
  by_cases hlt : k < D
  ·have ck := celln (HR.out _ _ _ HDk.out) k (by omega)
   have hd : decide ((k : Int) < D) = true := by simp; omega
   go_wp2_with (at_builtin; refine dl (.tmp 195) (.tmp 197) [_] HDk.out ?_; intro v1 w1 HDk)
   exact ⟨⟨k + 1, by omega, by first | rfl | (congr 1; omega), HDk.out.cast (by rw [List.append_assoc, take_snoc_rd (n := L) (by omega) (by omega)])⟩, by simp [intOf] <;> omega⟩
  ·obtain rfl : k = D := by omega
   go_wp2_with fail
   refine wp_loop_rounds 1 ?_
   rw [rounds_succ]
   go_wp2_with (at_builtin; refine dl (.tmp 214) (.tmp 215) [_] HDk.out ?_; intro v1 w1 HDk)
   refine wp_loop_rounds 1 ?_
   rw [rounds_succ]
   go_wp2_with fail
   go_loopw [0, 30, 247] (fun d x q wr => ∃ j : Nat, j ≤ nd - k ∧ q = .int .i64 j ∧ Hid (Dst base w v xs wr d (signL false ++ l.take k ++ [46] ++ (l.drop k).take j))) (fun _ _ q _ => nd - k - (intOf q).toNat)
   case atStart => exact ⟨0, by omega, rfl, HDk.out.cast (by simp)⟩
   case round =>
    obtain ⟨j, hj, rfl, HDj⟩ := hrel
    by_cases hlt2 : j < nd - k
    ·have ck := celln (HR.out _ _ _ HDj.out) (k + j) (by omega)
     have hd : decide ((j : Int) < (nd : Int) - k) = true := by simp; omega
     go_wp2_with (at_builtin; refine dl (.tmp 250) (.tmp 257) [_] HDj.out ?_; intro v1 w1 HDj)
     exact ⟨⟨j + 1, by omega, by first | rfl | (congr 1; omega), HDj.out.cast (by rw [List.append_assoc _ _ [_]]; congr 1; rw [← take_snoc_rd (l := l.drop k) (n := nd - k) (by rw [List.length_drop]; omega) (by omega)]; congr 1; simp only [rd]; rw [show ((k : Int) + (j : Int)).toNat = k + j by omega]; simp [List.getElem?_drop])⟩, by simp [intOf] <;> omega⟩
    ·obtain rfl : j = nd - k := by omega
     have hd : decide (((nd - k : Nat) : Int) < (nd : Int) - k) = false := by simp; omega
     go_wp2_with fail
     refine wp_loop_rounds 1 ?_
     rw [rounds_succ]
     go_wp2_with fail
     go_ret
     exact ⟨_, rfl, HDj.out.cast (by
      unfold fmtNL
      rw [if_pos (by omega), if_pos (by omega), show min nd (k : Int).toNat = k by omega, show (k : Int).toNat = k by omega, show k - nd = 0 by omega, show (-(k : Int)).toNat = 0 by omega, List.drop_take]
      simp)⟩
theorem fmtN_fC (L c : Nat) (B : Nat) (l : List Int) (nd : Nat) (hnd : nd ≤ L) (hL : L ≤ 100) (hc : L ≤ c) (w : World) (base : Nat) (v : Value) (xs : List Int) (hx : xs.length ≤ 1000000) (hO : Own w base v xs) (hb : base ≤ w.heap.size) (hR : ReadsInt w .u8 (some ⟨B, 0, none⟩) L l) (hB : B < w.heap.size) (hne : some B ≠ v.ownBlock) (Z : Nat) (d1 : Z ≤ 3) (h2 : 0 < nd + Z) :
  Calls Tryz.prog 187 #[v, .bool false, .slice (some ⟨B, 0, none⟩) L c, .int .i64 (-(Z : Int)), .int .i64 nd, .int .i64 nd, .int .u8 71, .bool true] w fun e w' => ∃ v', e = .returned v' ∧ Dst base w v xs w' v' (fmtNL false l nd (-(Z : Int))) := by
 have hR2 : ∀ W u ys, Dst base w v xs W u ys → ReadsInt W .u8 (some ⟨B, 0, none⟩) L l := fun W u ys h => h.reads hR (fun ad ha _ => by injection ha with ha; subst ha; exact ⟨hB, hne⟩)
 have hll : l.length = L := hR.1
 have hsg : (signL false).length ≤ 1 := by simp [signL]
 have HD := Lib.hid (Dst.start hO hb)
 have HR := Lib.hid hR2
 clear hO hb hR hR2
 have z1 : decide (-(Z : Int) - 1 < -4) = false := by simp; omega
 have z2 : decide (6 ≤ -(Z : Int) - 1) = false := by simp; omega
 have z3 : decide (0 < -(Z : Int)) = false := by simp
 have z4 : decide (0 < (nd : Int) + Z) = true := by simp; omega
 have z5 : decide ((Z : Int) < 0) = false := decide_eq_false (by omega)
 have z6 : -(Z : Int) + Z = 0 := by omega
 have q0 : max ((nd : Int) + (Z : Int)) 0 = nd + Z := by omega
 have q2 : max ((nd : Int) - -(Z : Int)) 0 = nd + Z := by omega
 have q3 : max 0 (Z : Int) = Z := by omega
 have q4 : min ((nd : Int) + Z) Z = Z := by omega
 have q5 : max 0 (nd : Int) = nd := by omega
 go_enter Tryz.func187, Tryz.ntmps187
 go_wp2_with (first | (at_builtin; refine dl (.tmp 179) (.tmp 180) [_] HD.out ?_; intro v1 w1 HD) | (at_builtin; refine dl (.tmp 195) (.tmp 197) [_] HD.out ?_; intro v1 w1 HD) | (at_builtin; refine dl (.tmp 205) (.tmp 206) [_] HD.out ?_; intro v1 w1 HD) | (at_builtin; refine dl (.tmp 209) (.tmp 210) [_] HD.out ?_; intro v1 w1 HD) | (at_builtin; refine dl (.tmp 214) (.tmp 215) [_] HD.out ?_; intro v1 w1 HD) | (at_builtin; refine dl (.tmp 242) (.tmp 243) [_] HD.out ?_; intro v1 w1 HD) | (at_builtin; refine dl (.tmp 250) (.tmp 257) [_] HD.out ?_; intro v1 w1 HD) | (at_builtin; refine dl (.tmp 263) (.tmp 264) [_] HD.out ?_; intro v1 w1 HD))
 trace_state
 go_loopw [0, 240] (fun d q wr => ∃ j : Nat, j ≤ Z ∧ q = .int .i64 j ∧ Hid (Dst base w v xs wr d (signL false ++ [48, 46] ++ List.replicate j 48))) (fun _ q _ => Z - (intOf q).toNat)
 case atStart => exact ⟨0, by omega, rfl, HD.out.cast (by simp [signL])⟩
 case round =>
  obtain ⟨j, hj, rfl, HDj⟩ := hrel
  by_cases hlt2 : j < Z
  ·have hd : decide ((j : Int) < (Z : Int)) = true := by simp; omega
   go_wp2_with (at_builtin; refine dl (.tmp 242) (.tmp 243) [_] HDj.out ?_; intro v1 w1 HDj)
   exact ⟨⟨j + 1, by omega, by first | rfl | (congr 1; omega), HDj.out.cast (by simp [List.replicate_succ'])⟩, by simp [intOf] <;> omega⟩
  ·obtain rfl : j = Z := by omega
   go_wp2_with fail
   go_loopw [0, 30, 247] (fun d x q wr => ∃ k : Nat, k ≤ nd ∧ q = .int .i64 k ∧ Hid (Dst base w v xs wr d (signL false ++ [48, 46] ++ List.replicate j 48 ++ l.take k))) (fun _ _ q _ => nd - (intOf q).toNat)
   case atStart => exact ⟨0, by omega, rfl, HDj.out.cast (by simp)⟩
   case round =>
    obtain ⟨k, hk, rfl, HDk⟩ := hrel
    by_cases hlt : k < nd
    ·have ck := celln (HR.out _ _ _ HDk.out) k (by omega)
     have hd : decide ((k : Int) < nd) = true := by simp; omega
     go_wp2_with (at_builtin; refine dl (.tmp 250) (.tmp 257) [_] HDk.out ?_; intro v1 w1 HDk)
     exact ⟨⟨k + 1, by omega, by first | rfl | (congr 1; omega), HDk.out.cast (by rw [List.append_assoc, take_snoc_rd (n := L) (by omega) (by omega)])⟩, by simp [intOf] <;> omega⟩
    ·obtain rfl : k = nd := by omega
     go_wp2_with fail
     refine wp_loop_rounds 1 ?_
     rw [rounds_succ]
     go_wp2_with fail
     go_ret
     exact ⟨_, rfl, HDk.out.cast (by
      unfold fmtNL
      rw [if_neg (by omega), if_pos (by omega), show (- -(j : Int)).toNat = j by omega, show (-(j : Int)).toNat = 0 by omega]
      simp)⟩
def fmtGL (neg : Bool) (l : List Int) (nd : Nat) (dp : Int) : List Int := if dp - 1 < -4 ∨ 6 ≤ dp - 1 then fmtEL neg l nd dp else fmtNL neg l nd dp
theorem signL_length (neg : Bool) : (signL neg).length ≤ 1 := by cases neg <;> simp [signL]
theorem expL_length (x : Int) : (expL x).length ≤ 3 := by
 unfold expL
 split
 ·simp
 ·split <;> simp
theorem expS_length (x : Int) : (expS x).length ≤ 4 := by
 unfold expS
 split
 ·have := expL_length (-x); simp; omega
 ·have := expL_length x; simp; omega
theorem fmtGL_length (neg : Bool) (l : List Int) (nd : Nat) (dp : Int) : (fmtGL neg l nd dp).length ≤ 2 * l.length + 30 := by
 have hs := signL_length neg
 unfold fmtGL
 split
 ·unfold fmtEL
  have he := expS_length (if nd = 0 then 0 else dp - 1)
  have h1 : (if nd = 0 then ([48] : List Int) else [rd l 0]).length = 1 := by split <;> rfl
  have h2 : (if 1 < nd then 46 :: (l.take nd).drop 1 else []).length ≤ l.length + 1 := by
   split
   ·simp only [List.length_cons, List.length_drop, List.length_take]; omega
   ·simp
  simp only [List.length_append, List.length_cons]
  omega
 ·rename_i h
  have hd : -3 ≤ dp ∧ dp ≤ 6 := by omega
  unfold fmtNL
  have h1 : (if 0 < dp then l.take (min nd dp.toNat) ++ List.replicate (dp.toNat - nd) 48 else ([48] : List Int)).length ≤ l.length + 6 := by
   split
   ·simp only [List.length_append, List.length_take, List.length_replicate]; omega
   ·simp
  have h2 : (if dp < nd then 46 :: (List.replicate (-dp).toNat 48 ++ (l.take nd).drop dp.toNat) else []).length ≤ l.length + 4 := by
   split
   ·simp only [List.length_cons, List.length_append, List.length_replicate, List.length_drop, List.length_take]; omega
   ·simp
  simp only [List.length_append]
  omega
theorem fmtG_calls (neg : Bool) (L c : Nat) (B : Nat) (l : List Int) (dp : Int) (nd : Nat) (hnd : nd ≤ L) (hL : L ≤ 100) (hc : L ≤ c) (w : World) (base : Nat) (v : Value) (xs : List Int) (hx : xs.length ≤ 1000000) (hO : Own w base v xs) (hb : base ≤ w.heap.size) (hR : ReadsInt w .u8 (some ⟨B, 0, none⟩) L l) (hB : B < w.heap.size) (hne : some B ≠ v.ownBlock) (d0 : -390 ≤ dp) (d1 : dp ≤ 390) :
  Calls Tryz.prog 187 #[v, .bool neg, .slice (some ⟨B, 0, none⟩) L c, .int .i64 dp, .int .i64 nd, .int .i64 nd, .int .u8 71, .bool true] w fun e w' => ∃ v', e = .returned v' ∧ Dst base w v xs w' v' (fmtGL neg l nd dp) := by
 unfold fmtGL
 by_cases hE : dp - 1 < -4 ∨ 6 ≤ dp - 1
 ·rw [if_pos hE]
  have hn : nd = 0 ∨ nd = 1 ∨ 2 ≤ nd := by omega
  have hi : dp - 1 ≤ -100 ∨ (-100 < dp - 1 ∧ dp - 1 ≤ -10) ∨ (-10 < dp - 1 ∧ dp - 1 < -4) ∨ (6 ≤ dp - 1 ∧ dp - 1 < 10) ∨ (10 ≤ dp - 1 ∧ dp - 1 < 100) ∨ 100 ≤ dp - 1 := by omega
  cases neg
  ·rcases hn with h2 | h2 | h2
   ·rcases hi with h | h | h | h | h | h
    ·exact fmtE_f0a L c B l dp nd hnd hL hc w base v xs hx hO hb hR hB hne h2 (by omega) (by omega)
    ·exact fmtE_f0b L c B l dp nd hnd hL hc w base v xs hx hO hb hR hB hne h2 (by omega) (by omega)
    ·exact fmtE_f0c L c B l dp nd hnd hL hc w base v xs hx hO hb hR hB hne h2 (by omega) (by omega)
    ·exact fmtE_f0d L c B l dp nd hnd hL hc w base v xs hx hO hb hR hB hne h2 (by omega) (by omega)
    ·exact fmtE_f0e L c B l dp nd hnd hL hc w base v xs hx hO hb hR hB hne h2 (by omega) (by omega)
    ·exact fmtE_f0f L c B l dp nd hnd hL hc w base v xs hx hO hb hR hB hne h2 (by omega) (by omega)
   ·rcases hi with h | h | h | h | h | h
    ·exact fmtE_f1a L c B l dp nd hnd hL hc w base v xs hx hO hb hR hB hne h2 (by omega) (by omega)
    ·exact fmtE_f1b L c B l dp nd hnd hL hc w base v xs hx hO hb hR hB hne h2 (by omega) (by omega)
    ·exact fmtE_f1c L c B l dp nd hnd hL hc w base v xs hx hO hb hR hB hne h2 (by omega) (by omega)
    ·exact fmtE_f1d L c B l dp nd hnd hL hc w base v xs hx hO hb hR hB hne h2 (by omega) (by omega)
    ·exact fmtE_f1e L c B l dp nd hnd hL hc w base v xs hx hO hb hR hB hne h2 (by omega) (by omega)
    ·exact fmtE_f1f L c B l dp nd hnd hL hc w base v xs hx hO hb hR hB hne h2 (by omega) (by omega)
   ·rcases hi with h | h | h | h | h | h
    ·exact fmtE_f2a L c B l dp nd hnd hL hc w base v xs hx hO hb hR hB hne h2 (by omega) (by omega)
    ·exact fmtE_f2b L c B l dp nd hnd hL hc w base v xs hx hO hb hR hB hne h2 (by omega) (by omega)
    ·exact fmtE_f2c L c B l dp nd hnd hL hc w base v xs hx hO hb hR hB hne h2 (by omega) (by omega)
    ·exact fmtE_f2d L c B l dp nd hnd hL hc w base v xs hx hO hb hR hB hne h2 (by omega) (by omega)
    ·exact fmtE_f2e L c B l dp nd hnd hL hc w base v xs hx hO hb hR hB hne h2 (by omega) (by omega)
    ·exact fmtE_f2f L c B l dp nd hnd hL hc w base v xs hx hO hb hR hB hne h2 (by omega) (by omega)
  ·rcases hn with h2 | h2 | h2
   ·rcases hi with h | h | h | h | h | h
    ·exact fmtE_t0a L c B l dp nd hnd hL hc w base v xs hx hO hb hR hB hne h2 (by omega) (by omega)
    ·exact fmtE_t0b L c B l dp nd hnd hL hc w base v xs hx hO hb hR hB hne h2 (by omega) (by omega)
    ·exact fmtE_t0c L c B l dp nd hnd hL hc w base v xs hx hO hb hR hB hne h2 (by omega) (by omega)
    ·exact fmtE_t0d L c B l dp nd hnd hL hc w base v xs hx hO hb hR hB hne h2 (by omega) (by omega)
    ·exact fmtE_t0e L c B l dp nd hnd hL hc w base v xs hx hO hb hR hB hne h2 (by omega) (by omega)
    ·exact fmtE_t0f L c B l dp nd hnd hL hc w base v xs hx hO hb hR hB hne h2 (by omega) (by omega)
   ·rcases hi with h | h | h | h | h | h
    ·exact fmtE_t1a L c B l dp nd hnd hL hc w base v xs hx hO hb hR hB hne h2 (by omega) (by omega)
    ·exact fmtE_t1b L c B l dp nd hnd hL hc w base v xs hx hO hb hR hB hne h2 (by omega) (by omega)
    ·exact fmtE_t1c L c B l dp nd hnd hL hc w base v xs hx hO hb hR hB hne h2 (by omega) (by omega)
    ·exact fmtE_t1d L c B l dp nd hnd hL hc w base v xs hx hO hb hR hB hne h2 (by omega) (by omega)
    ·exact fmtE_t1e L c B l dp nd hnd hL hc w base v xs hx hO hb hR hB hne h2 (by omega) (by omega)
    ·exact fmtE_t1f L c B l dp nd hnd hL hc w base v xs hx hO hb hR hB hne h2 (by omega) (by omega)
   ·rcases hi with h | h | h | h | h | h
    ·exact fmtE_t2a L c B l dp nd hnd hL hc w base v xs hx hO hb hR hB hne h2 (by omega) (by omega)
    ·exact fmtE_t2b L c B l dp nd hnd hL hc w base v xs hx hO hb hR hB hne h2 (by omega) (by omega)
    ·exact fmtE_t2c L c B l dp nd hnd hL hc w base v xs hx hO hb hR hB hne h2 (by omega) (by omega)
    ·exact fmtE_t2d L c B l dp nd hnd hL hc w base v xs hx hO hb hR hB hne h2 (by omega) (by omega)
    ·exact fmtE_t2e L c B l dp nd hnd hL hc w base v xs hx hO hb hR hB hne h2 (by omega) (by omega)
    ·exact fmtE_t2f L c B l dp nd hnd hL hc w base v xs hx hO hb hR hB hne h2 (by omega) (by omega)
 ·rw [if_neg hE]
  by_cases h0 : 0 < dp
  ·obtain ⟨D, rfl⟩ : ∃ D : Nat, dp = D := ⟨dp.toNat, by omega⟩
   by_cases h2 : D < nd
   ·cases neg
    ·exact fmtN_fA L c B l nd hnd hL hc w base v xs hx hO hb hR hB hne D (by omega) (by omega) h2
    ·exact fmtN_tA L c B l nd hnd hL hc w base v xs hx hO hb hR hB hne D (by omega) (by omega) h2
   ·cases neg
    ·exact fmtN_fB L c B l nd hnd hL hc w base v xs hx hO hb hR hB hne D (by omega) (by omega) (by omega)
    ·exact fmtN_tB L c B l nd hnd hL hc w base v xs hx hO hb hR hB hne D (by omega) (by omega) (by omega)
  ·by_cases h2 : dp < nd
   ·obtain ⟨Z, rfl⟩ : ∃ Z : Nat, dp = -(Z : Int) := ⟨(-dp).toNat, by omega⟩
    cases neg
    ·exact fmtN_fC L c B l nd hnd hL hc w base v xs hx hO hb hR hB hne Z (by omega) (by omega)
    ·exact fmtN_tC L c B l nd hnd hL hc w base v xs hx hO hb hR hB hne Z (by omega) (by omega)
   ·obtain rfl : dp = 0 := by omega
    cases neg
    ·exact fmtN_fD L c B l nd hnd hL hc w base v xs hx hO hb hR hB hne (by omega)
    ·exact fmtN_tD L c B l nd hnd hL hc w base v xs hx hO hb hR hB hne (by omega)
theorem fmtZ_true (w : World) (base : Nat) (v : Value) (xs : List Int) (hx : xs.length ≤ 1000000) (hO : Own w base v xs) (hb : base ≤ w.heap.size) :
  Calls Tryz.prog 187 #[v, .bool true, .slice none 0 0, .int .i64 0, .int .i64 0, .int .i64 (-1), .int .u8 71, .bool true] w fun e w' => ∃ v', e = .returned v' ∧ Dst base w v xs w' v' (signL true ++ [48]) := by
 have HD := Lib.hid (Dst.start hO hb)
 clear hO hb
 go_enter Tryz.func187, Tryz.ntmps187
 go_wp2_with (first | (at_builtin; refine dst_lit rfl (.tmp 179) (.tmp 180) rfl _ xs _ [_] rfl rfl HD.out (by (try simp only [List.length_append, List.length_cons, List.length_nil, List.length_drop, List.length_take, List.length_replicate]); omega) ?_; intro v1 w1 n0; clear HD; have HD := Lib.hid n0; clear n0) | (at_builtin; refine dst_lit rfl (.tmp 209) (.tmp 210) rfl _ xs _ [_] rfl rfl HD.out (by (try simp only [List.length_append, List.length_cons, List.length_nil, List.length_drop, List.length_take, List.length_replicate]); omega) ?_; intro v1 w1 n0; clear HD; have HD := Lib.hid n0; clear n0))
 go_ret
 exact ⟨_, rfl, HD.out.cast (by simp [signL])⟩
theorem fmtZ_false (w : World) (base : Nat) (v : Value) (xs : List Int) (hx : xs.length ≤ 1000000) (hO : Own w base v xs) (hb : base ≤ w.heap.size) :
  Calls Tryz.prog 187 #[v, .bool false, .slice none 0 0, .int .i64 0, .int .i64 0, .int .i64 (-1), .int .u8 71, .bool true] w fun e w' => ∃ v', e = .returned v' ∧ Dst base w v xs w' v' (signL false ++ [48]) := by
 have HD := Lib.hid (Dst.start hO hb)
 clear hO hb
 go_enter Tryz.func187, Tryz.ntmps187
 go_wp2_with (first | (at_builtin; refine dst_lit rfl (.tmp 179) (.tmp 180) rfl _ xs _ [_] rfl rfl HD.out (by (try simp only [List.length_append, List.length_cons, List.length_nil, List.length_drop, List.length_take, List.length_replicate]); omega) ?_; intro v1 w1 n0; clear HD; have HD := Lib.hid n0; clear n0) | (at_builtin; refine dst_lit rfl (.tmp 209) (.tmp 210) rfl _ xs _ [_] rfl rfl HD.out (by (try simp only [List.length_append, List.length_cons, List.length_nil, List.length_drop, List.length_take, List.length_replicate]); omega) ?_; intro v1 w1 n0; clear HD; have HD := Lib.hid n0; clear n0))
 go_ret
 exact ⟨_, rfl, HD.out.cast (by simp [signL])⟩
end Go.Proofs.YtkeakdjbidbegaaGreatDoor
