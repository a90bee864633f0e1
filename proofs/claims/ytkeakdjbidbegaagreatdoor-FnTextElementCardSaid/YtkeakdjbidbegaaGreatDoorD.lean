/- A part of the proof that laws.FnTextElement returns true at every input: Dst, EfgT. -/
import Derived.Test.YtkeakdjbidbegaaGreatDoorA
import Derived.Maps.Range
import Derived.Test.YtkeakdjbidbegaaGreatDoorC
import Derived.LoopN
set_option linter.unusedSimpArgs false
set_option linter.unusedVariables false
set_option maxRecDepth 100000
set_option maxHeartbeats 8000000
namespace Go.Proofs.YtkeakdjbidbegaaGreatDoor
open Go.RowKit
section
open Go.Proofs.YtkeakdjbidbegaaGreatDoorW.PrintWords
structure Dst (base : Nat) (w0 : World) (v0 : Value) (xs : List Int) (w : World) (v : Value) (ys : List Int) : Prop where
 base_le : base ≤ w0.heap.size
 own : Own w base v (xs ++ ys)
 below : Below base w0 w
 grown : w0.grownBy w v0.ownBlock
 at_ : v.ownBlock = v0.ownBlock ∨ ∃ b, v.ownBlock = some b ∧ w0.heap.size ≤ b
theorem Dst.start {base : Nat} {w : World} {v : Value} {xs : List Int} (h : Own w base v xs) (hb : base ≤ w.heap.size) : Dst base w v xs w v [] :=
 ⟨hb, by rw [List.append_nil]; exact h, Below.refl _ _, ⟨rfl, rfl, rfl, Nat.le_refl _, fun _ _ _ => rfl⟩, .inl rfl⟩
theorem Dst.cast {base : Nat} {w0 w : World} {v0 v : Value} {xs ys zs : List Int} (h : Dst base w0 v0 xs w v ys) (e : ys = zs) : Dst base w0 v0 xs w v zs := e ▸ h
theorem Dst.step {base : Nat} {w0 W w1 : World} {v0 v v1 : Value} {xs ys zs : List Int} (HD : Dst base w0 v0 xs W v ys) (ho : Own w1 base v1 (xs ++ ys ++ zs)) (hb : Below base w0 w1)
  (hg : W.grownBy w1 v.ownBlock) (ha : v1.ownBlock = v.ownBlock ∨ ∃ b, v1.ownBlock = some b ∧ W.heap.size ≤ b) : Dst base w0 v0 xs w1 v1 (ys ++ zs) := by
 refine ⟨HD.base_le, by rw [← List.append_assoc]; exact ho, hb, HD.grown.andThen hg ?_, ?_⟩
 ·intro j hj
  rcases HD.at_ with h | ⟨b, h, hle⟩
  ·exact .inr (h ▸ hj)
  ·rw [h] at hj
   injection hj with hj
   exact .inl (hj ▸ hle)
 ·rcases ha with h | ⟨b, h, hle⟩
  ·rw [h]; exact HD.at_
  ·exact .inr ⟨b, h, Nat.le_trans HD.grown.size hle⟩
theorem Dst.reads {base n : Nat} {w0 W : World} {v0 v : Value} {xs ys l : List Int} {A : Option Addr} (HD : Dst base w0 v0 xs W v ys) (hR : ReadsInt w0 .u8 A n l)
  (hne : ∀ ad, A = some ad → 0 < n → ad.block < w0.heap.size ∧ some ad.block ≠ v0.ownBlock) : ReadsInt W .u8 A n l := by
 refine ⟨hR.1, hR.2.1, fun hn => ?_⟩
 obtain ⟨ad, hA, hc⟩ := hR.2.2 hn
 obtain ⟨h1, h2⟩ := hne ad hA hn
 have hab : ∀ j, (ad.add j).block = ad.block := fun j => by unfold Addr.add; split <;> rfl
 exact ⟨ad, hA, fun j hj => (HD.grown.cell_far _ (by rw [hab]; exact h1) (by rw [hab]; exact h2)).trans (hc j hj)⟩
variable {P : Program} {ops : Array Oper} {rest : List Oper} {o : Oper} {a : Act} {Q : Exit → Act → World → Prop}
theorem dst_lit {w0 W : World} {v0 : Value} {base : Nat} (hgd : o.guard = none) (s x : Operand)
  (ho : o.op = .call { callee := .builtin .append, args := #[s, x], argTypes := #[23, 23] })
  (v : Value) (xs ys zs : List Int) (hs : a.eval s = v) (hx : a.eval x = .slice (some ⟨W.heap.size, 0, none⟩) zs.length zs.length)
  (HD : Dst base w0 v0 xs W v ys) (hl : xs.length + ys.length + zs.length ≤ 140737488355328)
  (h : ∀ v1 w1, Dst base w0 v0 xs w1 v1 (ys ++ zs) → wpList Tryz.prog ops Q rest (a.put o.dst v1) w1) :
  wpList Tryz.prog ops Q (o :: rest) a (W.alloc (.cells (nums .u8 zs).toArray 5)) :=
 append_lit (w0 := w0) base hgd s x ho v (xs ++ ys) zs hs hx HD.own HD.below (Nat.le_trans HD.base_le HD.below.size) (by rw [List.length_append]; exact hl) fun v1 w1 h1 h2 h3 h4 => h v1 w1 (HD.step h1 h2 h3 h4)
theorem dl {w0 W : World} {v0 v : Value} {base : Nat} {xs ys : List Int} (s x : Operand) (zs : List Int) (HD : Dst base w0 v0 xs W v ys)
  (h : ∀ v1 w1, Hid (Dst base w0 v0 xs w1 v1 (ys ++ zs)) → wpList Tryz.prog ops Q rest (a.put o.dst v1) w1)
  (hgd : o.guard = none := by exact rfl)
  (ho : o.op = .call { callee := .builtin .append, args := #[s, x], argTypes := #[23, 23] } := by exact rfl)
  (hs : a.eval s = v := by exact rfl) (hx : a.eval x = .slice (some ⟨W.heap.size, 0, none⟩) zs.length zs.length := by exact rfl)
  (hl : xs.length + ys.length + zs.length ≤ 140737488355328 := by (try simp only [List.length_append, List.length_cons, List.length_nil, List.length_drop, List.length_take, List.length_replicate]); omega) :
  wpList Tryz.prog ops Q (o :: rest) a (W.alloc (.cells (nums .u8 zs).toArray 5)) :=
 dst_lit hgd s x ho v xs ys zs hs hx HD hl h
theorem dst_row {w0 W : World} {v0 : Value} {base : Nat} (hgd : o.guard = none) (s x : Operand)
  (ho : o.op = .call { callee := .builtin .append, args := #[s, x], argTypes := #[23, 23] })
  (v : Value) (xs ys zs : List Int) (A : Option Addr) (m c : Nat) (hs : a.eval s = v) (hx : a.eval x = .slice A m c)
  (HD : Dst base w0 v0 xs W v ys) (HR : ReadsInt W .u8 A m zs) (hl : xs.length + ys.length + m ≤ 140737488355328)
  (h : ∀ v1 w1, Dst base w0 v0 xs w1 v1 (ys ++ zs) → wpList Tryz.prog ops Q rest (a.put o.dst v1) w1) :
  wpList Tryz.prog ops Q (o :: rest) a W :=
 append_row (w0 := w0) base hgd s x ho v (xs ++ ys) zs A m c hs hx HD.own HR HD.below (Nat.le_trans HD.base_le HD.below.size) (by rw [List.length_append]; exact hl) fun v1 w1 h1 h2 h3 h4 => h v1 w1 (HD.step h1 h2 h3 h4)
end
open Go.RowKit
open Go.Proofs.YtkeakdjbidbegaaGreatDoorW.PrintWords
theorem cell0 {W : World} {B n : Nat} {l : List Int} (h : ReadsInt W .u8 (some ⟨B, 0, none⟩) n l) (hn : 0 < n) : W.cell? ⟨B, 0, none⟩ = some (.int .u8 (rd l 0)) := by
 obtain ⟨ad, e, hc⟩ := h.at_ 0 (by omega) (by omega)
 injection e with e
 subst e
 exact hc
theorem reads_sub {W : World} {B n : Nat} {l : List Int} (h : ReadsInt W .u8 (some ⟨B, 0, none⟩) n l) (a b : Nat) (h1 : a ≤ b) (h2 : b ≤ n) : ReadsInt W .u8 (some ⟨B, a, none⟩) (b - a) ((l.take b).drop a) := by
 have h3 := (h.take_ b h2).drop_ (c := b + 1) a h1 (by omega)
 rw [if_neg (by omega)] at h3
 have e : (some (⟨B, 0, none⟩ : Addr)).map (·.add a) = some ⟨B, a, none⟩ := by
  simp only [Option.map_some]
  unfold Addr.add
  split
  ·rename_i h; subst h; rfl
  ·simp
 rw [e] at h3
 exact h3
def expL (x : Int) : List Int := if x < 10 then [48, x + 48] else if x < 100 then [x / 10 + 48, x % 10 + 48] else [x / 100 + 48, x / 10 % 10 + 48, x % 10 + 48]
def signL (neg : Bool) : List Int := if neg then [45] else []
def expS (e : Int) : List Int := if e < 0 then 45 :: expL (-e) else 43 :: expL e
def fmtEL (neg : Bool) (l : List Int) (nd : Nat) (dp : Int) : List Int :=
 signL neg ++ (if nd = 0 then [48] else [rd l 0]) ++ (if 1 < nd then 46 :: (l.take nd).drop 1 else []) ++ 69 :: expS (if nd = 0 then 0 else dp - 1)
theorem fmtE_t0a (L c : Nat) (B : Nat) (l : List Int) (dp : Int) (nd : Nat) (hnd : nd ≤ L) (hL : L ≤ 100) (hc : L ≤ c) (w : World) (base : Nat) (v : Value) (xs : List Int) (hx : xs.length ≤ 1000000) (hO : Own w base v xs) (hb : base ≤ w.heap.size) (hR : ReadsInt w .u8 (some ⟨B, 0, none⟩) L l) (hB : B < w.heap.size) (hne : some B ≠ v.ownBlock) (h2 : nd = 0) (e0 : -400 ≤ dp - 1) (e1 : dp - 1 ≤ -100) :
  Calls Tryz.prog 187 #[v, .bool true, .slice (some ⟨B, 0, none⟩) L c, .int .i64 dp, .int .i64 nd, .int .i64 nd, .int .u8 71, .bool true] w fun e w' => ∃ v', e = .returned v' ∧ Dst base w v xs w' v' (fmtEL true l nd dp) := by
 subst h2
 have hR2 : ∀ W u ys, Dst base w v xs W u ys → ReadsInt W .u8 (some ⟨B, 0, none⟩) L l := fun W u ys h => h.reads hR (fun ad ha _ => by injection ha with ha; subst ha; exact ⟨hB, hne⟩)
 have HD := Lib.hid (Dst.start hO hb)
 have HR := Lib.hid hR2
 clear hO hb hR hR2
 go_enter Tryz.func187, Tryz.ntmps187
 go_wp2_with (first | (at_builtin; refine dl (.tmp 79) (.tmp 80) [_] HD.out ?_; intro v1 w1 HD) | (at_builtin; refine dl (.tmp 87) (.tmp 89) [_] HD.out ?_; intro v1 w1 HD) | (at_builtin; refine dl (.tmp 120) (.tmp 122) [_] HD.out ?_; intro v1 w1 HD) | (at_builtin; refine dl (.tmp 132) (.tmp 134) [_] HD.out ?_; intro v1 w1 HD) | (at_builtin; refine dl (.tmp 155) (.tmp 159) [_, _] HD.out ?_; intro v1 w1 HD))
 go_ret
 refine ⟨_, rfl, HD.out.cast ?_⟩
 unfold fmtEL expS expL signL
 simp
theorem fmtE_t0b (L c : Nat) (B : Nat) (l : List Int) (dp : Int) (nd : Nat) (hnd : nd ≤ L) (hL : L ≤ 100) (hc : L ≤ c) (w : World) (base : Nat) (v : Value) (xs : List Int) (hx : xs.length ≤ 1000000) (hO : Own w base v xs) (hb : base ≤ w.heap.size) (hR : ReadsInt w .u8 (some ⟨B, 0, none⟩) L l) (hB : B < w.heap.size) (hne : some B ≠ v.ownBlock) (h2 : nd = 0) (e0 : -100 < dp - 1) (e1 : dp - 1 ≤ -10) :
  Calls Tryz.prog 187 #[v, .bool true, .slice (some ⟨B, 0, none⟩) L c, .int .i64 dp, .int .i64 nd, .int .i64 nd, .int .u8 71, .bool true] w fun e w' => ∃ v', e = .returned v' ∧ Dst base w v xs w' v' (fmtEL true l nd dp) := by
 subst h2
 have hR2 : ∀ W u ys, Dst base w v xs W u ys → ReadsInt W .u8 (some ⟨B, 0, none⟩) L l := fun W u ys h => h.reads hR (fun ad ha _ => by injection ha with ha; subst ha; exact ⟨hB, hne⟩)
 have HD := Lib.hid (Dst.start hO hb)
 have HR := Lib.hid hR2
 clear hO hb hR hR2
 go_enter Tryz.func187, Tryz.ntmps187
 go_wp2_with (first | (at_builtin; refine dl (.tmp 79) (.tmp 80) [_] HD.out ?_; intro v1 w1 HD) | (at_builtin; refine dl (.tmp 87) (.tmp 89) [_] HD.out ?_; intro v1 w1 HD) | (at_builtin; refine dl (.tmp 120) (.tmp 122) [_] HD.out ?_; intro v1 w1 HD) | (at_builtin; refine dl (.tmp 132) (.tmp 134) [_] HD.out ?_; intro v1 w1 HD) | (at_builtin; refine dl (.tmp 155) (.tmp 159) [_, _] HD.out ?_; intro v1 w1 HD))
 go_ret
 refine ⟨_, rfl, HD.out.cast ?_⟩
 unfold fmtEL expS expL signL
 simp
theorem fmtE_t0c (L c : Nat) (B : Nat) (l : List Int) (dp : Int) (nd : Nat) (hnd : nd ≤ L) (hL : L ≤ 100) (hc : L ≤ c) (w : World) (base : Nat) (v : Value) (xs : List Int) (hx : xs.length ≤ 1000000) (hO : Own w base v xs) (hb : base ≤ w.heap.size) (hR : ReadsInt w .u8 (some ⟨B, 0, none⟩) L l) (hB : B < w.heap.size) (hne : some B ≠ v.ownBlock) (h2 : nd = 0) (e0 : -10 < dp - 1) (e1 : dp - 1 < -4) :
  Calls Tryz.prog 187 #[v, .bool true, .slice (some ⟨B, 0, none⟩) L c, .int .i64 dp, .int .i64 nd, .int .i64 nd, .int .u8 71, .bool true] w fun e w' => ∃ v', e = .returned v' ∧ Dst base w v xs w' v' (fmtEL true l nd dp) := by
 subst h2
 have hR2 : ∀ W u ys, Dst base w v xs W u ys → ReadsInt W .u8 (some ⟨B, 0, none⟩) L l := fun W u ys h => h.reads hR (fun ad ha _ => by injection ha with ha; subst ha; exact ⟨hB, hne⟩)
 have HD := Lib.hid (Dst.start hO hb)
 have HR := Lib.hid hR2
 clear hO hb hR hR2
 go_enter Tryz.func187, Tryz.ntmps187
 go_wp2_with (first | (at_builtin; refine dl (.tmp 79) (.tmp 80) [_] HD.out ?_; intro v1 w1 HD) | (at_builtin; refine dl (.tmp 87) (.tmp 89) [_] HD.out ?_; intro v1 w1 HD) | (at_builtin; refine dl (.tmp 120) (.tmp 122) [_] HD.out ?_; intro v1 w1 HD) | (at_builtin; refine dl (.tmp 132) (.tmp 134) [_] HD.out ?_; intro v1 w1 HD) | (at_builtin; refine dl (.tmp 155) (.tmp 159) [_, _] HD.out ?_; intro v1 w1 HD))
 go_ret
 refine ⟨_, rfl, HD.out.cast ?_⟩
 unfold fmtEL expS expL signL
 simp
theorem fmtE_t0d (L c : Nat) (B : Nat) (l : List Int) (dp : Int) (nd : Nat) (hnd : nd ≤ L) (hL : L ≤ 100) (hc : L ≤ c) (w : World) (base : Nat) (v : Value) (xs : List Int) (hx : xs.length ≤ 1000000) (hO : Own w base v xs) (hb : base ≤ w.heap.size) (hR : ReadsInt w .u8 (some ⟨B, 0, none⟩) L l) (hB : B < w.heap.size) (hne : some B ≠ v.ownBlock) (h2 : nd = 0) (e0 : 6 ≤ dp - 1) (e1 : dp - 1 < 10) :
  Calls Tryz.prog 187 #[v, .bool true, .slice (some ⟨B, 0, none⟩) L c, .int .i64 dp, .int .i64 nd, .int .i64 nd, .int .u8 71, .bool true] w fun e w' => ∃ v', e = .returned v' ∧ Dst base w v xs w' v' (fmtEL true l nd dp) := by
 subst h2
 have hR2 : ∀ W u ys, Dst base w v xs W u ys → ReadsInt W .u8 (some ⟨B, 0, none⟩) L l := fun W u ys h => h.reads hR (fun ad ha _ => by injection ha with ha; subst ha; exact ⟨hB, hne⟩)
 have HD := Lib.hid (Dst.start hO hb)
 have HR := Lib.hid hR2
 clear hO hb hR hR2
 go_enter Tryz.func187, Tryz.ntmps187
 go_wp2_with (first | (at_builtin; refine dl (.tmp 79) (.tmp 80) [_] HD.out ?_; intro v1 w1 HD) | (at_builtin; refine dl (.tmp 87) (.tmp 89) [_] HD.out ?_; intro v1 w1 HD) | (at_builtin; refine dl (.tmp 120) (.tmp 122) [_] HD.out ?_; intro v1 w1 HD) | (at_builtin; refine dl (.tmp 132) (.tmp 134) [_] HD.out ?_; intro v1 w1 HD) | (at_builtin; refine dl (.tmp 155) (.tmp 159) [_, _] HD.out ?_; intro v1 w1 HD))
 go_ret
 refine ⟨_, rfl, HD.out.cast ?_⟩
 unfold fmtEL expS expL signL
 simp
theorem fmtE_t0e (L c : Nat) (B : Nat) (l : List Int) (dp : Int) (nd : Nat) (hnd : nd ≤ L) (hL : L ≤ 100) (hc : L ≤ c) (w : World) (base : Nat) (v : Value) (xs : List Int) (hx : xs.length ≤ 1000000) (hO : Own w base v xs) (hb : base ≤ w.heap.size) (hR : ReadsInt w .u8 (some ⟨B, 0, none⟩) L l) (hB : B < w.heap.size) (hne : some B ≠ v.ownBlock) (h2 : nd = 0) (e0 : 10 ≤ dp - 1) (e1 : dp - 1 < 100) :
  Calls Tryz.prog 187 #[v, .bool true, .slice (some ⟨B, 0, none⟩) L c, .int .i64 dp, .int .i64 nd, .int .i64 nd, .int .u8 71, .bool true] w fun e w' => ∃ v', e = .returned v' ∧ Dst base w v xs w' v' (fmtEL true l nd dp) := by
 subst h2
 have hR2 : ∀ W u ys, Dst base w v xs W u ys → ReadsInt W .u8 (some ⟨B, 0, none⟩) L l := fun W u ys h => h.reads hR (fun ad ha _ => by injection ha with ha; subst ha; exact ⟨hB, hne⟩)
 have HD := Lib.hid (Dst.start hO hb)
 have HR := Lib.hid hR2
 clear hO hb hR hR2
 go_enter Tryz.func187, Tryz.ntmps187
 go_wp2_with (first | (at_builtin; refine dl (.tmp 79) (.tmp 80) [_] HD.out ?_; intro v1 w1 HD) | (at_builtin; refine dl (.tmp 87) (.tmp 89) [_] HD.out ?_; intro v1 w1 HD) | (at_builtin; refine dl (.tmp 120) (.tmp 122) [_] HD.out ?_; intro v1 w1 HD) | (at_builtin; refine dl (.tmp 132) (.tmp 134) [_] HD.out ?_; intro v1 w1 HD) | (at_builtin; refine dl (.tmp 155) (.tmp 159) [_, _] HD.out ?_; intro v1 w1 HD))
 go_ret
 refine ⟨_, rfl, HD.out.cast ?_⟩
 unfold fmtEL expS expL signL
 simp
theorem fmtE_t0f (L c : Nat) (B : Nat) (l : List Int) (dp : Int) (nd : Nat) (hnd : nd ≤ L) (hL : L ≤ 100) (hc : L ≤ c) (w : World) (base : Nat) (v : Value) (xs : List Int) (hx : xs.length ≤ 1000000) (hO : Own w base v xs) (hb : base ≤ w.heap.size) (hR : ReadsInt w .u8 (some ⟨B, 0, none⟩) L l) (hB : B < w.heap.size) (hne : some B ≠ v.ownBlock) (h2 : nd = 0) (e0 : 100 ≤ dp - 1) (e1 : dp - 1 ≤ 400) :
  Calls Tryz.prog 187 #[v, .bool true, .slice (some ⟨B, 0, none⟩) L c, .int .i64 dp, .int .i64 nd, .int .i64 nd, .int .u8 71, .bool true] w fun e w' => ∃ v', e = .returned v' ∧ Dst base w v xs w' v' (fmtEL true l nd dp) := by
 subst h2
 have hR2 : ∀ W u ys, Dst base w v xs W u ys → ReadsInt W .u8 (some ⟨B, 0, none⟩) L l := fun W u ys h => h.reads hR (fun ad ha _ => by injection ha with ha; subst ha; exact ⟨hB, hne⟩)
 have HD := Lib.hid (Dst.start hO hb)
 have HR := Lib.hid hR2
 clear hO hb hR hR2
 go_enter Tryz.func187, Tryz.ntmps187
 go_wp2_with (first | (at_builtin; refine dl (.tmp 79) (.tmp 80) [_] HD.out ?_; intro v1 w1 HD) | (at_builtin; refine dl (.tmp 87) (.tmp 89) [_] HD.out ?_; intro v1 w1 HD) | (at_builtin; refine dl (.tmp 120) (.tmp 122) [_] HD.out ?_; intro v1 w1 HD) | (at_builtin; refine dl (.tmp 132) (.tmp 134) [_] HD.out ?_; intro v1 w1 HD) | (at_builtin; refine dl (.tmp 155) (.tmp 159) [_, _] HD.out ?_; intro v1 w1 HD))
 go_ret
 refine ⟨_, rfl, HD.out.cast ?_⟩
 unfold fmtEL expS expL signL
 simp
theorem fmtE_t1a (L c : Nat) (B : Nat) (l : List Int) (dp : Int) (nd : Nat) (hnd : nd ≤ L) (hL : L ≤ 100) (hc : L ≤ c) (w : World) (base : Nat) (v : Value) (xs : List Int) (hx : xs.length ≤ 1000000) (hO : Own w base v xs) (hb : base ≤ w.heap.size) (hR : ReadsInt w .u8 (some ⟨B, 0, none⟩) L l) (hB : B < w.heap.size) (hne : some B ≠ v.ownBlock) (h2 : nd = 1) (e0 : -400 ≤ dp - 1) (e1 : dp - 1 ≤ -100) :
  Calls Tryz.prog 187 #[v, .bool true, .slice (some ⟨B, 0, none⟩) L c, .int .i64 dp, .int .i64 nd, .int .i64 nd, .int .u8 71, .bool true] w fun e w' => ∃ v', e = .returned v' ∧ Dst base w v xs w' v' (fmtEL true l nd dp) := by
 subst h2
 have hR2 : ∀ W u ys, Dst base w v xs W u ys → ReadsInt W .u8 (some ⟨B, 0, none⟩) L l := fun W u ys h => h.reads hR (fun ad ha _ => by injection ha with ha; subst ha; exact ⟨hB, hne⟩)
 have HD := Lib.hid (Dst.start hO hb)
 have HR := Lib.hid hR2
 have c0 := cell0 hR (by omega)
 clear hO hb hR hR2
 go_enter Tryz.func187, Tryz.ntmps187
 go_wp2_with (first | (at_builtin; refine dl (.tmp 79) (.tmp 80) [_] HD.out ?_; intro v1 w1 HD; have c0 := cell0 (HR.out _ _ _ HD.out) (by omega)) | (at_builtin; refine dl (.tmp 87) (.tmp 89) [_] HD.out ?_; intro v1 w1 HD; have c0 := cell0 (HR.out _ _ _ HD.out) (by omega)) | (at_builtin; refine dl (.tmp 120) (.tmp 122) [_] HD.out ?_; intro v1 w1 HD; have c0 := cell0 (HR.out _ _ _ HD.out) (by omega)) | (at_builtin; refine dl (.tmp 132) (.tmp 134) [_] HD.out ?_; intro v1 w1 HD; have c0 := cell0 (HR.out _ _ _ HD.out) (by omega)) | (at_builtin; refine dl (.tmp 136) (.tmp 150) [_, _, _] HD.out ?_; intro v1 w1 HD; have c0 := cell0 (HR.out _ _ _ HD.out) (by omega)))
 go_ret
 refine ⟨_, rfl, HD.out.cast ?_⟩
 unfold fmtEL expS expL signL
 rw [if_neg (show ¬ (1 : Nat) = 0 by omega), if_neg (show ¬ 1 < (1 : Nat) by omega), if_neg (show ¬ (1 : Nat) = 0 by omega)]
 rw [if_pos (show dp - 1 < 0 by omega), if_neg (show ¬ -(dp - 1) < 10 by omega), if_neg (show ¬ -(dp - 1) < 100 by omega)]
 obtain ⟨X, hX⟩ : ∃ X, -(dp - 1) = X := ⟨_, rfl⟩
 have hX0 : 0 ≤ X := by omega
 have hX1 : dp - 1 = -X := by omega
 rw [hX1]
 simp only [Int.neg_neg, Int.neg_tdiv, Int.neg_tmod, Int.tdiv_eq_ediv_of_nonneg hX0, Int.tmod_eq_emod_of_nonneg hX0]
 simp [wrap64]
 try omega
theorem fmtE_t1b (L c : Nat) (B : Nat) (l : List Int) (dp : Int) (nd : Nat) (hnd : nd ≤ L) (hL : L ≤ 100) (hc : L ≤ c) (w : World) (base : Nat) (v : Value) (xs : List Int) (hx : xs.length ≤ 1000000) (hO : Own w base v xs) (hb : base ≤ w.heap.size) (hR : ReadsInt w .u8 (some ⟨B, 0, none⟩) L l) (hB : B < w.heap.size) (hne : some B ≠ v.ownBlock) (h2 : nd = 1) (e0 : -100 < dp - 1) (e1 : dp - 1 ≤ -10) :
  Calls Tryz.prog 187 #[v, .bool true, .slice (some ⟨B, 0, none⟩) L c, .int .i64 dp, .int .i64 nd, .int .i64 nd, .int .u8 71, .bool true] w fun e w' => ∃ v', e = .returned v' ∧ Dst base w v xs w' v' (fmtEL true l nd dp) := by
 subst h2
 have hR2 : ∀ W u ys, Dst base w v xs W u ys → ReadsInt W .u8 (some ⟨B, 0, none⟩) L l := fun W u ys h => h.reads hR (fun ad ha _ => by injection ha with ha; subst ha; exact ⟨hB, hne⟩)
 have HD := Lib.hid (Dst.start hO hb)
 have HR := Lib.hid hR2
 have c0 := cell0 hR (by omega)
 clear hO hb hR hR2
 go_enter Tryz.func187, Tryz.ntmps187
 go_wp2_with (first | (at_builtin; refine dl (.tmp 79) (.tmp 80) [_] HD.out ?_; intro v1 w1 HD; have c0 := cell0 (HR.out _ _ _ HD.out) (by omega)) | (at_builtin; refine dl (.tmp 87) (.tmp 89) [_] HD.out ?_; intro v1 w1 HD; have c0 := cell0 (HR.out _ _ _ HD.out) (by omega)) | (at_builtin; refine dl (.tmp 120) (.tmp 122) [_] HD.out ?_; intro v1 w1 HD; have c0 := cell0 (HR.out _ _ _ HD.out) (by omega)) | (at_builtin; refine dl (.tmp 132) (.tmp 134) [_] HD.out ?_; intro v1 w1 HD; have c0 := cell0 (HR.out _ _ _ HD.out) (by omega)) | (at_builtin; refine dl (.tmp 164) (.tmp 173) [_, _] HD.out ?_; intro v1 w1 HD; have c0 := cell0 (HR.out _ _ _ HD.out) (by omega)))
 go_ret
 refine ⟨_, rfl, HD.out.cast ?_⟩
 unfold fmtEL expS expL signL
 rw [if_neg (show ¬ (1 : Nat) = 0 by omega), if_neg (show ¬ 1 < (1 : Nat) by omega), if_neg (show ¬ (1 : Nat) = 0 by omega)]
 rw [if_pos (show dp - 1 < 0 by omega), if_neg (show ¬ -(dp - 1) < 10 by omega), if_pos (show -(dp - 1) < 100 by omega)]
 obtain ⟨X, hX⟩ : ∃ X, -(dp - 1) = X := ⟨_, rfl⟩
 have hX0 : 0 ≤ X := by omega
 have hX1 : dp - 1 = -X := by omega
 rw [hX1]
 simp only [Int.neg_neg, Int.neg_tdiv, Int.neg_tmod, Int.tdiv_eq_ediv_of_nonneg hX0, Int.tmod_eq_emod_of_nonneg hX0]
 simp [wrap64]
 try omega
theorem fmtE_t1c (L c : Nat) (B : Nat) (l : List Int) (dp : Int) (nd : Nat) (hnd : nd ≤ L) (hL : L ≤ 100) (hc : L ≤ c) (w : World) (base : Nat) (v : Value) (xs : List Int) (hx : xs.length ≤ 1000000) (hO : Own w base v xs) (hb : base ≤ w.heap.size) (hR : ReadsInt w .u8 (some ⟨B, 0, none⟩) L l) (hB : B < w.heap.size) (hne : some B ≠ v.ownBlock) (h2 : nd = 1) (e0 : -10 < dp - 1) (e1 : dp - 1 < -4) :
  Calls Tryz.prog 187 #[v, .bool true, .slice (some ⟨B, 0, none⟩) L c, .int .i64 dp, .int .i64 nd, .int .i64 nd, .int .u8 71, .bool true] w fun e w' => ∃ v', e = .returned v' ∧ Dst base w v xs w' v' (fmtEL true l nd dp) := by
 subst h2
 have hR2 : ∀ W u ys, Dst base w v xs W u ys → ReadsInt W .u8 (some ⟨B, 0, none⟩) L l := fun W u ys h => h.reads hR (fun ad ha _ => by injection ha with ha; subst ha; exact ⟨hB, hne⟩)
 have HD := Lib.hid (Dst.start hO hb)
 have HR := Lib.hid hR2
 have c0 := cell0 hR (by omega)
 clear hO hb hR hR2
 go_enter Tryz.func187, Tryz.ntmps187
 go_wp2_with (first | (at_builtin; refine dl (.tmp 79) (.tmp 80) [_] HD.out ?_; intro v1 w1 HD; have c0 := cell0 (HR.out _ _ _ HD.out) (by omega)) | (at_builtin; refine dl (.tmp 87) (.tmp 89) [_] HD.out ?_; intro v1 w1 HD; have c0 := cell0 (HR.out _ _ _ HD.out) (by omega)) | (at_builtin; refine dl (.tmp 120) (.tmp 122) [_] HD.out ?_; intro v1 w1 HD; have c0 := cell0 (HR.out _ _ _ HD.out) (by omega)) | (at_builtin; refine dl (.tmp 132) (.tmp 134) [_] HD.out ?_; intro v1 w1 HD; have c0 := cell0 (HR.out _ _ _ HD.out) (by omega)) | (at_builtin; refine dl (.tmp 155) (.tmp 159) [_, _] HD.out ?_; intro v1 w1 HD; have c0 := cell0 (HR.out _ _ _ HD.out) (by omega)))
 go_ret
 refine ⟨_, rfl, HD.out.cast ?_⟩
 unfold fmtEL expS expL signL
 rw [if_neg (show ¬ (1 : Nat) = 0 by omega), if_neg (show ¬ 1 < (1 : Nat) by omega), if_neg (show ¬ (1 : Nat) = 0 by omega)]
 rw [if_pos (show dp - 1 < 0 by omega), if_pos (show -(dp - 1) < 10 by omega)]
 obtain ⟨X, hX⟩ : ∃ X, -(dp - 1) = X := ⟨_, rfl⟩
 have hX0 : 0 ≤ X := by omega
 have hX1 : dp - 1 = -X := by omega
 rw [hX1]
 simp only [Int.neg_neg, Int.neg_tdiv, Int.neg_tmod, Int.tdiv_eq_ediv_of_nonneg hX0, Int.tmod_eq_emod_of_nonneg hX0]
 simp [wrap64]
 try omega
theorem fmtE_t1d (L c : Nat) (B : Nat) (l : List Int) (dp : Int) (nd : Nat) (hnd : nd ≤ L) (hL : L ≤ 100) (hc : L ≤ c) (w : World) (base : Nat) (v : Value) (xs : List Int) (hx : xs.length ≤ 1000000) (hO : Own w base v xs) (hb : base ≤ w.heap.size) (hR : ReadsInt w .u8 (some ⟨B, 0, none⟩) L l) (hB : B < w.heap.size) (hne : some B ≠ v.ownBlock) (h2 : nd = 1) (e0 : 6 ≤ dp - 1) (e1 : dp - 1 < 10) :
  Calls Tryz.prog 187 #[v, .bool true, .slice (some ⟨B, 0, none⟩) L c, .int .i64 dp, .int .i64 nd, .int .i64 nd, .int .u8 71, .bool true] w fun e w' => ∃ v', e = .returned v' ∧ Dst base w v xs w' v' (fmtEL true l nd dp) := by
 subst h2
 have hR2 : ∀ W u ys, Dst base w v xs W u ys → ReadsInt W .u8 (some ⟨B, 0, none⟩) L l := fun W u ys h => h.reads hR (fun ad ha _ => by injection ha with ha; subst ha; exact ⟨hB, hne⟩)
 have HD := Lib.hid (Dst.start hO hb)
 have HR := Lib.hid hR2
 have c0 := cell0 hR (by omega)
 clear hO hb hR hR2
 go_enter Tryz.func187, Tryz.ntmps187
 go_wp2_with (first | (at_builtin; refine dl (.tmp 79) (.tmp 80) [_] HD.out ?_; intro v1 w1 HD; have c0 := cell0 (HR.out _ _ _ HD.out) (by omega)) | (at_builtin; refine dl (.tmp 87) (.tmp 89) [_] HD.out ?_; intro v1 w1 HD; have c0 := cell0 (HR.out _ _ _ HD.out) (by omega)) | (at_builtin; refine dl (.tmp 120) (.tmp 122) [_] HD.out ?_; intro v1 w1 HD; have c0 := cell0 (HR.out _ _ _ HD.out) (by omega)) | (at_builtin; refine dl (.tmp 132) (.tmp 134) [_] HD.out ?_; intro v1 w1 HD; have c0 := cell0 (HR.out _ _ _ HD.out) (by omega)) | (at_builtin; refine dl (.tmp 155) (.tmp 159) [_, _] HD.out ?_; intro v1 w1 HD; have c0 := cell0 (HR.out _ _ _ HD.out) (by omega)))
 go_ret
 refine ⟨_, rfl, HD.out.cast ?_⟩
 unfold fmtEL expS expL signL
 rw [if_neg (show ¬ (1 : Nat) = 0 by omega), if_neg (show ¬ 1 < (1 : Nat) by omega), if_neg (show ¬ (1 : Nat) = 0 by omega)]
 rw [if_neg (show ¬ dp - 1 < 0 by omega), if_pos (show dp - 1 < 10 by omega)]
 simp [wrap64]
 try omega
theorem fmtE_t1e (L c : Nat) (B : Nat) (l : List Int) (dp : Int) (nd : Nat) (hnd : nd ≤ L) (hL : L ≤ 100) (hc : L ≤ c) (w : World) (base : Nat) (v : Value) (xs : List Int) (hx : xs.length ≤ 1000000) (hO : Own w base v xs) (hb : base ≤ w.heap.size) (hR : ReadsInt w .u8 (some ⟨B, 0, none⟩) L l) (hB : B < w.heap.size) (hne : some B ≠ v.ownBlock) (h2 : nd = 1) (e0 : 10 ≤ dp - 1) (e1 : dp - 1 < 100) :
  Calls Tryz.prog 187 #[v, .bool true, .slice (some ⟨B, 0, none⟩) L c, .int .i64 dp, .int .i64 nd, .int .i64 nd, .int .u8 71, .bool true] w fun e w' => ∃ v', e = .returned v' ∧ Dst base w v xs w' v' (fmtEL true l nd dp) := by
 subst h2
 have hR2 : ∀ W u ys, Dst base w v xs W u ys → ReadsInt W .u8 (some ⟨B, 0, none⟩) L l := fun W u ys h => h.reads hR (fun ad ha _ => by injection ha with ha; subst ha; exact ⟨hB, hne⟩)
 have HD := Lib.hid (Dst.start hO hb)
 have HR := Lib.hid hR2
 have c0 := cell0 hR (by omega)
 clear hO hb hR hR2
 go_enter Tryz.func187, Tryz.ntmps187
 go_wp2_with (first | (at_builtin; refine dl (.tmp 79) (.tmp 80) [_] HD.out ?_; intro v1 w1 HD; have c0 := cell0 (HR.out _ _ _ HD.out) (by omega)) | (at_builtin; refine dl (.tmp 87) (.tmp 89) [_] HD.out ?_; intro v1 w1 HD; have c0 := cell0 (HR.out _ _ _ HD.out) (by omega)) | (at_builtin; refine dl (.tmp 120) (.tmp 122) [_] HD.out ?_; intro v1 w1 HD; have c0 := cell0 (HR.out _ _ _ HD.out) (by omega)) | (at_builtin; refine dl (.tmp 132) (.tmp 134) [_] HD.out ?_; intro v1 w1 HD; have c0 := cell0 (HR.out _ _ _ HD.out) (by omega)) | (at_builtin; refine dl (.tmp 164) (.tmp 173) [_, _] HD.out ?_; intro v1 w1 HD; have c0 := cell0 (HR.out _ _ _ HD.out) (by omega)))
 go_ret
 refine ⟨_, rfl, HD.out.cast ?_⟩
 unfold fmtEL expS expL signL
 rw [if_neg (show ¬ (1 : Nat) = 0 by omega), if_neg (show ¬ 1 < (1 : Nat) by omega), if_neg (show ¬ (1 : Nat) = 0 by omega)]
 rw [if_neg (show ¬ dp - 1 < 0 by omega), if_neg (show ¬ dp - 1 < 10 by omega), if_pos (show dp - 1 < 100 by omega)]
 simp [wrap64]
 try omega
theorem fmtE_t1f (L c : Nat) (B : Nat) (l : List Int) (dp : Int) (nd : Nat) (hnd : nd ≤ L) (hL : L ≤ 100) (hc : L ≤ c) (w : World) (base : Nat) (v : Value) (xs : List Int) (hx : xs.length ≤ 1000000) (hO : Own w base v xs) (hb : base ≤ w.heap.size) (hR : ReadsInt w .u8 (some ⟨B, 0, none⟩) L l) (hB : B < w.heap.size) (hne : some B ≠ v.ownBlock) (h2 : nd = 1) (e0 : 100 ≤ dp - 1) (e1 : dp - 1 ≤ 400) :
  Calls Tryz.prog 187 #[v, .bool true, .slice (some ⟨B, 0, none⟩) L c, .int .i64 dp, .int .i64 nd, .int .i64 nd, .int .u8 71, .bool true] w fun e w' => ∃ v', e = .returned v' ∧ Dst base w v xs w' v' (fmtEL true l nd dp) := by
 subst h2
 have hR2 : ∀ W u ys, Dst base w v xs W u ys → ReadsInt W .u8 (some ⟨B, 0, none⟩) L l := fun W u ys h => h.reads hR (fun ad ha _ => by injection ha with ha; subst ha; exact ⟨hB, hne⟩)
 have HD := Lib.hid (Dst.start hO hb)
 have HR := Lib.hid hR2
 have c0 := cell0 hR (by omega)
 clear hO hb hR hR2
 go_enter Tryz.func187, Tryz.ntmps187
 go_wp2_with (first | (at_builtin; refine dl (.tmp 79) (.tmp 80) [_] HD.out ?_; intro v1 w1 HD; have c0 := cell0 (HR.out _ _ _ HD.out) (by omega)) | (at_builtin; refine dl (.tmp 87) (.tmp 89) [_] HD.out ?_; intro v1 w1 HD; have c0 := cell0 (HR.out _ _ _ HD.out) (by omega)) | (at_builtin; refine dl (.tmp 120) (.tmp 122) [_] HD.out ?_; intro v1 w1 HD; have c0 := cell0 (HR.out _ _ _ HD.out) (by omega)) | (at_builtin; refine dl (.tmp 132) (.tmp 134) [_] HD.out ?_; intro v1 w1 HD; have c0 := cell0 (HR.out _ _ _ HD.out) (by omega)) | (at_builtin; refine dl (.tmp 136) (.tmp 150) [_, _, _] HD.out ?_; intro v1 w1 HD; have c0 := cell0 (HR.out _ _ _ HD.out) (by omega)))
 go_ret
 refine ⟨_, rfl, HD.out.cast ?_⟩
 unfold fmtEL expS expL signL
 rw [if_neg (show ¬ (1 : Nat) = 0 by omega), if_neg (show ¬ 1 < (1 : Nat) by omega), if_neg (show ¬ (1 : Nat) = 0 by omega)]
 rw [if_neg (show ¬ dp - 1 < 0 by omega), if_neg (show ¬ dp - 1 < 10 by omega), if_neg (show ¬ dp - 1 < 100 by omega)]
 simp [wrap64]
 try omega
theorem fmtE_t2a (L c : Nat) (B : Nat) (l : List Int) (dp : Int) (nd : Nat) (hnd : nd ≤ L) (hL : L ≤ 100) (hc : L ≤ c) (w : World) (base : Nat) (v : Value) (xs : List Int) (hx : xs.length ≤ 1000000) (hO : Own w base v xs) (hb : base ≤ w.heap.size) (hR : ReadsInt w .u8 (some ⟨B, 0, none⟩) L l) (hB : B < w.heap.size) (hne : some B ≠ v.ownBlock) (h2 : 2 ≤ nd) (e0 : -400 ≤ dp - 1) (e1 : dp - 1 ≤ -100) :
  Calls Tryz.prog 187 #[v, .bool true, .slice (some ⟨B, 0, none⟩) L c, .int .i64 dp, .int .i64 nd, .int .i64 nd, .int .u8 71, .bool true] w fun e w' => ∃ v', e = .returned v' ∧ Dst base w v xs w' v' (fmtEL true l nd dp) := by
 have hR2 : ∀ W u ys, Dst base w v xs W u ys → ReadsInt W .u8 (some ⟨B, 0, none⟩) L l := fun W u ys h => h.reads hR (fun ad ha _ => by injection ha with ha; subst ha; exact ⟨hB, hne⟩)
 have HD := Lib.hid (Dst.start hO hb)
 have HR := Lib.hid hR2
 have c0 := cell0 hR (by omega)
 clear hO hb hR hR2
 go_enter Tryz.func187, Tryz.ntmps187
 go_wp2_with (first | (at_builtin; refine dl (.tmp 79) (.tmp 80) [_] HD.out ?_; intro v1 w1 HD; have c0 := cell0 (HR.out _ _ _ HD.out) (by omega)) | (at_builtin; refine dl (.tmp 87) (.tmp 89) [_] HD.out ?_; intro v1 w1 HD; have c0 := cell0 (HR.out _ _ _ HD.out) (by omega)) | (at_builtin; refine dl (.tmp 93) (.tmp 94) [_] HD.out ?_; intro v1 w1 HD; have c0 := cell0 (HR.out _ _ _ HD.out) (by omega)) | (at_builtin; refine dst_row rfl (.tmp 103) (.tmp 107) rfl _ xs _ ((l.take nd).drop 1) _ _ _ rfl rfl HD.out (reads_sub (HR.out _ _ _ HD.out) 1 nd (by omega) (by omega)) (by (try simp only [List.length_append, List.length_cons, List.length_nil, List.length_drop, List.length_take]); omega) ?_; intro v1 w1 n0; clear HD; have HD := Lib.hid n0; clear n0; have c0 := cell0 (HR.out _ _ _ HD.out) (by omega)))
 refine wp_loop_rounds 1 ?_
 rw [rounds_succ]
 go_wp2_with (first | (at_builtin; refine dl (.tmp 120) (.tmp 122) [_] HD.out ?_; intro v1 w1 HD; have c0 := cell0 (HR.out _ _ _ HD.out) (by omega)) | (at_builtin; refine dl (.tmp 132) (.tmp 134) [_] HD.out ?_; intro v1 w1 HD; have c0 := cell0 (HR.out _ _ _ HD.out) (by omega)) | (at_builtin; refine dl (.tmp 136) (.tmp 150) [_, _, _] HD.out ?_; intro v1 w1 HD; have c0 := cell0 (HR.out _ _ _ HD.out) (by omega)))
 go_ret
 refine ⟨_, rfl, HD.out.cast ?_⟩
 unfold fmtEL expS expL signL
 rw [if_neg (show ¬ nd = 0 by omega), if_pos (show 1 < nd by omega)]
 rw [if_neg (show ¬ nd = 0 by omega)]
 rw [if_pos (show dp - 1 < 0 by omega), if_neg (show ¬ -(dp - 1) < 10 by omega), if_neg (show ¬ -(dp - 1) < 100 by omega)]
 obtain ⟨X, hX⟩ : ∃ X, -(dp - 1) = X := ⟨_, rfl⟩
 have hX0 : 0 ≤ X := by omega
 have hX1 : dp - 1 = -X := by omega
 rw [hX1]
 simp only [Int.neg_neg, Int.neg_tdiv, Int.neg_tmod, Int.tdiv_eq_ediv_of_nonneg hX0, Int.tmod_eq_emod_of_nonneg hX0]
 simp [wrap64]
 try omega
theorem fmtE_t2b (L c : Nat) (B : Nat) (l : List Int) (dp : Int) (nd : Nat) (hnd : nd ≤ L) (hL : L ≤ 100) (hc : L ≤ c) (w : World) (base : Nat) (v : Value) (xs : List Int) (hx : xs.length ≤ 1000000) (hO : Own w base v xs) (hb : base ≤ w.heap.size) (hR : ReadsInt w .u8 (some ⟨B, 0, none⟩) L l) (hB : B < w.heap.size) (hne : some B ≠ v.ownBlock) (h2 : 2 ≤ nd) (e0 : -100 < dp - 1) (e1 : dp - 1 ≤ -10) :
  Calls Tryz.prog 187 #[v, .bool true, .slice (some ⟨B, 0, none⟩) L c, .int .i64 dp, .int .i64 nd, .int .i64 nd, .int .u8 71, .bool true] w fun e w' => ∃ v', e = .returned v' ∧ Dst base w v xs w' v' (fmtEL true l nd dp) := by
 have hR2 : ∀ W u ys, Dst base w v xs W u ys → ReadsInt W .u8 (some ⟨B, 0, none⟩) L l := fun W u ys h => h.reads hR (fun ad ha _ => by injection ha with ha; subst ha; exact ⟨hB, hne⟩)
 have HD := Lib.hid (Dst.start hO hb)
 have HR := Lib.hid hR2
 have c0 := cell0 hR (by omega)
 clear hO hb hR hR2
 go_enter Tryz.func187, Tryz.ntmps187
 go_wp2_with (first | (at_builtin; refine dl (.tmp 79) (.tmp 80) [_] HD.out ?_; intro v1 w1 HD; have c0 := cell0 (HR.out _ _ _ HD.out) (by omega)) | (at_builtin; refine dl (.tmp 87) (.tmp 89) [_] HD.out ?_; intro v1 w1 HD; have c0 := cell0 (HR.out _ _ _ HD.out) (by omega)) | (at_builtin; refine dl (.tmp 93) (.tmp 94) [_] HD.out ?_; intro v1 w1 HD; have c0 := cell0 (HR.out _ _ _ HD.out) (by omega)) | (at_builtin; refine dst_row rfl (.tmp 103) (.tmp 107) rfl _ xs _ ((l.take nd).drop 1) _ _ _ rfl rfl HD.out (reads_sub (HR.out _ _ _ HD.out) 1 nd (by omega) (by omega)) (by (try simp only [List.length_append, List.length_cons, List.length_nil, List.length_drop, List.length_take]); omega) ?_; intro v1 w1 n0; clear HD; have HD := Lib.hid n0; clear n0; have c0 := cell0 (HR.out _ _ _ HD.out) (by omega)))
 refine wp_loop_rounds 1 ?_
 rw [rounds_succ]
 go_wp2_with (first | (at_builtin; refine dl (.tmp 120) (.tmp 122) [_] HD.out ?_; intro v1 w1 HD; have c0 := cell0 (HR.out _ _ _ HD.out) (by omega)) | (at_builtin; refine dl (.tmp 132) (.tmp 134) [_] HD.out ?_; intro v1 w1 HD; have c0 := cell0 (HR.out _ _ _ HD.out) (by omega)) | (at_builtin; refine dl (.tmp 164) (.tmp 173) [_, _] HD.out ?_; intro v1 w1 HD; have c0 := cell0 (HR.out _ _ _ HD.out) (by omega)))
 go_ret
 refine ⟨_, rfl, HD.out.cast ?_⟩
 unfold fmtEL expS expL signL
 rw [if_neg (show ¬ nd = 0 by omega), if_pos (show 1 < nd by omega)]
 rw [if_neg (show ¬ nd = 0 by omega)]
 rw [if_pos (show dp - 1 < 0 by omega), if_neg (show ¬ -(dp - 1) < 10 by omega), if_pos (show -(dp - 1) < 100 by omega)]
 obtain ⟨X, hX⟩ : ∃ X, -(dp - 1) = X := ⟨_, rfl⟩
 have hX0 : 0 ≤ X := by omega
 have hX1 : dp - 1 = -X := by omega
 rw [hX1]
 simp only [Int.neg_neg, Int.neg_tdiv, Int.neg_tmod, Int.tdiv_eq_ediv_of_nonneg hX0, Int.tmod_eq_emod_of_nonneg hX0]
 simp [wrap64]
 try omega
theorem fmtE_t2c (L c : Nat) (B : Nat) (l : List Int) (dp : Int) (nd : Nat) (hnd : nd ≤ L) (hL : L ≤ 100) (hc : L ≤ c) (w : World) (base : Nat) (v : Value) (xs : List Int) (hx : xs.length ≤ 1000000) (hO : Own w base v xs) (hb : base ≤ w.heap.size) (hR : ReadsInt w .u8 (some ⟨B, 0, none⟩) L l) (hB : B < w.heap.size) (hne : some B ≠ v.ownBlock) (h2 : 2 ≤ nd) (e0 : -10 < dp - 1) (e1 : dp - 1 < -4) :
  Calls Tryz.prog 187 #[v, .bool true, .slice (some ⟨B, 0, none⟩) L c, .int .i64 dp, .int .i64 nd, .int .i64 nd, .int .u8 71, .bool true] w fun e w' => ∃ v', e = .returned v' ∧ Dst base w v xs w' v' (fmtEL true l nd dp) := by
 have hR2 : ∀ W u ys, Dst base w v xs W u ys → ReadsInt W .u8 (some ⟨B, 0, none⟩) L l := fun W u ys h => h.reads hR (fun ad ha _ => by injection ha with ha; subst ha; exact ⟨hB, hne⟩)
 have HD := Lib.hid (Dst.start hO hb)
 have HR := Lib.hid hR2
 have c0 := cell0 hR (by omega)
 clear hO hb hR hR2
 go_enter Tryz.func187, Tryz.ntmps187
 go_wp2_with (first | (at_builtin; refine dl (.tmp 79) (.tmp 80) [_] HD.out ?_; intro v1 w1 HD; have c0 := cell0 (HR.out _ _ _ HD.out) (by omega)) | (at_builtin; refine dl (.tmp 87) (.tmp 89) [_] HD.out ?_; intro v1 w1 HD; have c0 := cell0 (HR.out _ _ _ HD.out) (by omega)) | (at_builtin; refine dl (.tmp 93) (.tmp 94) [_] HD.out ?_; intro v1 w1 HD; have c0 := cell0 (HR.out _ _ _ HD.out) (by omega)) | (at_builtin; refine dst_row rfl (.tmp 103) (.tmp 107) rfl _ xs _ ((l.take nd).drop 1) _ _ _ rfl rfl HD.out (reads_sub (HR.out _ _ _ HD.out) 1 nd (by omega) (by omega)) (by (try simp only [List.length_append, List.length_cons, List.length_nil, List.length_drop, List.length_take]); omega) ?_; intro v1 w1 n0; clear HD; have HD := Lib.hid n0; clear n0; have c0 := cell0 (HR.out _ _ _ HD.out) (by omega)))
 refine wp_loop_rounds 1 ?_
 rw [rounds_succ]
 go_wp2_with (first | (at_builtin; refine dl (.tmp 120) (.tmp 122) [_] HD.out ?_; intro v1 w1 HD; have c0 := cell0 (HR.out _ _ _ HD.out) (by omega)) | (at_builtin; refine dl (.tmp 132) (.tmp 134) [_] HD.out ?_; intro v1 w1 HD; have c0 := cell0 (HR.out _ _ _ HD.out) (by omega)) | (at_builtin; refine dl (.tmp 155) (.tmp 159) [_, _] HD.out ?_; intro v1 w1 HD; have c0 := cell0 (HR.out _ _ _ HD.out) (by omega)))
 go_ret
 refine ⟨_, rfl, HD.out.cast ?_⟩
 unfold fmtEL expS expL signL
 rw [if_neg (show ¬ nd = 0 by omega), if_pos (show 1 < nd by omega)]
 rw [if_neg (show ¬ nd = 0 by omega)]
 rw [if_pos (show dp - 1 < 0 by omega), if_pos (show -(dp - 1) < 10 by omega)]
 obtain ⟨X, hX⟩ : ∃ X, -(dp - 1) = X := ⟨_, rfl⟩
 have hX0 : 0 ≤ X := by omega
 have hX1 : dp - 1 = -X := by omega
 rw [hX1]
 simp only [Int.neg_neg, Int.neg_tdiv, Int.neg_tmod, Int.tdiv_eq_ediv_of_nonneg hX0, Int.tmod_eq_emod_of_nonneg hX0]
 simp [wrap64]
 try omega
theorem fmtE_t2d (L c : Nat) (B : Nat) (l : List Int) (dp : Int) (nd : Nat) (hnd : nd ≤ L) (hL : L ≤ 100) (hc : L ≤ c) (w : World) (base : Nat) (v : Value) (xs : List Int) (hx : xs.length ≤ 1000000) (hO : Own w base v xs) (hb : base ≤ w.heap.size) (hR : ReadsInt w .u8 (some ⟨B, 0, none⟩) L l) (hB : B < w.heap.size) (hne : some B ≠ v.ownBlock) (h2 : 2 ≤ nd) (e0 : 6 ≤ dp - 1) (e1 : dp - 1 < 10) :
  Calls Tryz.prog 187 #[v, .bool true, .slice (some ⟨B, 0, none⟩) L c, .int .i64 dp, .int .i64 nd, .int .i64 nd, .int .u8 71, .bool true] w fun e w' => ∃ v', e = .returned v' ∧ Dst base w v xs w' v' (fmtEL true l nd dp) := by
 have hR2 : ∀ W u ys, Dst base w v xs W u ys → ReadsInt W .u8 (some ⟨B, 0, none⟩) L l := fun W u ys h => h.reads hR (fun ad ha _ => by injection ha with ha; subst ha; exact ⟨hB, hne⟩)
 have HD := Lib.hid (Dst.start hO hb)
 have HR := Lib.hid hR2
 have c0 := cell0 hR (by omega)
 clear hO hb hR hR2
 go_enter Tryz.func187, Tryz.ntmps187
 go_wp2_with (first | (at_builtin; refine dl (.tmp 79) (.tmp 80) [_] HD.out ?_; intro v1 w1 HD; have c0 := cell0 (HR.out _ _ _ HD.out) (by omega)) | (at_builtin; refine dl (.tmp 87) (.tmp 89) [_] HD.out ?_; intro v1 w1 HD; have c0 := cell0 (HR.out _ _ _ HD.out) (by omega)) | (at_builtin; refine dl (.tmp 93) (.tmp 94) [_] HD.out ?_; intro v1 w1 HD; have c0 := cell0 (HR.out _ _ _ HD.out) (by omega)) | (at_builtin; refine dst_row rfl (.tmp 103) (.tmp 107) rfl _ xs _ ((l.take nd).drop 1) _ _ _ rfl rfl HD.out (reads_sub (HR.out _ _ _ HD.out) 1 nd (by omega) (by omega)) (by (try simp only [List.length_append, List.length_cons, List.length_nil, List.length_drop, List.length_take]); omega) ?_; intro v1 w1 n0; clear HD; have HD := Lib.hid n0; clear n0; have c0 := cell0 (HR.out _ _ _ HD.out) (by omega)))
 refine wp_loop_rounds 1 ?_
 rw [rounds_succ]
 go_wp2_with (first | (at_builtin; refine dl (.tmp 120) (.tmp 122) [_] HD.out ?_; intro v1 w1 HD; have c0 := cell0 (HR.out _ _ _ HD.out) (by omega)) | (at_builtin; refine dl (.tmp 132) (.tmp 134) [_] HD.out ?_; intro v1 w1 HD; have c0 := cell0 (HR.out _ _ _ HD.out) (by omega)) | (at_builtin; refine dl (.tmp 155) (.tmp 159) [_, _] HD.out ?_; intro v1 w1 HD; have c0 := cell0 (HR.out _ _ _ HD.out) (by omega)))
 go_ret
 refine ⟨_, rfl, HD.out.cast ?_⟩
 unfold fmtEL expS expL signL
 rw [if_neg (show ¬ nd = 0 by omega), if_pos (show 1 < nd by omega)]
 rw [if_neg (show ¬ nd = 0 by omega)]
 rw [if_neg (show ¬ dp - 1 < 0 by omega), if_pos (show dp - 1 < 10 by omega)]
 simp [wrap64]
 try omega
theorem fmtE_t2e (L c : Nat) (B : Nat) (l : List Int) (dp : Int) (nd : Nat) (hnd : nd ≤ L) (hL : L ≤ 100) (hc : L ≤ c) (w : World) (base : Nat) (v : Value) (xs : List Int) (hx : xs.length ≤ 1000000) (hO : Own w base v xs) (hb : base ≤ w.heap.size) (hR : ReadsInt w .u8 (some ⟨B, 0, none⟩) L l) (hB : B < w.heap.size) (hne : some B ≠ v.ownBlock) (h2 : 2 ≤ nd) (e0 : 10 ≤ dp - 1) (e1 : dp - 1 < 100) :
  Calls Tryz.prog 187 #[v, .bool true, .slice (some ⟨B, 0, none⟩) L c, .int .i64 dp, .int .i64 nd, .int .i64 nd, .int .u8 71, .bool true] w fun e w' => ∃ v', e = .returned v' ∧ Dst base w v xs w' v' (fmtEL true l nd dp) := by
 have hR2 : ∀ W u ys, Dst base w v xs W u ys → ReadsInt W .u8 (some ⟨B, 0, none⟩) L l := fun W u ys h => h.reads hR (fun ad ha _ => by injection ha with ha; subst ha; exact ⟨hB, hne⟩)
 have HD := Lib.hid (Dst.start hO hb)
 have HR := Lib.hid hR2
 have c0 := cell0 hR (by omega)
 clear hO hb hR hR2
 go_enter Tryz.func187, Tryz.ntmps187
 go_wp2_with (first | (at_builtin; refine dl (.tmp 79) (.tmp 80) [_] HD.out ?_; intro v1 w1 HD; have c0 := cell0 (HR.out _ _ _ HD.out) (by omega)) | (at_builtin; refine dl (.tmp 87) (.tmp 89) [_] HD.out ?_; intro v1 w1 HD; have c0 := cell0 (HR.out _ _ _ HD.out) (by omega)) | (at_builtin; refine dl (.tmp 93) (.tmp 94) [_] HD.out ?_; intro v1 w1 HD; have c0 := cell0 (HR.out _ _ _ HD.out) (by omega)) | (at_builtin; refine dst_row rfl (.tmp 103) (.tmp 107) rfl _ xs _ ((l.take nd).drop 1) _ _ _ rfl rfl HD.out (reads_sub (HR.out _ _ _ HD.out) 1 nd (by omega) (by omega)) (by (try simp only [List.length_append, List.length_cons, List.length_nil, List.length_drop, List.length_take]); omega) ?_; intro v1 w1 n0; clear HD; have HD := Lib.hid n0; clear n0; have c0 := cell0 (HR.out _ _ _ HD.out) (by omega)))
 refine wp_loop_rounds 1 ?_
 rw [rounds_succ]
 go_wp2_with (first | (at_builtin; refine dl (.tmp 120) (.tmp 122) [_] HD.out ?_; intro v1 w1 HD; have c0 := cell0 (HR.out _ _ _ HD.out) (by omega)) | (at_builtin; refine dl (.tmp 132) (.tmp 134) [_] HD.out ?_; intro v1 w1 HD; have c0 := cell0 (HR.out _ _ _ HD.out) (by omega)) | (at_builtin; refine dl (.tmp 164) (.tmp 173) [_, _] HD.out ?_; intro v1 w1 HD; have c0 := cell0 (HR.out _ _ _ HD.out) (by omega)))
 go_ret
 refine ⟨_, rfl, HD.out.cast ?_⟩
 unfold fmtEL expS expL signL
 rw [if_neg (show ¬ nd = 0 by omega), if_pos (show 1 < nd by omega)]
 rw [if_neg (show ¬ nd = 0 by omega)]
 rw [if_neg (show ¬ dp - 1 < 0 by omega), if_neg (show ¬ dp - 1 < 10 by omega), if_pos (show dp - 1 < 100 by omega)]
 simp [wrap64]
 try omega
theorem fmtE_t2f (L c : Nat) (B : Nat) (l : List Int) (dp : Int) (nd : Nat) (hnd : nd ≤ L) (hL : L ≤ 100) (hc : L ≤ c) (w : World) (base : Nat) (v : Value) (xs : List Int) (hx : xs.length ≤ 1000000) (hO : Own w base v xs) (hb : base ≤ w.heap.size) (hR : ReadsInt w .u8 (some ⟨B, 0, none⟩) L l) (hB : B < w.heap.size) (hne : some B ≠ v.ownBlock) (h2 : 2 ≤ nd) (e0 : 100 ≤ dp - 1) (e1 : dp - 1 ≤ 400) :
  Calls Tryz.prog 187 #[v, .bool true, .slice (some ⟨B, 0, none⟩) L c, .int .i64 dp, .int .i64 nd, .int .i64 nd, .int .u8 71, .bool true] w fun e w' => ∃ v', e = .returned v' ∧ Dst base w v xs w' v' (fmtEL true l nd dp) := by
 have hR2 : ∀ W u ys, Dst base w v xs W u ys → ReadsInt W .u8 (some ⟨B, 0, none⟩) L l := fun W u ys h => h.reads hR (fun ad ha _ => by injection ha with ha; subst ha; exact ⟨hB, hne⟩)
 have HD := Lib.hid (Dst.start hO hb)
 have HR := Lib.hid hR2
 have c0 := cell0 hR (by omega)
 clear hO hb hR hR2
 go_enter Tryz.func187, Tryz.ntmps187
 go_wp2_with (first | (at_builtin; refine dl (.tmp 79) (.tmp 80) [_] HD.out ?_; intro v1 w1 HD; have c0 := cell0 (HR.out _ _ _ HD.out) (by omega)) | (at_builtin; refine dl (.tmp 87) (.tmp 89) [_] HD.out ?_; intro v1 w1 HD; have c0 := cell0 (HR.out _ _ _ HD.out) (by omega)) | (at_builtin; refine dl (.tmp 93) (.tmp 94) [_] HD.out ?_; intro v1 w1 HD; have c0 := cell0 (HR.out _ _ _ HD.out) (by omega)) | (at_builtin; refine dst_row rfl (.tmp 103) (.tmp 107) rfl _ xs _ ((l.take nd).drop 1) _ _ _ rfl rfl HD.out (reads_sub (HR.out _ _ _ HD.out) 1 nd (by omega) (by omega)) (by (try simp only [List.length_append, List.length_cons, List.length_nil, List.length_drop, List.length_take]); omega) ?_; intro v1 w1 n0; clear HD; have HD := Lib.hid n0; clear n0; have c0 := cell0 (HR.out _ _ _ HD.out) (by omega)))
 refine wp_loop_rounds 1 ?_
 rw [rounds_succ]
 go_wp2_with (first | (at_builtin; refine dl (.tmp 120) (.tmp 122) [_] HD.out ?_; intro v1 w1 HD; have c0 := cell0 (HR.out _ _ _ HD.out) (by omega)) | (at_builtin; refine dl (.tmp 132) (.tmp 134) [_] HD.out ?_; intro v1 w1 HD; have c0 := cell0 (HR.out _ _ _ HD.out) (by omega)) | (at_builtin; refine dl (.tmp 136) (.tmp 150) [_, _, _] HD.out ?_; intro v1 w1 HD; have c0 := cell0 (HR.out _ _ _ HD.out) (by omega)))
 go_ret
 refine ⟨_, rfl, HD.out.cast ?_⟩
 unfold fmtEL expS expL signL
 rw [if_neg (show ¬ nd = 0 by omega), if_pos (show 1 < nd by omega)]
 rw [if_neg (show ¬ nd = 0 by omega)]
 rw [if_neg (show ¬ dp - 1 < 0 by omega), if_neg (show ¬ dp - 1 < 10 by omega), if_neg (show ¬ dp - 1 < 100 by omega)]
 simp [wrap64]
 try omega
end Go.Proofs.YtkeakdjbidbegaaGreatDoor
