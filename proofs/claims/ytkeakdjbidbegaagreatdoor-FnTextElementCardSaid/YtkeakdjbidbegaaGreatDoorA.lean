/- A part of the proof that laws.FnTextElement returns true at every input: WWords, Base, Rune, Text, Bytes, Hex, B64, Str, Val, Keep. -/
import Derived.Below
import Derived.Deep.Draws
import Derived.Deep.AppendLies
import Derived.Maps.AppendAt
import Derived.OwnWalk
import Derived.Laws.BytesArg
import Derived.Laws.MakeOwn
import Derived.Laws.OwnMore
import Derived.Deep.OwnRows
import Derived.Tactics
import Derived.Lib.ConvBytes
import Derived.Laws.Slices
import Derived.WalkKit
import Derived.KernelRfl
import Derived.RowKit3
import Derived.Deep.LoopGhost
import Derived.Deep.QuietTactic
import Derived.BigQuiet
import Derived.WideLaws
import Derived.Deep.DeepCutAuto
import Derived.Deep.CutBlock
import Derived.Deep.RegionHeld3
import Derived.Laws.Rows
import Derived.Lib.AppendStr
import Derived.ArgAppend
import Derived.Laws.IdiomCopy
import Derived.RowKit
import Derived.Test.YtkeakdjbidbegaaGreatDoorProg
import Derived.WalkSpells
import Derived.WalkLawsBesides
import Derived.Deep.RegionWith
import Derived.Lib.Hide
import Derived.Lib.Strings
import Derived.Outline
import Derived.RegionTactic
import Derived.ChangeAlike
import Derived.LoopN
import Derived.Lib.SlBytesRow
set_option linter.unusedSimpArgs false
set_option linter.unusedVariables false
set_option maxRecDepth 100000
set_option maxHeartbeats 8000000
namespace Go.Proofs.YtkeakdjbidbegaaGreatDoorW.PrintWords
open Go.RowKit
def rd (xs : List Int) (i : Int) : Int := xs.getD i.toNat 0
def nums (k : IntKind) (xs : List Int) : List Value := xs.map fun x => .int k x
theorem nums_append (k : IntKind) (xs ys : List Int) : nums k (xs ++ ys) = nums k xs ++ nums k ys := by simp [nums]
theorem pw_below_drewN {B : Nat} {w W : World} (h : Below B w W) (n : Nat) : Below B w (W.drewN n) := ⟨h.os, h.tape, h.output, h.size, h.block⟩
theorem grown_of_below {w w1 : World} (h : Below w.heap.size w w1) (row : Option Nat) : w.grownBy w1 row := ⟨h.os, h.tape, h.output, h.size, fun i hi _ => h.block i hi⟩
theorem pw_cell_below {w w1 : World} (h : Below w.heap.size w w1) {a : Addr} {v : Value} (hc : w.cell? a = some v) : w1.cell? a = some v := (h.cell (World.block_lt_of_cell? w a hc)).trans hc
theorem add_plain (g j : Nat) : (⟨g, 0, none⟩ : Addr).add j = ⟨g, j, none⟩ := by unfold Addr.add; split <;> simp_all
def ReadsInt (w : World) (k : IntKind) (A : Option Addr) (n : Nat) (xs : List Int) : Prop :=
 xs.length = n ∧ n ≤ 9223372036854775807 ∧ (0 < n → ∃ ad, A = some ad ∧ ∀ j, j < n → w.cell? (ad.add j) = some (.int k (xs.getD j 0)))
theorem ReadsInt.at_ {w : World} {k : IntKind} {A : Option Addr} {n : Nat} {xs : List Int} (h : ReadsInt w k A n xs) (i : Int) (h0 : 0 ≤ i) (h1 : i < n) : ∃ ad, A = some ad ∧ w.cell? (ad.add i.toNat) = some (.int k (rd xs i)) := by
 obtain ⟨ad, e, hc⟩ := h.2.2 (by omega)
 exact ⟨ad, e, hc _ (by omega)⟩
theorem ReadsInt.below {w w1 : World} {k : IntKind} {A : Option Addr} {n : Nat} {xs : List Int} (h : ReadsInt w k A n xs) (hb : Below w.heap.size w w1) : ReadsInt w1 k A n xs :=
 ⟨h.1, h.2.1, fun hn => by
  obtain ⟨ad, e, hc⟩ := h.2.2 hn
  exact ⟨ad, e, fun j hj => pw_cell_below hb (hc j hj)⟩⟩
theorem own_nil (W : World) (base : Nat) (e : TypeId) (size : Nat) : W.ownsRow base e size (.slice none 0 0) 0 [] := ⟨by simp, .inl ⟨rfl, rfl⟩⟩
theorem own_base {w : World} {base : Nat} {e : TypeId} {size n : Nat} {v : Value} {xs : List Value} (h : w.ownsRow base e size v n xs) (k : Nat) (hk : v.ownBlock = some k) : base ≤ k := by
 rcases h.2 with ⟨rfl, _⟩ | ⟨g, cap, cur, rfl, hb, _⟩
 ·simp [Value.ownBlock] at hk
 ·have : g = k := by simpa [Value.ownBlock] using hk
  omega
theorem pw_own_below {w w1 : World} {base : Nat} {e : TypeId} {size n : Nat} {v : Value} {xs : List Value} (h : w.ownsRow base e size v n xs) (hb : Below w.heap.size w w1) : w1.ownsRow base e size v n xs :=
 h.kept (grown_of_below hb none) (by cases v.ownBlock <;> simp)
theorem own_reads {w : World} {base n : Nat} {e : TypeId} {k : IntKind} {v : Value} {xs : List Int} (h : w.ownsRow base e 1 v n (nums k xs)) : ∃ A c, v = .slice A n c ∧ ReadsInt w k A n xs := by
 have hl : xs.length = n := by have := h.1; simp [nums] at this; exact this
 rcases Nat.eq_zero_or_pos n with h0 | h0
 ·rcases h.2 with ⟨rfl, rfl⟩ | ⟨g, cap, cur, rfl, _⟩
  ·exact ⟨none, 0, rfl, hl, by omega, fun hp => absurd hp (by omega)⟩
  ·exact ⟨_, cap, rfl, hl, by omega, fun hp => absurd hp (by omega)⟩
 ·obtain ⟨g, cap, rfl, _, _⟩ := h.form h0
  have hm : n ≤ 9223372036854775807 := by
   rcases h.2 with ⟨_, h1⟩ | ⟨g', cap', cur, he, _, _, h1, h2, _⟩
   ·omega
   ·simp only [maxLen] at h2
    omega
  refine ⟨_, cap, rfl, hl, hm, fun _ => ⟨_, rfl, fun j hj => h.cells (g := g) rfl j _ ?_⟩⟩
  simp [nums, List.getElem?_eq_getElem (show j < xs.length by omega), List.getD_eq_getElem?_getD]
theorem own_string {P : Program} {w : World} {base n : Nat} {e' src dst e : TypeId} {v : Value} {xs : List Int} (hs : P.underlying src = some (.slice e)) (he : P.underlying e = some (.int .u8)) (hd : P.underlying dst = some .string)
  (h : w.ownsRow base e' 1 v n (nums .u8 xs)) : (convert src dst v).run P w = .ok (.string (strOfNums xs)) w := by
 have hl : xs.length = n := by have := h.1; simp [nums] at this; exact this
 rcases h.2 with ⟨rfl, rfl⟩ | ⟨g, cap, cur, rfl, _⟩
 ·obtain rfl : xs = [] := List.eq_nil_of_length_eq_zero hl
  exact run_convert_bytes_nil w src e hs he 0 0 dst hd
 ·refine run_convert_bytes_arg w src e hs he g 0 n cap xs hl (fun i hi => ?_) dst hd
  have hc := h.cells (g := g) rfl i (.int .u8 (xs.getD i 0)) (by simp [nums, List.getElem?_eq_getElem (show i < xs.length by omega), List.getD_eq_getElem?_getD])
  have ha : (⟨g, 0, none⟩ : Addr).add i = ⟨g, 0 + i, none⟩ := by unfold Addr.add; split <;> simp_all
  rwa [ha] at hc
theorem own_lit (W : World) (base : Nat) (e : TypeId) (k : IntKind) (xs : List Int) (hb : base ≤ W.heap.size) (hm : xs.length ≤ 9223372036854775807) :
  (W.alloc (.cells (nums k xs).toArray e)).ownsRow base e 1 (.slice (some ⟨W.heap.size, 0, none⟩) xs.length xs.length) xs.length (nums k xs) := by
 have h := World.ownsRow_lit (base := base) (e := e) (size := 1) W (nums k xs).toArray xs.length hb (by simpa [maxLen] using hm) (by simp [nums])
 simpa using h
section
variable {P : Program} {ops : Array Oper} {rest : List Oper} {o : Oper} {a : Act} {Q : Exit → Act → World → Prop}
theorem print_append_row {w0 W : World} (base : Nat) (hgd : o.guard = none) (s x : Operand) (t e : TypeId) (k : IntKind) (bytes : Nat)
  (ho : o.op = .call { callee := .builtin .append, args := #[s, x], argTypes := #[t, t] })
  (ht : P.underlying t = some (.slice e)) (hinfo : (P.info? e).map (fun i => (i.zero, i.size, i.bytes)) = some (some (.int k 0), 1, bytes)) (hb0 : 0 < bytes)
  (v : Value) (xs ys : List Int) (A : Option Addr) (m c : Nat) (hs : a.eval s = v) (hx : a.eval x = .slice A m c)
  (HO : W.ownsRow base e 1 v xs.length (nums k xs)) (HR : ReadsInt W k A m ys) (HB : Below base w0 W) (hbase : base ≤ W.heap.size) (hl : (xs.length + m) * bytes ≤ 140737488355328)
  (h : ∀ v1 w1, w1.ownsRow base e 1 v1 (xs ++ ys).length (nums k (xs ++ ys)) → Below base w0 w1 → W.grownBy w1 v.ownBlock → (v1.ownBlock = v.ownBlock ∨ ∃ b, v1.ownBlock = some b ∧ W.heap.size ≤ b) → wpList P ops Q rest (a.put o.dst v1) w1) :
  wpList P ops Q (o :: rest) a W := by
 obtain ⟨i0, hi, hzz⟩ := Option.map_eq_some_iff.1 hinfo
 simp only [Prod.mk.injEq] at hzz
 obtain ⟨hz0, hz1, hz2⟩ := hzz
 have hm : ys.length = m := HR.1
 have hlen : xs.length + m ≤ 140737488355328 := Nat.le_trans (Nat.le_mul_of_pos_right _ hb0) hl
 have hrun : ∃ v1 w1, (Builtin.append_ #[t, t] o.type #[v, .slice A m c]).run P W = .ok v1 w1 ∧ w1.ownsRow base e 1 v1 (xs ++ ys).length (nums k (xs ++ ys)) ∧ W.grownBy w1 v.ownBlock ∧ (v1.ownBlock = v.ownBlock ∨ v1.ownBlock = some W.heap.size) := by
  rcases A with _ | ad
  ·have h0 : m = 0 := by
    rcases Nat.eq_zero_or_pos m with h0 | h0
    ·exact h0
    ·obtain ⟨ad, h, _⟩ := HR.2.2 h0
     cases h
   subst h0
   obtain rfl : ys = [] := List.eq_nil_of_length_eq_zero hm
   refine ⟨v, W, ?_, by simpa using HO, World.grownBy.refl W _, .inl rfl⟩
   rcases HO.2 with ⟨rfl, hn⟩ | ⟨g, cap, cur, rfl, _, _, hnc, _⟩
   ·simp [Builtin.append_, run_underlying ht, sizeOf, typeInfo, hi, Builtin.lenOf, Builtin.firstCells]
   ·simp [Builtin.append_, run_underlying ht, sizeOf, typeInfo, hi, Builtin.lenOf, Builtin.firstCells, hnc, storeCells]
  ·have hcells : ∀ j u, (nums k ys)[j]? = some u → W.cell? (ad.add j) = some u := by
    intro j u hu
    have hj : j < ys.length := by
     rcases Nat.lt_or_ge j ys.length with h | h
     ·exact h
     ·simp [nums, List.getElem?_eq_none h] at hu
    obtain ⟨ad', h', hc⟩ := HR.2.2 (by omega)
    injection h' with h'
    subst h'
    have := hc j (by omega)
    simp [nums, List.getElem?_eq_getElem hj] at hu
    subst hu
    rw [this]
    simp [List.getD_eq_getElem?_getD, List.getElem?_eq_getElem hj]
   obtain ⟨v1, w1, hr, h2, h3, _, h5⟩ := run_append_own_at (P := P) W base t o.type e i0 (.int k 0) 1 bytes ht hi hz0 hz1 hz2 rfl (by omega) v xs.length (nums k xs) HO ad m c (nums k ys) (by simp [nums, hm]) hcells
    (by intro u hu; simp only [nums, List.mem_map] at hu; obtain ⟨q, _, rfl⟩ := hu; rfl) (by simp only [maxLen]; omega) hl hbase
   exact ⟨v1, w1, hr, by simpa [nums, hm] using h2, h3, h5⟩
 obtain ⟨v1, w1, hr, hown, hg, hat⟩ := hrun
 refine wpList_plain hgd fun K hK => ?_
 unfold Oper.wp execOp
 simp only [ho, resolve, invoke, builtin, Sem.run_bind, Sem.run_pure, Result.andThen_ok, List.map_toArray, List.map_cons, List.map_nil, hs, hx, hr]
 refine hK _ _ (h v1 w1 hown (HB.grown hg hbase (own_base HO)) hg ?_)
 rcases hat with hat | hat
 ·exact .inl hat
 ·exact .inr ⟨_, hat, Nat.le_refl _⟩
end
def bytesOf (s : ByteArray) : List Int := s.data.toList.map fun b => (b.toNat : Int)
theorem data_length (s : ByteArray) : s.data.toList.length = s.size := by rw [Array.length_toList]; rfl
theorem bytesOf_length (s : ByteArray) : (bytesOf s).length = s.size := by rw [bytesOf, List.length_map, data_length]
theorem print_bytes {P : Program} (src dst e : TypeId) {u : TypeDesc} (hs : P.underlying src = some u) (hd : P.underlying dst = some (.slice e)) (he : P.underlying e = some (.int .u8)) (s : ByteArray) (W : World) :
  (convert src dst (.string s)).run P W = .ok (.slice (some ⟨W.heap.size, 0, none⟩) s.size (grownCap W s.size 0 e)) (Lib.bytesWorld W e s) := Lib.run_convert_string_bytes W src dst e s hs hd he
theorem bytes_reads (W : World) (e : TypeId) (s : ByteArray) (hs : s.size ≤ 9223372036854775807) : ReadsInt (Lib.bytesWorld W e s) .u8 (some ⟨W.heap.size, 0, none⟩) s.size (bytesOf s) := by
 refine ⟨bytesOf_length s, hs, fun _ => ⟨_, rfl, fun j hj => ?_⟩⟩
 rw [add_plain, Lib.bytesWorld_cell W e s j hj]
 have h' : j < s.data.toList.length := by rw [data_length]; exact hj
 simp [bytesOf, List.getD_eq_getElem?_getD, List.getElem?_eq_getElem h']
theorem bytes_below {B : Nat} {w W : World} (h : Below B w W) (hB : B ≤ W.heap.size) (e : TypeId) (s : ByteArray) : Below B w (Lib.bytesWorld W e s) :=
 h.trans ⟨rfl, rfl, rfl, by rw [Lib.bytesWorld_size]; omega, fun i hi => Lib.bytesWorld_at_old W e s i (by omega)⟩
theorem ReadsInt.take_ {w : World} {k : IntKind} {A : Option Addr} {n : Nat} {xs : List Int} (h : ReadsInt w k A n xs) (i : Nat) (hi : i ≤ n) : ReadsInt w k A i (xs.take i) := by
 refine ⟨by rw [List.length_take, h.1]; omega, by have := h.2.1; omega, fun hp => ?_⟩
 obtain ⟨ad, e, hc⟩ := h.2.2 (by omega)
 refine ⟨ad, e, fun j hj => ?_⟩
 rw [hc j (by omega)]
 simp [List.getD_eq_getElem?_getD, hj]
theorem ReadsInt.drop_ {w : World} {k : IntKind} {A : Option Addr} {n c : Nat} {xs : List Int} (h : ReadsInt w k A n xs) (i : Nat) (hi : i ≤ n) (hc : n ≤ c) : ReadsInt w k (if c = i then A else A.map (·.add i)) (n - i) (xs.drop i) := by
 refine ⟨by rw [List.length_drop, h.1], by have := h.2.1; omega, fun hp => ?_⟩
 obtain ⟨ad, rfl, hcell⟩ := h.2.2 (by omega)
 rw [if_neg (by omega)]
 refine ⟨ad.add i, rfl, fun j hj => ?_⟩
 have ha : (ad.add i).add j = ad.add (i + j) := by
  unfold Addr.add
  by_cases h1 : i = 0 <;> by_cases h2 : j = 0 <;> simp [h1, h2, Nat.add_assoc]
 rw [ha, hcell (i + j) (by omega)]
 simp [List.getD_eq_getElem?_getD, List.getElem?_drop]
section
variable {P : Program} {ops : Array Oper} {rest : List Oper} {o : Oper} {a : Act} {Q : Exit → Act → World → Prop}
theorem print_append_str {w0 W : World} (base : Nat) (hgd : o.guard = none) (s x : Operand) (t u e : TypeId)
  (ho : o.op = .call { callee := .builtin .append, args := #[s, x], argTypes := #[t, u] })
  (ht : P.underlying t = some (.slice e)) (hu : P.underlying u = some .string) (hinfo : (P.info? e).map (fun i => (i.zero, i.size, i.bytes)) = some (some (.int .u8 0), 1, 1))
  (v : Value) (xs : List Int) (y : ByteArray) (hs : a.eval s = v) (hx : a.eval x = .string y)
  (HO : W.ownsRow base e 1 v xs.length (nums .u8 xs)) (HB : Below base w0 W) (hbase : base ≤ W.heap.size) (hl : xs.length + y.size ≤ 140737488355328)
  (h : ∀ v1 w1, w1.ownsRow base e 1 v1 (xs ++ bytesOf y).length (nums .u8 (xs ++ bytesOf y)) → Below base w0 w1 → W.grownBy w1 v.ownBlock → wpList P ops Q rest (a.put o.dst v1) w1) :
  wpList P ops Q (o :: rest) a W := by
 obtain ⟨i0, hi, hzz⟩ := Option.map_eq_some_iff.1 hinfo
 simp only [Prod.mk.injEq] at hzz
 obtain ⟨hz0, hz1, hz2⟩ := hzz
 refine Lib.wpList_append_own_string W hgd s x t u ho base e i0 ht hu hi hz0 hz1 hz2 v xs.length (nums .u8 xs) hs HO y hx (by simp only [maxLen]; omega) hl hbase ?_
 intro v1 w1 hown hg _
 have hl2 : (xs ++ bytesOf y).length = xs.length + y.size := by rw [List.length_append, bytesOf_length]
 have hc : nums .u8 (xs ++ bytesOf y) = nums .u8 xs ++ Lib.strCells y := by
  rw [nums_append]
  congr 1
  simp [nums, bytesOf, Lib.strCells]
 exact h v1 w1 (by rw [hl2, hc]; exact hown) (HB.grown hg hbase (own_base HO)) hg
end
theorem string_of_reads {P : Program} {w : World} {src dst e : TypeId} {A : Option Addr} {n c : Nat} {xs : List Int} (hs : P.underlying src = some (.slice e)) (he : P.underlying e = some (.int .u8)) (hd : P.underlying dst = some .string)
  (h : ReadsInt w .u8 A n xs) : (convert src dst (.slice A n c)).run P w = .ok (.string (strOfNums xs)) w := by
 have hn : xs.length = n := h.1
 rcases A with _ | ad
 ·have h0 : n = 0 := by
   rcases Nat.eq_zero_or_pos n with h0 | h0
   ·exact h0
   ·obtain ⟨ad, h', _⟩ := h.2.2 h0
    cases h'
  subst h0
  obtain rfl : xs = [] := List.eq_nil_of_length_eq_zero hn
  exact run_convert_bytes_nil w src e hs he 0 c dst hd
 ·have hl : (loadCells ad n).run P w = .ok (xs.map (Value.int .u8)).toArray w := by
   have := run_loadCells_list (P := P) w ad (xs.map (Value.int .u8)) (fun j v hj => by
    have hjl : j < xs.length := by
     rcases Nat.lt_or_ge j xs.length with h' | h'
     ·exact h'
     ·rw [List.getElem?_eq_none (by rw [List.length_map]; exact h')] at hj
      cases hj
    obtain ⟨ad', he', hc⟩ := h.2.2 (by omega)
    injection he' with he'
    subst he'
    rw [hc j (by omega)]
    rw [List.getElem?_map, List.getElem?_eq_getElem hjl] at hj
    simp at hj
    subst hj
    simp [List.getD_eq_getElem?_getD, List.getElem?_eq_getElem hjl])
   simpa [hn] using this
  rw [run_convert_bytes_string w src dst e _ n c hs he hd, run_bytesToString w ad n c xs hl, foldl_push_bytes]
  simp [strOfNums, ByteArray.empty, ByteArray.emptyWithCapacity]
  rfl
end Go.Proofs.YtkeakdjbidbegaaGreatDoorW.PrintWords
namespace Go.Proofs.YtkeakdjbidbegaaGreatDoor
open Go.RowKit
def bt (s : ByteArray) (i : Nat) : Int := if h : i < s.size then ((s[i]'h).toNat : Int) else 0
theorem bt_at (s : ByteArray) (i : Nat) (h : i < s.size) : ((s[i]'h).toNat : Int) = bt s i := by simp [bt, h]
theorem bt_range (s : ByteArray) (i : Nat) : 0 ≤ bt s i ∧ bt s i ≤ 255 := by
 unfold bt
 split
 ·rename_i h
  have := (s[i]'h).toNat_lt
  omega
 ·omega
theorem and_mask (i : Nat) (hi : i ≤ 60) (x : Int) (h0 : 0 ≤ x) (h1 : x < 1152921504606846976) : bits .and .i64 x (2 ^ i - 1) = x % 2 ^ i :=
 bits_mask .i64 60 (by decide) (fun n h0 h1 => by rw [IntKind.wrap_i64]; omega) i hi x h0 h1
theorem and7 (x : Int) (h0 : 0 ≤ x) (h1 : x < 1152921504606846976) : bits .and .i64 x 7 = x % 8 := and_mask 3 (by decide) x h0 h1
theorem and15 (x : Int) (h0 : 0 ≤ x) (h1 : x < 1152921504606846976) : bits .and .i64 x 15 = x % 16 := and_mask 4 (by decide) x h0 h1
theorem and31 (x : Int) (h0 : 0 ≤ x) (h1 : x < 1152921504606846976) : bits .and .i64 x 31 = x % 32 := and_mask 5 (by decide) x h0 h1
theorem or_join (i : Nat) (x y : Int) (h0 : 0 ≤ x) (hx : x % 2 ^ i = 0) (h1 : x < 1152921504606846976) (hy : 0 ≤ y) (hy1 : y < 2 ^ i) (hy2 : y < 1152921504606846976) : bits .or .i64 x y = x + y :=
 bits_join .i64 60 (by decide) (fun n h0 h1 => by rw [IntKind.wrap_i64]; omega) i x y h0 hx h1 hy hy1 hy2
theorem or64 (x y : Int) (h0 : 0 ≤ x) (h1 : x < 1125899906842624) (hy : 0 ≤ y) (hy1 : y < 64) : bits .or .i64 (x * 64) y = x * 64 + y :=
 or_join 6 (x * 64) y (by omega) (by omega) (by omega) hy hy1 (by omega)
theorem wrap64_id (x : Int) (h0 : -9223372036854775808 ≤ x) (h1 : x ≤ 9223372036854775807) : wrap64 x = x := by unfold wrap64; omega
theorem str_empty {s : ByteArray} (h : s.size = 0) : s.toList = [] := by
 have : s.data.toList = [] := by
  apply List.eq_nil_of_length_eq_zero
  rw [Array.length_toList]; exact h
 rw [Lib.toList_data] ; exact this
theorem str_pos {s : ByteArray} (h : 0 < s.size) : s.toList.isEmpty = false := by
 rw [List.isEmpty_eq_false_iff, Lib.toList_data]
 intro he
 have : s.data.toList.length = 0 := by rw [he]; rfl
 rw [Array.length_toList] at this
 have h2 : s.data.size = s.size := rfl
 omega
theorem size_suffix (s : ByteArray) (k : Nat) (h : k ≤ s.size) : (s.extract k s.size).size = s.size - k := by
 have h1 : (s.extract k s.size).data.toList.length = s.size - k := by
  rw [Lib.extract_data, List.length_take, List.length_drop, Array.length_toList]
  show min (s.size - k) (s.size - k) = _
  omega
 rw [Array.length_toList] at h1
 exact h1
theorem bt_suffix (s : ByteArray) (k : Nat) (h : k ≤ s.size) : bt (s.extract k s.size) = fun j => bt s (k + j) := by
 funext j
 have hsz := size_suffix s k h
 unfold bt
 by_cases hj : k + j < s.size
 ·rw [dif_pos (by omega), dif_pos hj]
  have e1 : (s.extract k s.size)[j]'(by omega) = s[k + j] := by
   have l1 : (s.extract k s.size).data.toList[j]? = s.data.toList[k + j]? := by
    rw [Lib.extract_data, List.getElem?_take, if_pos (by omega), List.getElem?_drop]
   have l2 : (s.extract k s.size).data.toList[j]? = some ((s.extract k s.size)[j]'(by omega)) := by
    rw [List.getElem?_eq_getElem (by rw [Array.length_toList]; show j < (s.extract k s.size).size; omega)]
    rfl
   have l3 : s.data.toList[k + j]? = some (s[k + j]) := by
    rw [List.getElem?_eq_getElem (by rw [Array.length_toList]; exact hj)]
    rfl
   rw [l2, l3] at l1
   exact Option.some.inj l1
  rw [e1]
 ·rw [dif_neg (by omega), dif_neg hj]
def accR (b : Nat → Int) (m : Int) : Nat → Int
 | 0 => 0
 | 1 => m
 | k + 2 => accR b m (k + 1) * 64 + b (k + 1) % 64
theorem accR_succ (b : Nat → Int) (m : Int) (k : Nat) (h : 1 ≤ k) : accR b m (k + 1) = accR b m k * 64 + b k % 64 := by
 obtain ⟨j, rfl⟩ : ∃ j, k = j + 1 := ⟨k - 1, by omega⟩
 rfl
def runeTail (b : Nat → Int) (sz n : Nat) (m least : Int) : Int × Int :=
 if sz < n then (0, 0)
 else if (List.range n).all (fun j => j == 0 || b j / 64 == 2) then
  (if accR b m n < least ∨ 1114111 < accR b m n ∨ (55296 ≤ accR b m n ∧ accR b m n < 57344) then (0, 0) else ((n : Int), accR b m n))
 else (0, 0)
def runeF (b : Nat → Int) (sz : Nat) : Int × Int :=
 if sz = 0 then (0, 0)
 else if b 0 < 128 then (1, b 0)
 else if 194 ≤ b 0 ∧ b 0 < 224 then runeTail b sz 2 (b 0 % 32) 128
 else if 224 ≤ b 0 ∧ b 0 < 240 then runeTail b sz 3 (b 0 % 16) 2048
 else if 240 ≤ b 0 ∧ b 0 < 245 then runeTail b sz 4 (b 0 % 8) 65536
 else (0, 0)
theorem all_of {b : Nat → Int} {n : Nat} (h : ∀ j, 1 ≤ j → j < n → b j / 64 = 2) : (List.range n).all (fun j => j == 0 || b j / 64 == 2) = true := by
 rw [List.all_eq_true]
 intro j hj
 rw [List.mem_range] at hj
 rcases Nat.eq_zero_or_pos j with h0 | h0
 ·simp [h0]
 ·simp [h j h0 hj]
theorem not_all_of {b : Nat → Int} {n j : Nat} (h0 : 1 ≤ j) (hj : j < n) (h : b j / 64 ≠ 2) : (List.range n).all (fun j => j == 0 || b j / 64 == 2) = false := by
 rw [Bool.eq_false_iff]
 intro ha
 rw [List.all_eq_true] at ha
 have := ha j (List.mem_range.2 hj)
 simp [h] at this
 omega
theorem runeF_small {b : Nat → Int} {sz : Nat} (h0 : 0 < sz) (h : b 0 < 128) : runeF b sz = (1, b 0) := by
 unfold runeF
 rw [if_neg (by omega), if_pos h]
theorem runeF_2 {b : Nat → Int} {sz : Nat} (h0 : 0 < sz) (h1 : 194 ≤ b 0) (h2 : b 0 < 224) : runeF b sz = runeTail b sz 2 (b 0 % 32) 128 := by
 unfold runeF
 rw [if_neg (by omega), if_neg (by omega), if_pos ⟨h1, h2⟩]
theorem runeF_3 {b : Nat → Int} {sz : Nat} (h0 : 0 < sz) (h1 : 224 ≤ b 0) (h2 : b 0 < 240) : runeF b sz = runeTail b sz 3 (b 0 % 16) 2048 := by
 unfold runeF
 rw [if_neg (by omega), if_neg (by omega), if_neg (by omega), if_pos ⟨h1, h2⟩]
theorem runeF_4 {b : Nat → Int} {sz : Nat} (h0 : 0 < sz) (h1 : 240 ≤ b 0) (h2 : b 0 < 245) : runeF b sz = runeTail b sz 4 (b 0 % 8) 65536 := by
 unfold runeF
 rw [if_neg (by omega), if_neg (by omega), if_neg (by omega), if_neg (by omega), if_pos ⟨h1, h2⟩]
theorem runeF_none {b : Nat → Int} {sz : Nat} (h1 : 128 ≤ b 0) (h2 : b 0 < 194 ∨ 245 ≤ b 0) : runeF b sz = (0, 0) := by
 unfold runeF
 split
 ·rfl
 ·rw [if_neg (by omega), if_neg (by omega), if_neg (by omega), if_neg (by omega)]
theorem tail_short {b : Nat → Int} {sz n : Nat} {m least : Int} (h : (sz : Int) < (n : Nat)) : runeTail b sz n m least = (0, 0) := by
 unfold runeTail
 rw [if_pos (by omega)]
theorem tail_bad {b : Nat → Int} {sz n j : Nat} {m least : Int} (h : n ≤ sz) (h0 : 1 ≤ j) (hj : j < n) (hb : b j / 64 ≠ 2) : runeTail b sz n m least = (0, 0) := by
 unfold runeTail
 rw [if_neg (by omega), if_neg (by rw [not_all_of h0 hj hb]; simp)]
theorem tail_out {b : Nat → Int} {sz n : Nat} {m least : Int} (h : n ≤ sz) (ha : ∀ j, 1 ≤ j → j < n → b j / 64 = 2) (hc : accR b m n < least ∨ 1114111 < accR b m n ∨ (55296 ≤ accR b m n ∧ accR b m n < 57344)) : runeTail b sz n m least = (0, 0) := by
 unfold runeTail
 rw [if_neg (by omega), if_pos (all_of ha), if_pos hc]
theorem tail_in {b : Nat → Int} {sz n : Nat} {m least : Int} (h : n ≤ sz) (ha : ∀ j, 1 ≤ j → j < n → b j / 64 = 2) (hc : ¬ (accR b m n < least ∨ 1114111 < accR b m n ∨ (55296 ≤ accR b m n ∧ accR b m n < 57344))) : runeTail b sz n m least = ((n : Int), accR b m n) := by
 unfold runeTail
 rw [if_neg (by omega), if_pos (all_of ha), if_neg hc]
theorem accR_range (b : Nat → Int) (m : Int) (hb : ∀ j, 0 ≤ b j) (hm0 : 0 ≤ m) (hm : m < 32) : ∀ k : Nat, k ≤ 4 → 0 ≤ accR b m k ∧ accR b m k < 32 * 64 ^ 3 := by
 intro k hk
 have h1 := hb 1
 have h2 := hb 2
 have h3 := hb 3
 match k, hk with
 | 0, _ => simp [accR]
 | 1, _ => simp only [accR]; omega
 | 2, _ => simp only [accR]; omega
 | 3, _ => simp only [accR]; omega
 | 4, _ => simp only [accR]; omega
theorem extRune_calls (s : ByteArray) (hs : s.size ≤ maxLen) (w : World) :
  Calls Tryz.prog 18 #[.string s] w fun e w' => e = .returned (.tuple #[.int .i64 (runeF (bt s) s.size).1, .int .i64 (runeF (bt s) s.size).2]) ∧ w = w' := by
 unfold maxLen at hs
 by_cases h0 : s.size = 0
 ·have he : s.toList = [] := str_empty h0
  go_enter Tryz.func18, Tryz.ntmps18
  go_wp2
  go_ret2
  exact ⟨by simp [runeF, h0], rfl⟩
 ·have hp : 0 < s.size := by omega
  have he : s.toList.isEmpty = false := str_pos hp
  have hb := bt_at s 0 hp
  have hr := bt_range s 0
  go_enter Tryz.func18, Tryz.ntmps18
  go_wp2
  ·go_ret2
   exact ⟨by rw [runeF_small hp ‹_›]; rfl, rfl⟩
  ·go_ret2
   exact ⟨by rw [runeF_2 hp ‹_› ‹_›, tail_short ‹_›]; rfl, rfl⟩
  ·have HT := Lib.hid (runeF_2 (b := bt s) hp ‹_› ‹_›)
   have hsz : 2 ≤ s.size := by omega
   go_loop [4, 7] (fun c i => ∃ k : Nat, 1 ≤ k ∧ k ≤ 2 ∧ i = .int .i64 k ∧ c = .int .i64 (accR (bt s) (bt s 0 % 32) k) ∧ ∀ j, 1 ≤ j → j < k → bt s j / 64 = 2) (fun _ i => 2 - (intOf i).toNat)
   case atStart => exact ⟨1, by omega, by omega, rfl, by rw [and31 _ (by omega) (by omega)]; rfl, fun j h1 h2 => by omega⟩
   case round =>
    obtain ⟨k, h1, h2, rfl, rfl, hj⟩ := hrel
    have ha := accR_range (bt s) (bt s 0 % 32) (fun j => (bt_range s j).1) (by omega) (by omega) k (by omega)
    by_cases hk : k < 2
    ·have hbk := bt_at s k (by omega)
     have hrk := bt_range s k
     by_cases h64 : bt s k / 64 = 2
     ·have h64b : (bt s k / 64 != 2) = false := by simp [h64]
      have H64 := Lib.hid h64
      clear h64
      go_wp2
      go_round
      case rel =>
       refine ⟨k + 1, by omega, by omega, by go_num, ?_, fun j hj1 hj2 => ?_⟩
       ·rw [accR_succ _ _ _ h1, or64 _ _ (by omega) (by omega) (by omega) (by omega)]
       ·rcases Nat.lt_or_ge j k with h | h
        ·exact hj j hj1 h
        ·obtain rfl : j = k := by omega
         exact H64.out
      case measure => simp [intOf]; omega
     ·have h64b : (bt s k / 64 != 2) = true := by simp [h64]
      go_wp2
      go_ret2
      exact ⟨by rw [HT.out, tail_bad hsz h1 hk h64]; rfl, rfl⟩
    ·obtain rfl : k = 2 := by omega
     generalize hA : accR (bt s) (bt s 0 % 32) 2 = A at ha ⊢
     have HA := Lib.hid hA
     clear hA
     by_cases hc : A < 128 ∨ 1114111 < A ∨ (55296 ≤ A ∧ A < 57344)
     ·have hfin := Lib.hid (tail_out (m := bt s 0 % 32) (least := 128) hsz hj (by rw [HA.out]; exact hc))
      go_wp2
      all_goals go_ret2
      all_goals first | exact ⟨by rw [HT.out, hfin.out]; rfl, rfl⟩ | omega
     ·have hfin := Lib.hid (tail_in (m := bt s 0 % 32) (least := 128) hsz hj (by rw [HA.out]; exact hc))
      go_wp2
      all_goals go_ret2
      all_goals first | exact ⟨by rw [HT.out, hfin.out, HA.out]; rfl, rfl⟩ | omega
  ·go_ret2
   exact ⟨by rw [runeF_3 hp ‹_› ‹_›, tail_short ‹_›]; rfl, rfl⟩
  ·have HT := Lib.hid (runeF_3 (b := bt s) hp ‹_› ‹_›)
   have hsz : 3 ≤ s.size := by omega
   go_loop [4, 7] (fun c i => ∃ k : Nat, 1 ≤ k ∧ k ≤ 3 ∧ i = .int .i64 k ∧ c = .int .i64 (accR (bt s) (bt s 0 % 16) k) ∧ ∀ j, 1 ≤ j → j < k → bt s j / 64 = 2) (fun _ i => 3 - (intOf i).toNat)
   case atStart => exact ⟨1, by omega, by omega, rfl, by rw [and15 _ (by omega) (by omega)]; rfl, fun j h1 h2 => by omega⟩
   case round =>
    obtain ⟨k, h1, h2, rfl, rfl, hj⟩ := hrel
    have ha := accR_range (bt s) (bt s 0 % 16) (fun j => (bt_range s j).1) (by omega) (by omega) k (by omega)
    by_cases hk : k < 3
    ·have hbk := bt_at s k (by omega)
     have hrk := bt_range s k
     by_cases h64 : bt s k / 64 = 2
     ·have h64b : (bt s k / 64 != 2) = false := by simp [h64]
      have H64 := Lib.hid h64
      clear h64
      go_wp2
      go_round
      case rel =>
       refine ⟨k + 1, by omega, by omega, by go_num, ?_, fun j hj1 hj2 => ?_⟩
       ·rw [accR_succ _ _ _ h1, or64 _ _ (by omega) (by omega) (by omega) (by omega)]
       ·rcases Nat.lt_or_ge j k with h | h
        ·exact hj j hj1 h
        ·obtain rfl : j = k := by omega
         exact H64.out
      case measure => simp [intOf]; omega
     ·have h64b : (bt s k / 64 != 2) = true := by simp [h64]
      go_wp2
      go_ret2
      exact ⟨by rw [HT.out, tail_bad hsz h1 hk h64]; rfl, rfl⟩
    ·obtain rfl : k = 3 := by omega
     generalize hA : accR (bt s) (bt s 0 % 16) 3 = A at ha ⊢
     have HA := Lib.hid hA
     clear hA
     by_cases hc : A < 2048 ∨ 1114111 < A ∨ (55296 ≤ A ∧ A < 57344)
     ·have hfin := Lib.hid (tail_out (m := bt s 0 % 16) (least := 2048) hsz hj (by rw [HA.out]; exact hc))
      go_wp2
      all_goals go_ret2
      all_goals first | exact ⟨by rw [HT.out, hfin.out]; rfl, rfl⟩ | omega
     ·have hfin := Lib.hid (tail_in (m := bt s 0 % 16) (least := 2048) hsz hj (by rw [HA.out]; exact hc))
      go_wp2
      all_goals go_ret2
      all_goals first | exact ⟨by rw [HT.out, hfin.out, HA.out]; rfl, rfl⟩ | omega
  ·go_ret2
   exact ⟨by rw [runeF_4 hp ‹_› ‹_›, tail_short ‹_›]; rfl, rfl⟩
  ·have HT := Lib.hid (runeF_4 (b := bt s) hp ‹_› ‹_›)
   have hsz : 4 ≤ s.size := by omega
   go_loop [4, 7] (fun c i => ∃ k : Nat, 1 ≤ k ∧ k ≤ 4 ∧ i = .int .i64 k ∧ c = .int .i64 (accR (bt s) (bt s 0 % 8) k) ∧ ∀ j, 1 ≤ j → j < k → bt s j / 64 = 2) (fun _ i => 4 - (intOf i).toNat)
   case atStart => exact ⟨1, by omega, by omega, rfl, by rw [and7 _ (by omega) (by omega)]; rfl, fun j h1 h2 => by omega⟩
   case round =>
    obtain ⟨k, h1, h2, rfl, rfl, hj⟩ := hrel
    have ha := accR_range (bt s) (bt s 0 % 8) (fun j => (bt_range s j).1) (by omega) (by omega) k (by omega)
    by_cases hk : k < 4
    ·have hbk := bt_at s k (by omega)
     have hrk := bt_range s k
     by_cases h64 : bt s k / 64 = 2
     ·have h64b : (bt s k / 64 != 2) = false := by simp [h64]
      have H64 := Lib.hid h64
      clear h64
      go_wp2
      go_round
      case rel =>
       refine ⟨k + 1, by omega, by omega, by go_num, ?_, fun j hj1 hj2 => ?_⟩
       ·rw [accR_succ _ _ _ h1, or64 _ _ (by omega) (by omega) (by omega) (by omega)]
       ·rcases Nat.lt_or_ge j k with h | h
        ·exact hj j hj1 h
        ·obtain rfl : j = k := by omega
         exact H64.out
      case measure => simp [intOf]; omega
     ·have h64b : (bt s k / 64 != 2) = true := by simp [h64]
      go_wp2
      go_ret2
      exact ⟨by rw [HT.out, tail_bad hsz h1 hk h64]; rfl, rfl⟩
    ·obtain rfl : k = 4 := by omega
     generalize hA : accR (bt s) (bt s 0 % 8) 4 = A at ha ⊢
     have HA := Lib.hid hA
     clear hA
     by_cases hc : A < 65536 ∨ 1114111 < A ∨ (55296 ≤ A ∧ A < 57344)
     ·have hfin := Lib.hid (tail_out (m := bt s 0 % 8) (least := 65536) hsz hj (by rw [HA.out]; exact hc))
      go_wp2
      all_goals go_ret2
      all_goals first | exact ⟨by rw [HT.out, hfin.out]; rfl, rfl⟩ | omega
     ·have hfin := Lib.hid (tail_in (m := bt s 0 % 8) (least := 65536) hsz hj (by rw [HA.out]; exact hc))
      go_wp2
      all_goals go_ret2
      all_goals first | exact ⟨by rw [HT.out, hfin.out, HA.out]; rfl, rfl⟩ | omega
  ·go_ret2
   exact ⟨by rw [runeF_none (by omega) (.inr ‹_›)]; rfl, rfl⟩
  ·go_ret2
   exact ⟨by rw [runeF_none (by omega) (.inl ‹_›)]; rfl, rfl⟩
theorem runeF_le (b : Nat → Int) (sz : Nat) : 0 ≤ (runeF b sz).1 ∧ (runeF b sz).1 ≤ sz := by
 have tl : ∀ n m least, 0 ≤ (runeTail b sz n m least).1 ∧ (runeTail b sz n m least).1 ≤ sz := by
  intro n m least
  unfold runeTail
  split
  ·simp
  ·split
   ·split
    ·simp
    ·constructor
     ·simp
     ·simp; omega
   ·simp
 unfold runeF
 split
 ·simp
 ·split
  ·constructor
   ·simp
   ·simp; omega
  ·split
   ·exact tl _ _ _
   ·split
    ·exact tl _ _ _
    ·split
     ·exact tl _ _ _
     ·simp
def utf8L (b : Nat → Int) (sz : Nat) : Nat → Nat → Bool
 | 0, _ => true
 | f + 1, i => if i < sz then (if (runeF (fun j => b (i + j)) (sz - i)).1 = 0 then false else utf8L b sz f (i + (runeF (fun j => b (i + j)) (sz - i)).1.toNat)) else true
def utf8F (s : ByteArray) : Bool := utf8L (bt s) s.size (s.size + 1) 0
theorem ExtUTF8_calls (s : ByteArray) (hs : s.size ≤ maxLen) (w : World) :
  Calls Tryz.prog 94 #[.string s] w fun e w' => e = .returned (.bool (utf8F s)) ∧ w = w' := by
 have hs0 := Lib.hid hs
 unfold maxLen at hs
 go_enter Tryz.func94, Tryz.ntmps94
 go_wp2
 go_loop [3] (fun i => ∃ k f : Nat, k ≤ s.size ∧ s.size < k + f ∧ i = .int .i64 k ∧ Hid (utf8L (bt s) s.size f k = utf8F s)) (fun i => s.size - (intOf i).toNat)
 case atStart => exact ⟨0, s.size + 1, by omega, by omega, rfl, rfl⟩
 case round =>
  obtain ⟨k, f, hk, hf, rfl, HF⟩ := hrel
  by_cases hlt : k < s.size
  ·obtain ⟨f, rfl⟩ : ∃ m, f = m + 1 := ⟨f - 1, by omega⟩
   have hz := Lib.hid (size_suffix s k hk)
   have hb := Lib.hid (bt_suffix s k hk)
   have hle := runeF_le (fun j => bt s (k + j)) (s.size - k)
   go_wp2_with fail
   refine (extRune_calls (s.extract k s.size) (by rw [hz.out]; have := hs0.out; omega) _).mono ?_
   rintro e w' ⟨rfl, rfl⟩
   rw [hz.out, hb.out]
   generalize hR : runeF (fun j => bt s (k + j)) (s.size - k) = R at hle ⊢
   have HR := Lib.hid hR
   clear hR
   obtain ⟨n, c⟩ := R
   by_cases hn : n = 0
   ·have hfin : Hid (utf8F s = false) := by
     show utf8F s = false
     have h := HF.out
     rw [← h]
     simp only [utf8L]
     rw [if_pos hlt, HR.out]; simp only; rw [if_pos hn]
    subst hn
    go_wp2
    go_ret
    exact ⟨by rw [hfin.out]; rfl, rfl⟩
   ·have hnb : (n == 0) = false := by simp [hn]
    have HN := Lib.hid hn
    clear hn
    simp only at hle
    have hfin : Hid (utf8L (bt s) s.size f (k + n.toNat) = utf8F s) := by
     show utf8L (bt s) s.size f (k + n.toNat) = utf8F s
     have h := HF.out
     rw [← h]
     simp only [utf8L]
     rw [if_pos hlt, HR.out]; simp only; rw [if_neg HN.out]
    go_wp2
    go_round
    case rel =>
     have := HN.out
     exact ⟨k + n.toNat, f, by omega, by omega, by first | go_num | (congr 1; omega), hfin⟩
    case measure => have := HN.out; simp [intOf]; omega
  ·have hfin : Hid (utf8F s = true) := by
    show utf8F s = true
    have h := HF.out
    rw [← h]
    cases f with
    | zero => rfl
    | succ f => simp only [utf8L]; rw [if_neg hlt]
   go_wp2
   go_ret
   exact ⟨by rw [hfin.out]; rfl, rfl⟩
def textF (s : ByteArray) : Bool := decide (s.size ≤ 300) && utf8F s
theorem extText_calls (s : ByteArray) (hs : s.size ≤ maxLen) (w : World) :
  Calls Tryz.prog 40 #[.string s] w fun e w' => e = .returned (.bool (textF s)) ∧ w = w' := by
 have hs0 := Lib.hid hs
 unfold maxLen at hs
 by_cases h : s.size ≤ 300
 ·have hd : decide ((s.size : Int) ≤ 300) = true := by simp; omega
  have hfin : Hid (textF s = utf8F s) := by show _ = _; simp [textF, h]
  go_enter Tryz.func40, Tryz.ntmps40
  go_wp2_with (go_at_call 94; refine (ExtUTF8_calls s hs0.out _).mono ?_; rintro e w' ⟨rfl, rfl⟩)
  go_ret
  exact ⟨by rw [hfin.out]; rfl, rfl⟩
 ·have hd : decide ((s.size : Int) ≤ 300) = false := by simp; omega
  have hfin : Hid (textF s = false) := by show _ = _; simp [textF, h]
  go_enter Tryz.func40, Tryz.ntmps40
  go_wp2
  go_ret
  exact ⟨by rw [hfin.out]; rfl, rfl⟩
def knownF (k : Int) : Bool := decide (1 ≤ k ∧ k ≤ 19) || k == 255 || k == 127
theorem DocKnown_calls (k : Int) (w : World) :
  Calls Tryz.prog 97 #[.int .i64 k] w fun e w' => e = .returned (.bool (knownF k)) ∧ w = w' := by
 by_cases h1 : 1 ≤ k
 ·by_cases h2 : k ≤ 19
  ·have hfin : Hid (knownF k = true) := by show _ = _; simp [knownF, h1, h2]
   go_enter Tryz.func97, Tryz.ntmps97
   go_wp2
   go_ret
   exact ⟨by rw [hfin.out]; rfl, rfl⟩
  ·by_cases h3 : k = 255
   ·subst h3
    go_enter Tryz.func97, Tryz.ntmps97
    go_wp2
    go_ret
    exact ⟨rfl, rfl⟩
   ·have hb : (k == 255) = false := by simp [h3]
    have hfin : Hid (knownF k = (k == 127)) := by show _ = _; simp [knownF, h2, h3]
    clear h3
    go_enter Tryz.func97, Tryz.ntmps97
    go_wp2
    go_ret
    exact ⟨by rw [hfin.out]; rfl, rfl⟩
 ·have hb : (k == 255) = false := by simp; omega
  have hb2 : (k == 127) = false := by simp; omega
  have hfin : Hid (knownF k = false) := by show _ = _; simp [knownF, h1]; omega
  go_enter Tryz.func97, Tryz.ntmps97
  go_wp2
  go_ret
  exact ⟨by rw [hfin.out]; rfl, rfl⟩
def plainF (s : ByteArray) : Bool := (List.range s.size).all fun j => bt s j != 0
theorem plainF_true {s : ByteArray} (h : ∀ j, j < s.size → bt s j ≠ 0) : plainF s = true := by
 unfold plainF
 rw [List.all_eq_true]
 intro j hj
 have := h j (List.mem_range.1 hj)
 simp [this]
theorem plainF_false {s : ByteArray} {j : Nat} (hj : j < s.size) (h : bt s j = 0) : plainF s = false := by
 rw [Bool.eq_false_iff]
 intro ha
 unfold plainF at ha
 rw [List.all_eq_true] at ha
 have := ha j (List.mem_range.2 hj)
 simp [h] at this
theorem DocPlain_calls (s : ByteArray) (hs : s.size ≤ maxLen) (w : World) :
  Calls Tryz.prog 99 #[.string s] w fun e w' => e = .returned (.bool (plainF s)) ∧ w = w' := by
 unfold maxLen at hs
 go_enter Tryz.func99, Tryz.ntmps99
 go_wp2
 go_loop [3] (fun i => ∃ k : Nat, k ≤ s.size ∧ i = .int .i64 k ∧ ∀ j, j < k → bt s j ≠ 0) (fun i => s.size - (intOf i).toNat)
 case atStart => exact ⟨0, by omega, rfl, fun j hj => by omega⟩
 case round =>
  obtain ⟨k, hk, rfl, hj⟩ := hrel
  have HJ := Lib.hid hj
  clear hj
  by_cases hlt : k < s.size
  ·have hbk := bt_at s k hlt
   by_cases hz : bt s k = 0
   ·have hfin := Lib.hid (plainF_false hlt hz)
    have hzb : (bt s k == 0) = true := by simp [hz]
    clear hz
    go_wp2
    go_ret
    exact ⟨by rw [hfin.out]; rfl, rfl⟩
   ·have hzb : (bt s k == 0) = false := by simp [hz]
    have HZ := Lib.hid hz
    clear hz
    go_wp2
    go_round
    case rel =>
     refine ⟨k + 1, by omega, by go_num, fun j hj => ?_⟩
     rcases Nat.lt_or_ge j k with h | h
     ·exact HJ.out j h
     ·obtain rfl : j = k := by omega
      exact HZ.out
    case measure => simp [intOf]; omega
  ·have hfin := Lib.hid (plainF_true (s := s) (fun j hj => HJ.out j (by omega)))
   go_wp2
   go_ret
   exact ⟨by rw [hfin.out]; rfl, rfl⟩
section
open Go.Proofs.YtkeakdjbidbegaaGreatDoorW.PrintWords
theorem info_u8 : (Tryz.prog.info? 5).map (fun i => (i.zero, i.size, i.bytes)) = some (some (.int .u8 0), 1, 1) := by kernel_rfl
abbrev Own (W : World) (base : Nat) (v : Value) (xs : List Int) : Prop := W.ownsRow base 5 1 v xs.length (nums .u8 xs)
theorem Own.slice {W : World} {base : Nat} {v : Value} {xs : List Int} (h : Own W base v xs) : ∃ A c, v = .slice A xs.length c ∧ ReadsInt W .u8 A xs.length xs := own_reads h
theorem lit_reads (W : World) (ys : List Int) (hy : ys.length ≤ 9223372036854775807) : ReadsInt (W.alloc (.cells (nums .u8 ys).toArray 5)) .u8 (some ⟨W.heap.size, 0, none⟩) ys.length ys := by
 obtain ⟨A, c, he, hr⟩ := own_reads (own_lit W 0 5 .u8 ys (Nat.zero_le _) hy)
 injection he with h1
 subst h1
 exact hr
variable {P : Program} {ops : Array Oper} {rest : List Oper} {o : Oper} {a : Act} {Q : Exit → Act → World → Prop}
theorem append_lit {w0 W : World} (base : Nat) (hgd : o.guard = none) (s x : Operand)
  (ho : o.op = .call { callee := .builtin .append, args := #[s, x], argTypes := #[23, 23] })
  (v : Value) (xs ys : List Int) (hs : a.eval s = v) (hx : a.eval x = .slice (some ⟨W.heap.size, 0, none⟩) ys.length ys.length)
  (HO : Own W base v xs) (HB : Below base w0 W) (hbase : base ≤ W.heap.size) (hl : xs.length + ys.length ≤ 140737488355328)
  (h : ∀ v1 w1, Own w1 base v1 (xs ++ ys) → Below base w0 w1 → W.grownBy w1 v.ownBlock → (v1.ownBlock = v.ownBlock ∨ ∃ b, v1.ownBlock = some b ∧ W.heap.size ≤ b) → wpList Tryz.prog ops Q rest (a.put o.dst v1) w1) :
  wpList Tryz.prog ops Q (o :: rest) a (W.alloc (.cells (nums .u8 ys).toArray 5)) := by
 refine print_append_row (w0 := w0) base hgd s x 23 5 .u8 1 ho Tryz.underlying23 info_u8 (by decide) v xs ys _ _ _ hs hx (HO.alloc _) (lit_reads W ys (by omega)) (HB.alloc hbase _) (by simp; omega) (by omega) ?_
 intro v1 w1 hown hb hg hat
 refine h v1 w1 hown hb (World.grownBy.trans (World.grownBy_alloc W _ _) hg) ?_
 rcases hat with hat | ⟨b, hb1, hb2⟩
 ·exact .inl hat
 ·exact .inr ⟨b, hb1, by simp at hb2; omega⟩
theorem append_str {w0 W : World} (base : Nat) (hgd : o.guard = none) (s x : Operand)
  (ho : o.op = .call { callee := .builtin .append, args := #[s, x], argTypes := #[23, 9] })
  (v : Value) (xs : List Int) (y : ByteArray) (hs : a.eval s = v) (hx : a.eval x = .string y)
  (HO : Own W base v xs) (HB : Below base w0 W) (hbase : base ≤ W.heap.size) (hl : xs.length + y.size ≤ 140737488355328)
  (h : ∀ v1 w1, Own w1 base v1 (xs ++ bytesOf y) → Below base w0 w1 → W.grownBy w1 v.ownBlock → wpList Tryz.prog ops Q rest (a.put o.dst v1) w1) :
  wpList Tryz.prog ops Q (o :: rest) a W :=
 print_append_str base hgd s x 23 9 5 ho Tryz.underlying23 Tryz.underlying9 info_u8 v xs y hs hx HO HB hbase hl h
theorem append_row {w0 W : World} (base : Nat) (hgd : o.guard = none) (s x : Operand)
  (ho : o.op = .call { callee := .builtin .append, args := #[s, x], argTypes := #[23, 23] })
  (v : Value) (xs ys : List Int) (A : Option Addr) (m c : Nat) (hs : a.eval s = v) (hx : a.eval x = .slice A m c)
  (HO : Own W base v xs) (HR : ReadsInt W .u8 A m ys) (HB : Below base w0 W) (hbase : base ≤ W.heap.size) (hl : xs.length + m ≤ 140737488355328)
  (h : ∀ v1 w1, Own w1 base v1 (xs ++ ys) → Below base w0 w1 → W.grownBy w1 v.ownBlock → (v1.ownBlock = v.ownBlock ∨ ∃ b, v1.ownBlock = some b ∧ W.heap.size ≤ b) → wpList Tryz.prog ops Q rest (a.put o.dst v1) w1) :
  wpList Tryz.prog ops Q (o :: rest) a W :=
 print_append_row base hgd s x 23 5 .u8 1 ho Tryz.underlying23 info_u8 (by decide) v xs ys A m c hs hx HO HR HB hbase (by omega) h
theorem own_str {w : World} {base : Nat} {v : Value} {xs : List Int} (h : Own w base v xs) : (convert 23 9 v).run Tryz.prog w = .ok (.string (strOfNums xs)) w :=
 own_string Tryz.underlying23 Tryz.underlying5 Tryz.underlying9 h
structure StrIs (u : ByteArray) (l : List Int) : Prop where
 out : u = strOfNums l
theorem StrIs.of (l : List Int) : StrIs (strOfNums l) l := ⟨rfl⟩
theorem StrIs.size {u : ByteArray} {l : List Int} (h : StrIs u l) : u.size = l.length := by rw [h.out, strOfNums_size]
theorem StrIs.le {u : ByteArray} {l : List Int} (h : StrIs u l) {n : Nat} (hn : l.length ≤ n) : u.size ≤ n := by rw [h.size]; exact hn
theorem strOfNums_append (a b : List Int) : strOfNums a ++ strOfNums b = strOfNums (a ++ b) := by
 apply WideShapes.bytes_inj
 rw [ByteArray.data_append, Array.toList_append, strOfNums_data, strOfNums_data, strOfNums_data, List.map_append]
theorem StrIs.append {u v : ByteArray} {a b : List Int} (h : StrIs u a) (k : StrIs v b) : StrIs (u ++ v) (a ++ b) := ⟨by rw [h.out, k.out, strOfNums_append]⟩
theorem StrIs.cast {u : ByteArray} {a b : List Int} (h : StrIs u a) (e : a = b) : StrIs u b := e ▸ h
theorem StrIs.extract {u : ByteArray} {l : List Int} (h : StrIs u l) (a b : Nat) : StrIs (u.extract a b) ((l.drop a).take (b - a)) := ⟨by
 apply WideShapes.bytes_inj
 rw [Lib.extract_data, h.out, strOfNums_data, strOfNums_data, List.map_take, List.map_drop]⟩
theorem bcell {W w1 : World} (hb : Below W.heap.size W w1) : (∀ b o, b < W.heap.size → w1.cell? ⟨b, o, none⟩ = W.cell? ⟨b, o, none⟩) ∧ (∀ b o, b < W.heap.size → w1.frozen? ⟨b, o, none⟩ = W.frozen? ⟨b, o, none⟩) :=
 ⟨fun b o h => hb.cell (p := ⟨b, o, none⟩) h, fun b o h => hb.frozen (p := ⟨b, o, none⟩) h⟩
theorem conv_at (W : World) (b : Nat) (xs : List Int) (h : ∀ j, j < xs.length → W.cell? ⟨b, j, none⟩ = some (.int .u8 (xs.getD j 0))) : (convert 23 9 (.slice (some ⟨b, 0, none⟩) xs.length xs.length)).run Tryz.prog W = .ok (.string (strOfNums xs)) W := by
 refine run_convert_bytes_arg W 23 5 Tryz.underlying23 Tryz.underlying5 b 0 xs.length xs.length xs rfl (fun i hi => ?_) 9 Tryz.underlying9
 rw [Nat.zero_add]
 exact h i hi
theorem conv1 (b : Nat) (x : Int) : ∀ W : World, W.cell? ⟨b, 0, none⟩ = some (.int .u8 x) → (convert 23 9 (.slice (some ⟨b, 0, none⟩) 1 1)).run Tryz.prog W = .ok (.string (strOfNums [x])) W := fun W h =>
 conv_at W b [x] (fun j hj => by
  have : j = 0 := by simpa using hj
  subst this
  exact h)
theorem add_pos (ad : Addr) (n : Nat) (h : 0 < n) : ad.add n = { block := ad.block, off := ad.off + n } := by unfold Addr.add; rw [if_neg (by omega)]
theorem lit_str (W : World) (ys : List Int) (hy : ys.length ≤ 9223372036854775807) : (convert 23 9 (.slice (some ⟨W.heap.size, 0, none⟩) ys.length ys.length)).run Tryz.prog (W.alloc (.cells (nums .u8 ys).toArray 5)) = .ok (.string (strOfNums ys)) (W.alloc (.cells (nums .u8 ys).toArray 5)) :=
 own_str (own_lit W 0 5 .u8 ys (Nat.zero_le _) hy)
theorem lit_str_drew (W : World) (ys : List Int) (hy : ys.length ≤ 9223372036854775807) : (convert 23 9 (.slice (some ⟨W.heap.size, 0, none⟩) ys.length ys.length)).run Tryz.prog (W.alloc (.cells (nums .u8 ys).toArray 5)).drew = .ok (.string (strOfNums ys)) (W.alloc (.cells (nums .u8 ys).toArray 5)).drew :=
 own_str (w := (W.alloc (.cells (nums .u8 ys).toArray 5)).drew) (base := 0) (own_lit W 0 5 .u8 ys (Nat.zero_le _) hy)
theorem lit_str1 (W : World) (x : Int) : (convert 23 9 (.slice (some ⟨W.heap.size, 0, none⟩) 1 1)).run Tryz.prog (W.alloc (.cells #[.int .u8 x] 5)) = .ok (.string (strOfNums [x])) (W.alloc (.cells #[.int .u8 x] 5)) := lit_str W [x] (by simp)
theorem lit_str2_drew (W : World) (x y : Int) : (convert 23 9 (.slice (some ⟨W.heap.size, 0, none⟩) 2 2)).run Tryz.prog (W.alloc (.cells #[.int .u8 x, .int .u8 y] 5)).drew = .ok (.string (strOfNums [x, y])) (W.alloc (.cells #[.int .u8 x, .int .u8 y] 5)).drew := lit_str_drew W [x, y] (by simp)
end
open Go.RowKit
open Go.Proofs.YtkeakdjbidbegaaGreatDoorW.PrintWords
def hexd (n : Int) : Int := if n < 10 then 48 + n else 87 + n
theorem hexc_nat : ∀ k : Nat, (h : k < 16) → ((((⟨#[48, 49, 50, 51, 52, 53, 54, 55, 56, 57, 97, 98, 99, 100, 101, 102]⟩ : ByteArray)[k]'h).toNat : Nat) : Int) = hexd k := by decide
theorem hexc (n : Int) (h : n.toNat < 16) (h0 : 0 ≤ n) : ((((⟨#[48, 49, 50, 51, 52, 53, 54, 55, 56, 57, 97, 98, 99, 100, 101, 102]⟩ : ByteArray)[n.toNat]'h).toNat : Nat) : Int) = hexd n := by
 rw [hexc_nat n.toNat h]
 congr 1
 omega
theorem extHex_calls (b : Int) (h0 : 0 ≤ b) (h1 : b ≤ 255) (w : World) :
  Calls Tryz.prog 46 #[.int .u8 b] w fun e w' => ∃ u, e = .returned (.string u) ∧ StrIs u [hexd (b / 16), hexd (b % 16)] ∧ Below w.heap.size w w' := by
 have a0 : 0 ≤ b / 16 := by omega
 have a1 : b / 16 < 16 := by omega
 have a2 : 0 ≤ b % 16 := by omega
 have a3 : b % 16 < 16 := by omega
 have hc := fun (x y : Int) => lit_str2_drew w x y
 go_enter Tryz.func46, Tryz.ntmps46
 go_wp2
 go_region
 go_wp2
 go_ret
 exact ⟨_, rfl, ⟨by rw [← hexc (b / 16) (by omega) a0, ← hexc (b % 16) (by omega) a2]⟩, ((Below.refl _ _).alloc (Nat.le_refl _) _).drew⟩
def hexL : List Int → List Int
 | [] => []
 | b :: r => hexd (b / 16) :: hexd (b % 16) :: hexL r
theorem hexL_length (l : List Int) : (hexL l).length = 2 * l.length := by
 induction l with
 | nil => rfl
 | cons b r ih => simp [hexL, ih]; omega
theorem hexL_snoc (l : List Int) (b : Int) : hexL (l ++ [b]) = hexL l ++ [hexd (b / 16), hexd (b % 16)] := by
 induction l with
 | nil => rfl
 | cons c r ih => simp [hexL, ih]
theorem rd_mem {l : List Int} {k : Nat} (h : k < l.length) : rd l (k : Int) ∈ l := by
 unfold rd
 rw [Int.toNat_natCast, List.getD_eq_getElem?_getD, List.getElem?_eq_getElem h]
 exact List.getElem_mem h
theorem take_succ_rd {l : List Int} {k : Nat} (h : k < l.length) : l.take (k + 1) = l.take k ++ [rd l (k : Int)] := by
 rw [List.take_succ_eq_append_getElem h]
 unfold rd
 rw [Int.toNat_natCast, List.getD_eq_getElem?_getD, List.getElem?_eq_getElem h]
 rfl
theorem extID_calls (A : Option Addr) (c : Nat) (l : List Int) (hr : ∀ x ∈ l, 0 ≤ x ∧ x ≤ 255) (hl : l.length ≤ 65536) (w : World) (hR : ReadsInt w .u8 A l.length l) :
  Calls Tryz.prog 54 #[.slice A l.length c] w fun e w' => ∃ u, e = .returned (.string u) ∧ StrIs u (34 :: hexL l ++ [34]) ∧ Below w.heap.size w w' := by
 have HR := Lib.hid hR
 clear hR
 go_enter Tryz.func54, Tryz.ntmps54
 go_wp2
 go_loopw [3, 8] (fun s i wr => ∃ (k : Nat) (t : ByteArray), k ≤ l.length ∧ i = .int .i64 k ∧ s = .string t ∧ StrIs t (34 :: hexL (l.take k)) ∧ Below w.heap.size w wr) (fun _ i _ => l.length - (intOf i).toNat)
 case atStart => exact ⟨0, ⟨#[34]⟩, by omega, rfl, rfl, ⟨rfl⟩, Below.refl _ _⟩
 case round =>
  obtain ⟨k, t, hk, rfl, rfl, ht, hb⟩ := hrel
  have hts : t.size ≤ 262144 := ht.le (by rw [List.length_cons, hexL_length, List.length_take]; omega)
  by_cases hlt : k < l.length
  ·obtain ⟨ad, he, hc⟩ := HR.out.at_ k (by omega) (by omega)
   subst he
   have hc2 := (hb.cell (World.block_lt_of_cell? w _ hc)).trans hc
   have hr2 := hr (rd l k) (rd_mem hlt)
   rw [Int.toNat_natCast] at hc hc2
   have hB := Lib.hid hb
   clear hb
   go_wp2_with fail
   refine (extHex_calls _ hr2.1 hr2.2 _).mono ?_
   rintro e w1 ⟨u, rfl, hu, hb1⟩
   have hus : u.size ≤ 2 := hu.le (by simp)
   have hB1 := Lib.hid hb1
   clear hb1
   go_wp2
   go_roundw
   case rel => exact ⟨k + 1, _, by omega, by go_num, rfl, (ht.append hu).cast (by rw [take_succ_rd hlt, hexL_snoc]; rfl), hB.out.trans (hB1.out.mono hB.out.size)⟩
   case measure => simp [intOf]; omega
  ·go_wp2
   go_ret
   exact ⟨_, rfl, (ht.append (v := ⟨#[34]⟩) (b := [34]) ⟨rfl⟩).cast (by rw [List.take_of_length_le (by omega)]; rfl), hb⟩
def b64c (n : Int) : Int := if n < 26 then 65 + n else if n < 52 then 71 + n else if n < 62 then n - 4 else if n < 63 then 43 else 47
def b64L : List Int → List Int
 | [] => []
 | [a] => [b64c (a / 4), b64c (a % 4 * 16), 61, 61]
 | [a, b] => [b64c (a / 4), b64c (a % 4 * 16 + b / 16), b64c (b % 16 * 4), 61]
 | a :: b :: c :: r => b64c (a / 4) :: b64c (a % 4 * 16 + b / 16) :: b64c (b % 16 * 4 + c / 64) :: b64c (c % 64) :: b64L r
theorem b64L_length : ∀ l : List Int, (b64L l).length ≤ 2 * l.length + 4
 | [] => by simp [b64L]
 | [a] => by simp [b64L]
 | [a, b] => by simp [b64L]
 | a :: b :: c :: r => by have := b64L_length r; simp [b64L]; omega
theorem drop_rd {l : List Int} {k : Nat} (h : k < l.length) : l.drop k = rd l (k : Int) :: l.drop (k + 1) := by
 rw [List.drop_eq_getElem_cons h]
 unfold rd
 rw [Int.toNat_natCast, List.getD_eq_getElem?_getD, List.getElem?_eq_getElem h]
 rfl
theorem or256 (x y : Int) (h0 : 0 ≤ x) (h1 : x < 281474976710656) (hy : 0 ≤ y) (hy1 : y < 256) : bits .or .i64 (x * 256) y = x * 256 + y :=
 or_join 8 (x * 256) y (by omega) (by omega) (by omega) hy hy1 (by omega)
theorem and63 (x : Int) (h0 : 0 ≤ x) (h1 : x < 1152921504606846976) : bits .and .i64 x 63 = x % 64 := and_mask 6 (by decide) x h0 h1
theorem b64x_nat : ∀ k : Nat, (h : k < 64) → ((((⟨#[65, 66, 67, 68, 69, 70, 71, 72, 73, 74, 75, 76, 77, 78, 79, 80, 81, 82, 83, 84, 85, 86, 87, 88, 89, 90, 97, 98, 99, 100, 101, 102, 103, 104, 105, 106, 107, 108, 109, 110, 111, 112, 113, 114, 115, 116, 117, 118, 119, 120, 121, 122, 48, 49, 50, 51, 52, 53, 54, 55, 56, 57, 43, 47]⟩ : ByteArray)[k]'h).toNat : Nat) : Int) = b64c k := by decide
theorem b64x (n : Int) (h : n.toNat < 64) (h0 : 0 ≤ n) : ((((⟨#[65, 66, 67, 68, 69, 70, 71, 72, 73, 74, 75, 76, 77, 78, 79, 80, 81, 82, 83, 84, 85, 86, 87, 88, 89, 90, 97, 98, 99, 100, 101, 102, 103, 104, 105, 106, 107, 108, 109, 110, 111, 112, 113, 114, 115, 116, 117, 118, 119, 120, 121, 122, 48, 49, 50, 51, 52, 53, 54, 55, 56, 57, 43, 47]⟩ : ByteArray)[n.toNat]'h).toNat : Nat) : Int) = b64c n := by
 rw [b64x_nat n.toNat h]
 congr 1
 omega
theorem ExtBase64_calls (A : Option Addr) (c : Nat) (l : List Int) (hr : ∀ x ∈ l, 0 ≤ x ∧ x ≤ 255) (hl : l.length ≤ 65536) (w : World) (hR : ReadsInt w .u8 A l.length l) :
  Calls Tryz.prog 53 #[.slice A l.length c] w fun e w' => ∃ u, e = .returned (.string u) ∧ StrIs u (b64L l) ∧ Below w.heap.size w w' := by
 have HR := Lib.hid hR
 clear hR
 go_enter Tryz.func53, Tryz.ntmps53
 go_wp2
 go_loopw [3, 4] (fun o i wr => ∃ (k : Nat) (xs : List Int), 3 * k ≤ l.length + 2 ∧ i = .int .i64 (3 * k : Nat) ∧ Own wr w.heap.size o xs ∧ Hid (xs ++ b64L (l.drop (3 * k)) = b64L l) ∧ xs.length ≤ 4 * k ∧ Below w.heap.size w wr) (fun _ i _ => l.length + 2 - (intOf i).toNat)
 case atStart => exact ⟨0, [], by omega, rfl, own_nil _ _ _ _, rfl, by simp, Below.refl _ _⟩
 case round =>
  obtain ⟨k, xs, hk, rfl, hO, hX, hxl, hb⟩ := hrel
  have HO := Lib.hid hO
  have hB := Lib.hid hb
  clear hO hb
  generalize hm : 3 * k = m at hk hX ⊢
  have hxl2 : xs.length ≤ 400000 := by omega
  have HM := Lib.hid hm
  clear hm
  by_cases hlt : m < l.length
  ·have hd : decide ((m : Int) < l.length) = true := by simp; omega
   obtain ⟨ad, he, hc0⟩ := HR.out.at_ m (by omega) (by omega)
   subst he
   have hc := (hB.out.cell (World.block_lt_of_cell? w _ hc0)).trans hc0
   rw [Int.toNat_natCast] at hc
   clear hc0
   have hra := hr _ (rd_mem hlt)
   have hD1 := drop_rd hlt
   generalize rd l m = a at hc hra hD1
   by_cases h1 : m + 1 < l.length
   ·obtain ⟨ad', he, hc0⟩ := HR.out.at_ (m + 1 : Nat) (by omega) (by omega)
    injection he with he
    subst he
    have hc2 := (hB.out.cell (World.block_lt_of_cell? w _ hc0)).trans hc0
    rw [Int.toNat_natCast, add_pos _ _ (by omega)] at hc2
    clear hc0
    have hrb := hr _ (rd_mem h1)
    have hD2 := drop_rd h1
    generalize rd l (m + 1 : Nat) = b at hc2 hrb hD2
    by_cases h2 : m + 2 < l.length
    ·obtain ⟨ad', he, hc0⟩ := HR.out.at_ (m + 2 : Nat) (by omega) (by omega)
     injection he with he
     subst he
     have hc3 := (hB.out.cell (World.block_lt_of_cell? w _ hc0)).trans hc0
     rw [Int.toNat_natCast, add_pos _ _ (by omega)] at hc3
     clear hc0
     have hrd := hr _ (rd_mem h2)
     have hD3 := drop_rd h2
     generalize rd l (m + 2 : Nat) = d at hc3 hrd hD3
     have e1 : decide ((m : Int) + 1 < l.length) = true := by simp; omega
     have e2 : decide ((m : Int) + 2 < l.length) = true := by simp; omega
     have o1 : bits .or .i64 0 a = a := by have := or256 0 a (by omega) (by omega) (by omega) (by omega); simpa using this
     have o1b := or256 a b (by omega) (by omega) (by omega) (by omega)
     have o1c := or256 (a * 256 + b) d (by omega) (by omega) (by omega) (by omega)
     have o2 := and63 (((a * 256 + b) * 256 + d) / 262144) (by omega) (by omega)
     have o3 := and63 (((a * 256 + b) * 256 + d) / 4096) (by omega) (by omega)
     have o4 := and63 (((a * 256 + b) * 256 + d) / 64) (by omega) (by omega)
     have o5 := and63 ((a * 256 + b) * 256 + d) (by omega) (by omega)
     have hfin : Hid (b64L (l.drop m) = [b64c ((((a * 256 + b) * 256 + d) / 262144) % 64), b64c ((((a * 256 + b) * 256 + d) / 4096) % 64), b64c ((((a * 256 + b) * 256 + d) / 64) % 64), b64c (((a * 256 + b) * 256 + d) % 64)] ++ b64L (l.drop (m + 3))) := by
      show _ = _
      rw [show (((a * 256 + b) * 256 + d) / 262144) % 64 = a / 4 from by omega]
      rw [show (((a * 256 + b) * 256 + d) / 4096) % 64 = a % 4 * 16 + b / 16 from by omega]
      rw [show (((a * 256 + b) * 256 + d) / 64) % 64 = b % 16 * 4 + d / 64 from by omega]
      rw [show ((a * 256 + b) * 256 + d) % 64 = d % 64 from by omega]
      rw [hD1, hD2, hD3]
      rfl
     clear hD1 hD2 hD3
     go_wp2
     refine wp_loop_rounds 4 ?_
     rw [rounds_succ]
     go_wp2
     rw [rounds_succ]
     go_wp2
     rw [rounds_succ]
     go_wp2
     rw [rounds_succ]
     go_wp2
     refine wp_loop_rounds 5 ?_
     rw [rounds_succ]
     go_wp2_with (first | (at_builtin; refine append_lit (w0 := w) w.heap.size rfl (.tmp 48) (.tmp 56) rfl _ _ [_] rfl rfl HO.out hB.out (by exact hB.out.size) (by simp only [List.length_append, List.length_cons, List.length_nil]; omega) ?_; intro v1 w1 n0 n1 _ _; clear HO hB; have HO := Lib.hid n0; have hB := Lib.hid n1; clear n0 n1) | (at_builtin; refine append_lit (w0 := w) w.heap.size rfl (.tmp 45) (.tmp 46) rfl _ _ [_] rfl rfl HO.out hB.out (by exact hB.out.size) (by simp only [List.length_append, List.length_cons, List.length_nil]; omega) ?_; intro v1 w1 n0 n1 _ _; clear HO hB; have HO := Lib.hid n0; have hB := Lib.hid n1; clear n0 n1))
     rw [rounds_succ]
     go_wp2_with (first | (at_builtin; refine append_lit (w0 := w) w.heap.size rfl (.tmp 48) (.tmp 56) rfl _ _ [_] rfl rfl HO.out hB.out (by exact hB.out.size) (by simp only [List.length_append, List.length_cons, List.length_nil]; omega) ?_; intro v1 w1 n0 n1 _ _; clear HO hB; have HO := Lib.hid n0; have hB := Lib.hid n1; clear n0 n1) | (at_builtin; refine append_lit (w0 := w) w.heap.size rfl (.tmp 45) (.tmp 46) rfl _ _ [_] rfl rfl HO.out hB.out (by exact hB.out.size) (by simp only [List.length_append, List.length_cons, List.length_nil]; omega) ?_; intro v1 w1 n0 n1 _ _; clear HO hB; have HO := Lib.hid n0; have hB := Lib.hid n1; clear n0 n1))
     rw [rounds_succ]
     go_wp2_with (first | (at_builtin; refine append_lit (w0 := w) w.heap.size rfl (.tmp 48) (.tmp 56) rfl _ _ [_] rfl rfl HO.out hB.out (by exact hB.out.size) (by simp only [List.length_append, List.length_cons, List.length_nil]; omega) ?_; intro v1 w1 n0 n1 _ _; clear HO hB; have HO := Lib.hid n0; have hB := Lib.hid n1; clear n0 n1) | (at_builtin; refine append_lit (w0 := w) w.heap.size rfl (.tmp 45) (.tmp 46) rfl _ _ [_] rfl rfl HO.out hB.out (by exact hB.out.size) (by simp only [List.length_append, List.length_cons, List.length_nil]; omega) ?_; intro v1 w1 n0 n1 _ _; clear HO hB; have HO := Lib.hid n0; have hB := Lib.hid n1; clear n0 n1))
     rw [rounds_succ]
     go_wp2_with (first | (at_builtin; refine append_lit (w0 := w) w.heap.size rfl (.tmp 48) (.tmp 56) rfl _ _ [_] rfl rfl HO.out hB.out (by exact hB.out.size) (by simp only [List.length_append, List.length_cons, List.length_nil]; omega) ?_; intro v1 w1 n0 n1 _ _; clear HO hB; have HO := Lib.hid n0; have hB := Lib.hid n1; clear n0 n1) | (at_builtin; refine append_lit (w0 := w) w.heap.size rfl (.tmp 45) (.tmp 46) rfl _ _ [_] rfl rfl HO.out hB.out (by exact hB.out.size) (by simp only [List.length_append, List.length_cons, List.length_nil]; omega) ?_; intro v1 w1 n0 n1 _ _; clear HO hB; have HO := Lib.hid n0; have hB := Lib.hid n1; clear n0 n1))
     rw [rounds_succ]
     go_wp2_with (first | (at_builtin; refine append_lit (w0 := w) w.heap.size rfl (.tmp 48) (.tmp 56) rfl _ _ [_] rfl rfl HO.out hB.out (by exact hB.out.size) (by simp only [List.length_append, List.length_cons, List.length_nil]; omega) ?_; intro v1 w1 n0 n1 _ _; clear HO hB; have HO := Lib.hid n0; have hB := Lib.hid n1; clear n0 n1) | (at_builtin; refine append_lit (w0 := w) w.heap.size rfl (.tmp 45) (.tmp 46) rfl _ _ [_] rfl rfl HO.out hB.out (by exact hB.out.size) (by simp only [List.length_append, List.length_cons, List.length_nil]; omega) ?_; intro v1 w1 n0 n1 _ _; clear HO hB; have HO := Lib.hid n0; have hB := Lib.hid n1; clear n0 n1))
     go_roundw
     case rel =>
      have h := HO.out
      rw [b64x ((((a * 256 + b) * 256 + d) / 262144) % 64) (by omega) (by omega)] at h
      rw [b64x ((((a * 256 + b) * 256 + d) / 4096) % 64) (by omega) (by omega)] at h
      rw [b64x ((((a * 256 + b) * 256 + d) / 64) % 64) (by omega) (by omega)] at h
      rw [b64x (((a * 256 + b) * 256 + d) % 64) (by omega) (by omega)] at h
      simp only [List.append_assoc, List.cons_append, List.nil_append] at h
      have hm := HM.out
      refine ⟨k + 1, _, by omega, by congr 1; omega, h, ?_, by simp; omega, hB.out⟩
      show _ = _
      rw [show 3 * (k + 1) = m + 3 by omega, ← hX.out, hfin.out, List.append_assoc]
     case measure => simp [intOf]; omega
    ·have e1 : decide ((m : Int) + 1 < l.length) = true := by simp; omega
     have e2 : ((m : Int) + 2 < l.length) = False := by simp; omega
     have o1 : bits .or .i64 0 a = a := by have := or256 0 a (by omega) (by omega) (by omega) (by omega); simpa using this
     have o1b := or256 a b (by omega) (by omega) (by omega) (by omega)
     have o2 := and63 (((a * 256 + b) * 256) / 262144) (by omega) (by omega)
     have o3 := and63 (((a * 256 + b) * 256) / 4096) (by omega) (by omega)
     have o4 := and63 (((a * 256 + b) * 256) / 64) (by omega) (by omega)
     have hfin : Hid (b64L (l.drop m) = [b64c ((((a * 256 + b) * 256) / 262144) % 64), b64c ((((a * 256 + b) * 256) / 4096) % 64), b64c ((((a * 256 + b) * 256) / 64) % 64), 61] ++ b64L (l.drop (m + 3))) := by
      show _ = _
      rw [show (((a * 256 + b) * 256) / 262144) % 64 = a / 4 from by omega]
      rw [show (((a * 256 + b) * 256) / 4096) % 64 = a % 4 * 16 + b / 16 from by omega]
      rw [show (((a * 256 + b) * 256) / 64) % 64 = b % 16 * 4 from by omega]
      rw [hD1, hD2, List.drop_of_length_le (show l.length ≤ m + 1 + 1 by omega), List.drop_of_length_le (show l.length ≤ m + 3 by omega)]
      rfl
     clear hD1 hD2
     go_wp2
     refine wp_loop_rounds 4 ?_
     rw [rounds_succ]
     go_wp2
     rw [rounds_succ]
     go_wp2
     rw [rounds_succ]
     go_wp2
     rw [rounds_succ]
     go_wp2
     refine wp_loop_rounds 5 ?_
     rw [rounds_succ]
     go_wp2_with (first | (at_builtin; refine append_lit (w0 := w) w.heap.size rfl (.tmp 48) (.tmp 56) rfl _ _ [_] rfl rfl HO.out hB.out (by exact hB.out.size) (by simp only [List.length_append, List.length_cons, List.length_nil]; omega) ?_; intro v1 w1 n0 n1 _ _; clear HO hB; have HO := Lib.hid n0; have hB := Lib.hid n1; clear n0 n1) | (at_builtin; refine append_lit (w0 := w) w.heap.size rfl (.tmp 45) (.tmp 46) rfl _ _ [_] rfl rfl HO.out hB.out (by exact hB.out.size) (by simp only [List.length_append, List.length_cons, List.length_nil]; omega) ?_; intro v1 w1 n0 n1 _ _; clear HO hB; have HO := Lib.hid n0; have hB := Lib.hid n1; clear n0 n1))
     rw [rounds_succ]
     go_wp2_with (first | (at_builtin; refine append_lit (w0 := w) w.heap.size rfl (.tmp 48) (.tmp 56) rfl _ _ [_] rfl rfl HO.out hB.out (by exact hB.out.size) (by simp only [List.length_append, List.length_cons, List.length_nil]; omega) ?_; intro v1 w1 n0 n1 _ _; clear HO hB; have HO := Lib.hid n0; have hB := Lib.hid n1; clear n0 n1) | (at_builtin; refine append_lit (w0 := w) w.heap.size rfl (.tmp 45) (.tmp 46) rfl _ _ [_] rfl rfl HO.out hB.out (by exact hB.out.size) (by simp only [List.length_append, List.length_cons, List.length_nil]; omega) ?_; intro v1 w1 n0 n1 _ _; clear HO hB; have HO := Lib.hid n0; have hB := Lib.hid n1; clear n0 n1))
     rw [rounds_succ]
     go_wp2_with (first | (at_builtin; refine append_lit (w0 := w) w.heap.size rfl (.tmp 48) (.tmp 56) rfl _ _ [_] rfl rfl HO.out hB.out (by exact hB.out.size) (by simp only [List.length_append, List.length_cons, List.length_nil]; omega) ?_; intro v1 w1 n0 n1 _ _; clear HO hB; have HO := Lib.hid n0; have hB := Lib.hid n1; clear n0 n1) | (at_builtin; refine append_lit (w0 := w) w.heap.size rfl (.tmp 45) (.tmp 46) rfl _ _ [_] rfl rfl HO.out hB.out (by exact hB.out.size) (by simp only [List.length_append, List.length_cons, List.length_nil]; omega) ?_; intro v1 w1 n0 n1 _ _; clear HO hB; have HO := Lib.hid n0; have hB := Lib.hid n1; clear n0 n1))
     rw [rounds_succ]
     go_wp2_with (first | (at_builtin; refine append_lit (w0 := w) w.heap.size rfl (.tmp 48) (.tmp 56) rfl _ _ [_] rfl rfl HO.out hB.out (by exact hB.out.size) (by simp only [List.length_append, List.length_cons, List.length_nil]; omega) ?_; intro v1 w1 n0 n1 _ _; clear HO hB; have HO := Lib.hid n0; have hB := Lib.hid n1; clear n0 n1) | (at_builtin; refine append_lit (w0 := w) w.heap.size rfl (.tmp 45) (.tmp 46) rfl _ _ [_] rfl rfl HO.out hB.out (by exact hB.out.size) (by simp only [List.length_append, List.length_cons, List.length_nil]; omega) ?_; intro v1 w1 n0 n1 _ _; clear HO hB; have HO := Lib.hid n0; have hB := Lib.hid n1; clear n0 n1))
     rw [rounds_succ]
     go_wp2_with (first | (at_builtin; refine append_lit (w0 := w) w.heap.size rfl (.tmp 48) (.tmp 56) rfl _ _ [_] rfl rfl HO.out hB.out (by exact hB.out.size) (by simp only [List.length_append, List.length_cons, List.length_nil]; omega) ?_; intro v1 w1 n0 n1 _ _; clear HO hB; have HO := Lib.hid n0; have hB := Lib.hid n1; clear n0 n1) | (at_builtin; refine append_lit (w0 := w) w.heap.size rfl (.tmp 45) (.tmp 46) rfl _ _ [_] rfl rfl HO.out hB.out (by exact hB.out.size) (by simp only [List.length_append, List.length_cons, List.length_nil]; omega) ?_; intro v1 w1 n0 n1 _ _; clear HO hB; have HO := Lib.hid n0; have hB := Lib.hid n1; clear n0 n1))
     go_roundw
     case rel =>
      have h := HO.out
      rw [b64x ((((a * 256 + b) * 256) / 262144) % 64) (by omega) (by omega)] at h
      rw [b64x ((((a * 256 + b) * 256) / 4096) % 64) (by omega) (by omega)] at h
      rw [b64x ((((a * 256 + b) * 256) / 64) % 64) (by omega) (by omega)] at h
      simp only [List.append_assoc, List.cons_append, List.nil_append] at h
      have hm := HM.out
      refine ⟨k + 1, _, by omega, by congr 1; omega, h, ?_, by simp; omega, hB.out⟩
      show _ = _
      rw [show 3 * (k + 1) = m + 3 by omega, ← hX.out, hfin.out, List.append_assoc]
     case measure => simp [intOf]; omega
   ·have e1 : ((m : Int) + 1 < l.length) = False := by simp; omega
    have e2 : ((m : Int) + 2 < l.length) = False := by simp; omega
    have o1 : bits .or .i64 0 a = a := by have := or256 0 a (by omega) (by omega) (by omega) (by omega); simpa using this
    have o2 := and63 ((a * 256 * 256) / 262144) (by omega) (by omega)
    have o3 := and63 ((a * 256 * 256) / 4096) (by omega) (by omega)
    have hfin : Hid (b64L (l.drop m) = [b64c (((a * 256 * 256) / 262144) % 64), b64c (((a * 256 * 256) / 4096) % 64), 61, 61] ++ b64L (l.drop (m + 3))) := by
     show _ = _
     rw [show ((a * 256 * 256) / 262144) % 64 = a / 4 from by omega]
     rw [show ((a * 256 * 256) / 4096) % 64 = a % 4 * 16 from by omega]
     rw [hD1, List.drop_of_length_le (show l.length ≤ m + 1 by omega), List.drop_of_length_le (show l.length ≤ m + 3 by omega)]
     rfl
    clear hD1
    go_wp2
    refine wp_loop_rounds 4 ?_
    rw [rounds_succ]
    go_wp2
    rw [rounds_succ]
    go_wp2
    rw [rounds_succ]
    go_wp2
    rw [rounds_succ]
    go_wp2
    refine wp_loop_rounds 5 ?_
    rw [rounds_succ]
    go_wp2_with (first | (at_builtin; refine append_lit (w0 := w) w.heap.size rfl (.tmp 48) (.tmp 56) rfl _ _ [_] rfl rfl HO.out hB.out (by exact hB.out.size) (by simp only [List.length_append, List.length_cons, List.length_nil]; omega) ?_; intro v1 w1 n0 n1 _ _; clear HO hB; have HO := Lib.hid n0; have hB := Lib.hid n1; clear n0 n1) | (at_builtin; refine append_lit (w0 := w) w.heap.size rfl (.tmp 45) (.tmp 46) rfl _ _ [_] rfl rfl HO.out hB.out (by exact hB.out.size) (by simp only [List.length_append, List.length_cons, List.length_nil]; omega) ?_; intro v1 w1 n0 n1 _ _; clear HO hB; have HO := Lib.hid n0; have hB := Lib.hid n1; clear n0 n1))
    rw [rounds_succ]
    go_wp2_with (first | (at_builtin; refine append_lit (w0 := w) w.heap.size rfl (.tmp 48) (.tmp 56) rfl _ _ [_] rfl rfl HO.out hB.out (by exact hB.out.size) (by simp only [List.length_append, List.length_cons, List.length_nil]; omega) ?_; intro v1 w1 n0 n1 _ _; clear HO hB; have HO := Lib.hid n0; have hB := Lib.hid n1; clear n0 n1) | (at_builtin; refine append_lit (w0 := w) w.heap.size rfl (.tmp 45) (.tmp 46) rfl _ _ [_] rfl rfl HO.out hB.out (by exact hB.out.size) (by simp only [List.length_append, List.length_cons, List.length_nil]; omega) ?_; intro v1 w1 n0 n1 _ _; clear HO hB; have HO := Lib.hid n0; have hB := Lib.hid n1; clear n0 n1))
    rw [rounds_succ]
    go_wp2_with (first | (at_builtin; refine append_lit (w0 := w) w.heap.size rfl (.tmp 48) (.tmp 56) rfl _ _ [_] rfl rfl HO.out hB.out (by exact hB.out.size) (by simp only [List.length_append, List.length_cons, List.length_nil]; omega) ?_; intro v1 w1 n0 n1 _ _; clear HO hB; have HO := Lib.hid n0; have hB := Lib.hid n1; clear n0 n1) | (at_builtin; refine append_lit (w0 := w) w.heap.size rfl (.tmp 45) (.tmp 46) rfl _ _ [_] rfl rfl HO.out hB.out (by exact hB.out.size) (by simp only [List.length_append, List.length_cons, List.length_nil]; omega) ?_; intro v1 w1 n0 n1 _ _; clear HO hB; have HO := Lib.hid n0; have hB := Lib.hid n1; clear n0 n1))
    rw [rounds_succ]
    go_wp2_with (first | (at_builtin; refine append_lit (w0 := w) w.heap.size rfl (.tmp 48) (.tmp 56) rfl _ _ [_] rfl rfl HO.out hB.out (by exact hB.out.size) (by simp only [List.length_append, List.length_cons, List.length_nil]; omega) ?_; intro v1 w1 n0 n1 _ _; clear HO hB; have HO := Lib.hid n0; have hB := Lib.hid n1; clear n0 n1) | (at_builtin; refine append_lit (w0 := w) w.heap.size rfl (.tmp 45) (.tmp 46) rfl _ _ [_] rfl rfl HO.out hB.out (by exact hB.out.size) (by simp only [List.length_append, List.length_cons, List.length_nil]; omega) ?_; intro v1 w1 n0 n1 _ _; clear HO hB; have HO := Lib.hid n0; have hB := Lib.hid n1; clear n0 n1))
    rw [rounds_succ]
    go_wp2_with (first | (at_builtin; refine append_lit (w0 := w) w.heap.size rfl (.tmp 48) (.tmp 56) rfl _ _ [_] rfl rfl HO.out hB.out (by exact hB.out.size) (by simp only [List.length_append, List.length_cons, List.length_nil]; omega) ?_; intro v1 w1 n0 n1 _ _; clear HO hB; have HO := Lib.hid n0; have hB := Lib.hid n1; clear n0 n1) | (at_builtin; refine append_lit (w0 := w) w.heap.size rfl (.tmp 45) (.tmp 46) rfl _ _ [_] rfl rfl HO.out hB.out (by exact hB.out.size) (by simp only [List.length_append, List.length_cons, List.length_nil]; omega) ?_; intro v1 w1 n0 n1 _ _; clear HO hB; have HO := Lib.hid n0; have hB := Lib.hid n1; clear n0 n1))
    go_roundw
    case rel =>
     have h := HO.out
     rw [b64x (((a * 256 * 256) / 262144) % 64) (by omega) (by omega)] at h
     rw [b64x (((a * 256 * 256) / 4096) % 64) (by omega) (by omega)] at h
     simp only [List.append_assoc, List.cons_append, List.nil_append] at h
     have hm := HM.out
     refine ⟨k + 1, _, by omega, by congr 1; omega, h, ?_, by simp; omega, hB.out⟩
     show _ = _
     rw [show 3 * (k + 1) = m + 3 by omega, ← hX.out, hfin.out, List.append_assoc]
    case measure => simp [intOf]; omega
  ·have ho := own_str HO.out
   go_wp2
   go_ret
   refine ⟨_, rfl, ⟨?_⟩, hB.out⟩
   have h := hX.out
   rw [List.drop_of_length_le (by omega)] at h
   rw [← h]
   simp [b64L]
theorem StrIs.bt {u : ByteArray} {l : List Int} (h : StrIs u l) (hr : ∀ x ∈ l, 0 ≤ x ∧ x ≤ 255) (j : Nat) (hj : j < l.length) : bt u j = rd l (j : Int) := by
 have hs : j < u.size := by rw [h.size]; exact hj
 have hx : rd l (j : Int) = l[j] := by
  unfold rd
  rw [Int.toNat_natCast, List.getD_eq_getElem?_getD, List.getElem?_eq_getElem hj]
  rfl
 have hm := hr _ (List.getElem_mem hj)
 rw [← bt_at u j hs, hx]
 have e0 : u[j]'hs = u.data.toList[j]'(by rw [Array.length_toList]; exact hs) := by rw [Array.getElem_toList]; rfl
 have e1 : u.data.toList = l.map fun n => UInt8.ofNat n.toNat := by rw [h.out]; rfl
 have e2 : u.data.toList[j]'(by rw [Array.length_toList]; exact hs) = UInt8.ofNat (l[j]).toNat := by simp [e1]
 rw [e0, e2]
 have : (UInt8.ofNat (l[j]).toNat).toNat = (l[j]).toNat := UInt8.toNat_ofNat_of_lt' (by show _ < 256; omega)
 rw [this]
 omega
inductive VT where
 | mk (kind : Int) (text more : ByteArray) (n bits high : Int) (bA : Option Addr) (bs : List Int) (bc : Nat) (kA : Option Addr) (kids : List (ByteArray × VT)) (kc : Nat) : VT
namespace VT
def kind : VT → Int | mk k _ _ _ _ _ _ _ _ _ _ _ => k
def text : VT → ByteArray | mk _ t _ _ _ _ _ _ _ _ _ _ => t
def more : VT → ByteArray | mk _ _ m _ _ _ _ _ _ _ _ _ => m
def n : VT → Int | mk _ _ _ n _ _ _ _ _ _ _ _ => n
def bits : VT → Int | mk _ _ _ _ b _ _ _ _ _ _ _ => b
def high : VT → Int | mk _ _ _ _ _ h _ _ _ _ _ _ => h
def bA : VT → Option Addr | mk _ _ _ _ _ _ a _ _ _ _ _ => a
def bs : VT → List Int | mk _ _ _ _ _ _ _ b _ _ _ _ => b
def bc : VT → Nat | mk _ _ _ _ _ _ _ _ c _ _ _ => c
def kA : VT → Option Addr | mk _ _ _ _ _ _ _ _ _ a _ _ => a
def kids : VT → List (ByteArray × VT) | mk _ _ _ _ _ _ _ _ _ _ k _ => k
def kc : VT → Nat | mk _ _ _ _ _ _ _ _ _ _ _ c => c
def cells (t : VT) : List Value := [.int .i64 t.kind, .string t.text, .string t.more, .int .i64 t.n, .int .u64 t.bits, .int .u64 t.high, .slice t.bA t.bs.length t.bc, .slice t.kA t.kids.length t.kc]
def val (t : VT) : Value := .agg #[.int .i64 t.kind, .string t.text, .string t.more, .int .i64 t.n, .int .u64 t.bits, .int .u64 t.high, .slice t.bA t.bs.length t.bc, .slice t.kA t.kids.length t.kc]
def In (w : World) : Nat → VT → Prop
 | 0, _ => True
 | d + 1, t => (-9223372036854775808 ≤ t.kind ∧ t.kind ≤ 9223372036854775807) ∧ (-9223372036854775808 ≤ t.n ∧ t.n ≤ 9223372036854775807) ∧ (0 ≤ t.bits ∧ t.bits < 18446744073709551616) ∧ (0 ≤ t.high ∧ t.high < 18446744073709551616) ∧
   t.text.size ≤ maxLen ∧ t.more.size ≤ maxLen ∧ ReadsInt w .u8 t.bA t.bs.length t.bs ∧ t.bs.length ≤ t.bc ∧ (∀ x ∈ t.bs, 0 ≤ x ∧ x ≤ 255) ∧ t.kids.length ≤ t.kc ∧ t.kc ≤ maxLen ∧
   (0 < t.kids.length → ∃ ad, t.kA = some ad ∧ ∀ i (h : i < t.kids.length), w.cell? (ad.add (9 * i)) = some (.string t.kids[i].1) ∧ t.kids[i].1.size ≤ maxLen ∧
    (∀ j (hj : j < 8), w.cell? (ad.add (9 * i + 1 + j)) = some (t.kids[i].2.cells[j]'(by simpa [cells] using hj))) ∧ In w d t.kids[i].2)
theorem In.below {w w' : World} (hb : Below w.heap.size w w') : ∀ (d : Nat) (t : VT), In w d t → In w' d t := by
 intro d
 induction d with
 | zero => intro t _; trivial
 | succ d ih =>
  intro t h
  obtain ⟨h1, h2, h3, h4, h5, h6, h7, h8, h9, h10, h11, h12⟩ := h
  refine ⟨h1, h2, h3, h4, h5, h6, h7.below hb, h8, h9, h10, h11, fun hk => ?_⟩
  obtain ⟨ad, ha, hc⟩ := h12 hk
  refine ⟨ad, ha, fun i hi => ?_⟩
  obtain ⟨c1, c2, c3, c4⟩ := hc i hi
  exact ⟨pw_cell_below hb c1, c2, fun j hj => pw_cell_below hb (c3 j hj), ih _ c4⟩
def Few : Nat → VT → Prop
 | 0, _ => False
 | e + 1, t => t.kids.length ≤ 300 ∧ ∀ i (h : i < t.kids.length), Few e t.kids[i].2
theorem add_block (ad : Addr) (n : Nat) : (ad.add n).block = ad.block := by unfold Addr.add; split <;> rfl
theorem add_off (ad : Addr) (n : Nat) : (ad.add n).off = ad.off + n := by unfold Addr.add; split <;> simp_all
theorem kid {w wr : World} {d k : Nat} {ad : Addr} {kids : List (ByteArray × VT)} (hb : Below w.heap.size w wr) (hk : k < kids.length)
  (H : ∀ i (h : i < kids.length), w.cell? (ad.add (9 * i)) = some (.string kids[i].1) ∧ kids[i].1.size ≤ maxLen ∧
    (∀ j (hj : j < 8), w.cell? (ad.add (9 * i + 1 + j)) = some (kids[i].2.cells[j]'(by simpa [cells] using hj))) ∧ In w d kids[i].2) :
  ∃ (p : Addr) (name : ByteArray) (t : VT), ad.add (k * 9) = p ∧ kids[k] = (name, t) ∧ name.size ≤ maxLen ∧ In wr d t ∧ p.block < w.heap.size ∧ wr.cell? p = some (.string name) ∧
   wr.cell? ⟨p.block, p.off + 1, none⟩ = some (.int .i64 t.kind) ∧ wr.cell? ⟨p.block, p.off + 2, none⟩ = some (.string t.text) ∧ wr.cell? ⟨p.block, p.off + 3, none⟩ = some (.string t.more) ∧
   wr.cell? ⟨p.block, p.off + 4, none⟩ = some (.int .i64 t.n) ∧ wr.cell? ⟨p.block, p.off + 5, none⟩ = some (.int .u64 t.bits) ∧ wr.cell? ⟨p.block, p.off + 6, none⟩ = some (.int .u64 t.high) ∧
   wr.cell? ⟨p.block, p.off + 7, none⟩ = some (.slice t.bA t.bs.length t.bc) ∧ wr.cell? ⟨p.block, p.off + 8, none⟩ = some (.slice t.kA t.kids.length t.kc) := by
 obtain ⟨h1, h2, h3, h4⟩ := H k hk
 have e0 : 9 * k = k * 9 := Nat.mul_comm _ _
 rw [e0] at h1
 have hj : ∀ j (hj : j < 8), wr.cell? ⟨(ad.add (k * 9)).block, (ad.add (k * 9)).off + (j + 1), none⟩ = some (kids[k].2.cells[j]'(by simpa [cells] using hj)) := by
  intro j hj
  have := pw_cell_below hb (h3 j hj)
  rw [add_pos ad _ (by omega)] at this
  rw [add_block, add_off]
  rw [show ad.off + k * 9 + (j + 1) = ad.off + (9 * k + 1 + j) by omega]
  exact this
 have hbl : (ad.add (k * 9)).block < w.heap.size := World.block_lt_of_cell? w _ h1
 exact ⟨_, _, _, rfl, rfl, h2, h4.below hb, hbl, pw_cell_below hb h1, hj 0 (by omega), hj 1 (by omega), hj 2 (by omega), hj 3 (by omega), hj 4 (by omega), hj 5 (by omega), hj 6 (by omega), hj 7 (by omega)⟩
end VT
open Go.RowKit
open Go.Proofs.YtkeakdjbidbegaaGreatDoorW.PrintWords
structure Keeps (B : Nat) (S : List Nat) (w w' : World) : Prop where
 os : w'.os = w.os
 tape : w'.tape = w.tape
 output : w'.output = w.output
 size : w.heap.size ≤ w'.heap.size
 block : ∀ k, k < B → k ∉ S → w'.heap[k]? = w.heap[k]?
namespace Keeps
variable {B : Nat} {S : List Nat} {a b c w w' : World}
theorem refl (B : Nat) (S : List Nat) (w : World) : Keeps B S w w := ⟨rfl, rfl, rfl, Nat.le_refl _, fun _ _ _ => rfl⟩
theorem trans (h : Keeps B S a b) (k : Keeps B S b c) : Keeps B S a c :=
 ⟨k.os.trans h.os, k.tape.trans h.tape, k.output.trans h.output, Nat.le_trans h.size k.size, fun i hi hs => (k.block i hi hs).trans (h.block i hi hs)⟩
theorem mono {B' : Nat} {S' : List Nat} (h : Keeps B S w w') (hB : B' ≤ B) (hs : ∀ s ∈ S, s < B' → s ∈ S') : Keeps B' S' w w' :=
 ⟨h.os, h.tape, h.output, h.size, fun k hk hn => h.block k (by omega) (fun hm => hn (hs k hm hk))⟩
theorem ofBelow (h : Below B w w') : Keeps B S w w' := ⟨h.os, h.tape, h.output, h.size, fun k hk _ => h.block k hk⟩
theorem below {B' : Nat} (h : Keeps B S w w') (hB : B' ≤ B) (hs : ∀ s ∈ S, B' ≤ s) : Below B' w w' :=
 ⟨h.os, h.tape, h.output, h.size, fun k hk => h.block k (by omega) (fun hm => by have := hs k hm; omega)⟩
theorem then_below (h : Keeps B S a b) (k : Below B b c) : Keeps B S a c := h.trans (ofBelow k)
theorem alloc (h : Keeps B S a w) (hB : B ≤ w.heap.size) (o : Obj) : Keeps B S a (w.alloc o) := h.then_below ((Below.refl _ _).alloc hB o)
theorem drew (h : Keeps B S a w) : Keeps B S a w.drew := h.then_below (Below.refl _ _).drew
theorem drewN (h : Keeps B S a w) (n : Nat) : Keeps B S a (w.drewN n) := h.then_below (pw_below_drewN (Below.refl _ _) n)
theorem setCell (h : Keeps B S a w) {p : Addr} (hp : p.block ∈ S ∨ B ≤ p.block) (u : Value) : Keeps B S a (w.setCell p u) :=
 h.trans ⟨rfl, rfl, rfl, by simp [World.setCell], fun k hk hn => Below.heap_setCell _ _ _ _ (by rintro rfl; rcases hp with hp | hp; exact hn hp; omega)⟩
theorem cell (h : Keeps B S w w') {p : Addr} (hp : p.block < B) (hn : p.block ∉ S) : w'.cell? p = w.cell? p := World.cell?_of_block (w := w) (h.block p.block hp hn)
theorem frozen (h : Keeps B S w w') {p : Addr} (hp : p.block < B) (hn : p.block ∉ S) : w'.frozen? p = w.frozen? p := World.frozen?_of_block (w := w) (h.block p.block hp hn)
theorem owns {base : Nat} {e : TypeId} {size : Nat} {v : Value} {n : Nat} {xs : List Value} (h : Keeps B S w w') (ho : w.ownsRow base e size v n xs) (hv : ∀ g, v.ownBlock = some g → g < B ∧ g ∉ S) : w'.ownsRow base e size v n xs := by
 refine ⟨ho.1, ?_⟩
 rcases ho.2 with hn | ⟨g, cap, cur, rfl, hb, hgg, rest⟩
 ·exact .inl hn
 ·obtain ⟨g1, g2⟩ := hv g rfl
  exact .inr ⟨g, cap, cur, rfl, hb, (h.block g g1 g2).trans hgg, rest⟩
end Keeps
structure Sty (w0 : World) (S : Nat) (cA : Option Addr) (cs : List Int) (cc : Nat) (w : World) : Prop where
 base : w0.heap.size ≤ S
 below : Below w0.heap.size w0 w
 code : ReadsInt w0 .u8 cA cs.length cs
 range : ∀ x ∈ cs, 0 ≤ x ∧ x ≤ 255
 len : cs.length ≤ cc
 cap : cc ≤ maxLen
 size : S < w.heap.size
 c0 : w.cell? ⟨S, 0, none⟩ = some (.slice cA cs.length cc)
 c1 : ∃ at_ : Nat, at_ ≤ cs.length ∧ w.cell? ⟨S, 1, none⟩ = some (.int .i64 at_)
 c2 : w.cell? ⟨S, 2, none⟩ = some (.bool false)
 c3 : w.cell? ⟨S, 3, none⟩ = some (.bool false)
 fr : ∀ o, w.frozen? ⟨S, o, none⟩ = false
theorem Sty.keeps {w0 : World} {S : Nat} {cA : Option Addr} {cs : List Int} {cc : Nat} {w w' : World} (h : Sty w0 S cA cs cc w) {B : Nat} (k : Below B w w') (hB : S < B) : Sty w0 S cA cs cc w' where
 base := h.base
 below := h.below.trans (k.mono (by have := h.base; omega))
 code := h.code
 range := h.range
 len := h.len
 cap := h.cap
 size := Nat.lt_of_lt_of_le h.size k.size
 c0 := (k.cell (p := ⟨S, 0, none⟩) hB).trans h.c0
 c1 := by
  obtain ⟨a, h1, h2⟩ := h.c1
  exact ⟨a, h1, (k.cell (p := ⟨S, 1, none⟩) hB).trans h2⟩
 c2 := (k.cell (p := ⟨S, 2, none⟩) hB).trans h.c2
 c3 := (k.cell (p := ⟨S, 3, none⟩) hB).trans h.c3
 fr := fun o => (k.frozen (p := ⟨S, o, none⟩) hB).trans (h.fr o)
end Go.Proofs.YtkeakdjbidbegaaGreatDoor
