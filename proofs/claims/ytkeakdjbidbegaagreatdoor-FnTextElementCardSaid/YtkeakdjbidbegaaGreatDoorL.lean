/- A part of the proof that laws.FnTextElement returns true at every input: Bld, Dec8, Esc. -/
import Derived.Test.YtkeakdjbidbegaaGreatDoorB
import Derived.Test.YtkeakdjbidbegaaGreatDoorG
import Derived.Test.YtkeakdjbidbegaaGreatDoorA
import Derived.Shelf.Strings.Builder1
import Derived.Shelf.Spec.BuilderWrite
set_option linter.unusedSimpArgs false
set_option linter.unusedVariables false
set_option maxRecDepth 100000
set_option maxHeartbeats 8000000
namespace Go.Proofs.YtkeakdjbidbegaaGreatDoor
open Go.RowKit
open Go.Proofs.YtkeakdjbidbegaaGreatDoorW.PrintWords
def layB240_ren : Go.Shelf.Ren := ⟨fun | 240 => 61 | 276 => 107 | n => n, fun | 0 => 0 | 3 => 3 | 4 => 4 | 5 => 5 | 9 => 9 | 20 => 20 | 37 => 23 | 70 => 56 | 72 => 58 | 75 => 60 | 80 => 43 | 164 => 145 | n => n, fun | n => n⟩
theorem layB240 : Go.Proofs.Lays.n240 Tryz.prog layB240_ren := {
 mixed := by kernel_rfl
 f240 := Tryz.func61.trans (congrArg some (by kernel_rfl))
 f276 := Tryz.func107.trans (congrArg some (by kernel_rfl))
 t0 := Tryz.underlying0
 a0 := Tryz.isAgg0
 z0 := Tryz.sizeOf0
 v0 := Tryz.zeroValue0
 t4 := Tryz.underlying4
 a4 := Tryz.isAgg4
 z4 := Tryz.sizeOf4
 v4 := Tryz.zeroValue4
 t9 := Tryz.underlying9
 a9 := Tryz.isAgg9
 z9 := Tryz.sizeOf9
 v9 := Tryz.zeroValue9
 t20 := Tryz.underlying20
 a20 := Tryz.isAgg20
 z20 := Tryz.sizeOf20
 v20 := Tryz.zeroValue20
 t70 := Tryz.underlying56
 a70 := Tryz.isAgg56
 z70 := Tryz.sizeOf56
 v70 := Tryz.zeroValue56
 t72 := Tryz.underlying58
 a72 := Tryz.isAgg58
 z72 := Tryz.sizeOf58
 v72 := Tryz.zeroValue58
 t164 := Tryz.underlying145
 a164 := Tryz.isAgg145
 z164 := Tryz.sizeOf145
 v164 := Tryz.zeroValue145 }
def layB167_ren : Go.Shelf.Ren := ⟨fun | 167 => 28 | 240 => 61 | 276 => 107 | n => n, fun | 0 => 0 | 3 => 3 | 4 => 4 | 5 => 5 | 9 => 9 | 20 => 20 | 37 => 23 | 70 => 56 | 72 => 58 | 75 => 60 | 80 => 43 | 164 => 145 | n => n, fun | n => n⟩
theorem layB167 : Go.Proofs.Lays.n167 Tryz.prog layB167_ren := {
 mixed := by kernel_rfl
 f167 := Tryz.func28.trans (congrArg some (by kernel_rfl))
 f240 := Tryz.func61.trans (congrArg some (by kernel_rfl))
 f276 := Tryz.func107.trans (congrArg some (by kernel_rfl))
 t0 := Tryz.underlying0
 a0 := Tryz.isAgg0
 z0 := Tryz.sizeOf0
 v0 := Tryz.zeroValue0
 t4 := Tryz.underlying4
 a4 := Tryz.isAgg4
 z4 := Tryz.sizeOf4
 v4 := Tryz.zeroValue4
 t5 := Tryz.underlying5
 a5 := Tryz.isAgg5
 z5 := Tryz.sizeOf5
 v5 := Tryz.zeroValue5
 t9 := Tryz.underlying9
 a9 := Tryz.isAgg9
 z9 := Tryz.sizeOf9
 v9 := Tryz.zeroValue9
 t20 := Tryz.underlying20
 a20 := Tryz.isAgg20
 z20 := Tryz.sizeOf20
 v20 := Tryz.zeroValue20
 t37 := Tryz.underlying23
 a37 := Tryz.isAgg23
 z37 := Tryz.sizeOf23
 v37 := Tryz.zeroValue23
 t70 := Tryz.underlying56
 a70 := Tryz.isAgg56
 z70 := Tryz.sizeOf56
 v70 := Tryz.zeroValue56
 t72 := Tryz.underlying58
 a72 := Tryz.isAgg58
 z72 := Tryz.sizeOf58
 v72 := Tryz.zeroValue58
 t75 := Tryz.underlying60
 a75 := Tryz.isAgg60
 z75 := Tryz.sizeOf60
 v75 := Tryz.zeroValue60
 t164 := Tryz.underlying145
 a164 := Tryz.isAgg145
 z164 := Tryz.sizeOf145
 v164 := Tryz.zeroValue145 }
def layB166_ren : Go.Shelf.Ren := ⟨fun | 166 => 31 | 240 => 61 | 276 => 107 | n => n, fun | 0 => 0 | 3 => 3 | 4 => 4 | 5 => 5 | 9 => 9 | 20 => 20 | 37 => 23 | 70 => 56 | 72 => 58 | 75 => 60 | 80 => 43 | 164 => 145 | n => n, fun | n => n⟩
theorem layB166 : Go.Proofs.Lays.n166 Tryz.prog layB166_ren := {
 mixed := by kernel_rfl
 f166 := Tryz.func31.trans (congrArg some (by kernel_rfl))
 f240 := Tryz.func61.trans (congrArg some (by kernel_rfl))
 f276 := Tryz.func107.trans (congrArg some (by kernel_rfl))
 t0 := Tryz.underlying0
 a0 := Tryz.isAgg0
 z0 := Tryz.sizeOf0
 v0 := Tryz.zeroValue0
 t3 := Tryz.underlying3
 a3 := Tryz.isAgg3
 z3 := Tryz.sizeOf3
 v3 := Tryz.zeroValue3
 t4 := Tryz.underlying4
 a4 := Tryz.isAgg4
 z4 := Tryz.sizeOf4
 v4 := Tryz.zeroValue4
 t9 := Tryz.underlying9
 a9 := Tryz.isAgg9
 z9 := Tryz.sizeOf9
 v9 := Tryz.zeroValue9
 t20 := Tryz.underlying20
 a20 := Tryz.isAgg20
 z20 := Tryz.sizeOf20
 v20 := Tryz.zeroValue20
 t37 := Tryz.underlying23
 a37 := Tryz.isAgg23
 z37 := Tryz.sizeOf23
 v37 := Tryz.zeroValue23
 t70 := Tryz.underlying56
 a70 := Tryz.isAgg56
 z70 := Tryz.sizeOf56
 v70 := Tryz.zeroValue56
 t72 := Tryz.underlying58
 a72 := Tryz.isAgg58
 z72 := Tryz.sizeOf58
 v72 := Tryz.zeroValue58
 t75 := Tryz.underlying60
 a75 := Tryz.isAgg60
 z75 := Tryz.sizeOf60
 v75 := Tryz.zeroValue60
 t164 := Tryz.underlying145
 a164 := Tryz.isAgg145
 z164 := Tryz.sizeOf145
 v164 := Tryz.zeroValue145 }
def layB35_ren : Go.Shelf.Ren := ⟨fun | 35 => 30 | 52 => 61 | 59 => 107 | n => n, fun | 0 => 0 | 3 => 3 | 4 => 4 | 9 => 9 | 20 => 20 | 30 => 23 | 36 => 56 | 38 => 60 | 89 => 43 | 59 => 58 | 73 => 145 | 5 => 5 | n => n, fun | n => n⟩
theorem layB35 : Go.Proofs.Lays7.n35 Tryz.prog layB35_ren := {
 mixed := by kernel_rfl
 f35 := Tryz.func30.trans (congrArg some (by kernel_rfl))
 f52 := Tryz.func61.trans (congrArg some (by kernel_rfl))
 f59 := Tryz.func107.trans (congrArg some (by kernel_rfl))
 t0 := Tryz.underlying0
 a0 := Tryz.isAgg0
 z0 := Tryz.sizeOf0
 v0 := Tryz.zeroValue0
 i0 := by kernel_rfl
 t3 := Tryz.underlying3
 a3 := Tryz.isAgg3
 z3 := Tryz.sizeOf3
 v3 := Tryz.zeroValue3
 i3 := by kernel_rfl
 t4 := Tryz.underlying4
 a4 := Tryz.isAgg4
 z4 := Tryz.sizeOf4
 v4 := Tryz.zeroValue4
 i4 := by kernel_rfl
 t9 := Tryz.underlying9
 a9 := Tryz.isAgg9
 z9 := Tryz.sizeOf9
 v9 := Tryz.zeroValue9
 i9 := by kernel_rfl
 t20 := Tryz.underlying20
 a20 := Tryz.isAgg20
 z20 := Tryz.sizeOf20
 v20 := Tryz.zeroValue20
 i20 := by kernel_rfl
 t30 := Tryz.underlying23
 a30 := Tryz.isAgg23
 z30 := Tryz.sizeOf23
 v30 := Tryz.zeroValue23
 i30 := by kernel_rfl
 t36 := Tryz.underlying56
 a36 := Tryz.isAgg56
 z36 := Tryz.sizeOf56
 v36 := Tryz.zeroValue56
 i36 := by kernel_rfl
 t38 := Tryz.underlying60
 a38 := Tryz.isAgg60
 z38 := Tryz.sizeOf60
 v38 := Tryz.zeroValue60
 i38 := by kernel_rfl
 t59 := Tryz.underlying58
 a59 := Tryz.isAgg58
 z59 := Tryz.sizeOf58
 v59 := Tryz.zeroValue58
 i59 := by kernel_rfl
 t73 := Tryz.underlying145
 a73 := Tryz.isAgg145
 z73 := Tryz.sizeOf145
 v73 := Tryz.zeroValue145
 i73 := by kernel_rfl }
theorem layB240_X : Go.Proofs.Builder.Extra Tryz.prog layB240_ren where
 sizeBuilder := by kernel_rfl
 liesBuilder := by kernel_rfl
 t5 := Tryz.underlying5
 a5 := Tryz.isAgg5
 z5 := Tryz.sizeOf5
 v5 := Tryz.zeroValue5
 infoByte := by kernel_rfl
 cellsByte := by kernel_rfl
 sizeByte := by kernel_rfl
 neB5 := by decide
theorem layB167_X : Go.Proofs.Builder.Extra Tryz.prog layB167_ren where
 sizeBuilder := by kernel_rfl
 liesBuilder := by kernel_rfl
 t5 := Tryz.underlying5
 a5 := Tryz.isAgg5
 z5 := Tryz.sizeOf5
 v5 := Tryz.zeroValue5
 infoByte := by kernel_rfl
 cellsByte := by kernel_rfl
 sizeByte := by kernel_rfl
 neB5 := by decide
theorem layB166_X : Go.Proofs.Builder.Extra Tryz.prog layB166_ren where
 sizeBuilder := by kernel_rfl
 liesBuilder := by kernel_rfl
 t5 := Tryz.underlying5
 a5 := Tryz.isAgg5
 z5 := Tryz.sizeOf5
 v5 := Tryz.zeroValue5
 infoByte := by kernel_rfl
 cellsByte := by kernel_rfl
 sizeByte := by kernel_rfl
 neB5 := by decide
def toB (l : List Int) : List UInt8 := l.map fun n => UInt8.ofNat n.toNat
theorem toB_append (a b : List Int) : toB (a ++ b) = toB a ++ toB b := List.map_append
theorem toB_length (l : List Int) : (toB l).length = l.length := List.length_map _
theorem strCells_of {s : ByteArray} {l : List Int} (h : StrIs s l) : Lib.strCells s = Lib.byteCells (toB l) := by
 rw [h.out]
 unfold Lib.strCells Lib.byteCells toB
 rw [strOfNums_data]
def Bld (B b : Nat) (l : List Int) (w : World) : Prop := Lib.IsBuilder 58 5 B b (Lib.byteCells (toB l)) w
theorem Bld.fresh (w : World) : Bld w.heap.size w.heap.size [] (w.alloc (.cells #[.pointer none, .slice none 0 0] 58)) := Lib.fresh_isBuilder _ _ w
theorem Bld.lt {B b : Nat} {l : List Int} {w : World} (h : Bld B b l w) : B ≤ b ∧ b < w.heap.size := by
 rcases h with h | h
 ·exact ⟨h.1, h.lt⟩
 ·exact ⟨h.1, h.lt⟩
theorem at_keeps {B b : Nat} {p : Value} {bs : List Value} {w w' : World} (h : Lib.BuilderAt 58 5 B b p bs w) (k : Below w.heap.size w w') : Lib.BuilderAt 58 5 B b p bs w' := by
 have hlt := h.lt
 obtain ⟨hB, v, hbk, hown, hne⟩ := h
 have kk : Keeps w.heap.size [] w w' := Keeps.ofBelow k
 refine ⟨hB, v, (kk.block b hlt (by simp)).trans hbk, kk.owns hown (fun g hg => ?_), hne⟩
 rcases hown.2 with ⟨rfl, _⟩ | ⟨g', cap, cur, rfl, hb, hgg, _⟩
 ·cases hg
 ·obtain rfl : g' = g := Option.some.inj hg
  refine ⟨?_, by simp⟩
  by_cases hh : g' < w.heap.size
  ·exact hh
  ·rw [Array.getElem?_eq_none (by omega)] at hgg; cases hgg
theorem Bld.old {B b : Nat} {l : List Int} {w w' : World} (h : Bld B b l w) (k : Below w.heap.size w w') : Bld B b l w' := by
 rcases h with h | h
 ·exact .inl (at_keeps h k)
 ·exact .inr (at_keeps h k)
theorem Bld.byte {B b : Nat} {l : List Int} {w : World} (h : Bld B b l w) (c : Int) (h0 : 0 ≤ c) (h1 : c ≤ 255) (hl : l.length + 1 ≤ 140737488355328) (hB : B ≤ w.heap.size) :
  Calls Tryz.prog 28 #[.pointer (some ⟨b, 0, none⟩), .int .u8 c] w fun e w' => e = .returned .nilIface ∧ Bld B b (l ++ [c]) w' ∧ Below B w w' :=
 (Any.Builder_WriteByte layB167 layB167_X B b _ c w h (by rw [Lib.byteCells_length, toB_length]; exact hl) hB).mono fun e w' ⟨he, hb, hw⟩ => ⟨he, .inr (by
  have e1 : Lib.byteCells (toB l) ++ [Value.int .u8 c] = Lib.byteCells (toB (l ++ [c])) := by
   rw [toB_append, Lib.byteCells_append]
   congr 1
   show [Value.int .u8 c] = [Value.int .u8 ((UInt8.ofNat c.toNat).toNat : Int)]
   rw [UInt8.toNat_ofNat_of_lt' (by show _ < 256; omega)]
   congr 2
   omega
  rw [e1] at hb
  exact hb), hw⟩
theorem Bld.str {B b : Nat} {l : List Int} {w : World} (h : Bld B b l w) {s : ByteArray} {m : List Int} (hs : StrIs s m) (hl : l.length + m.length ≤ 140737488355328) (hB : B ≤ w.heap.size) :
  Calls Tryz.prog 31 #[.pointer (some ⟨b, 0, none⟩), .string s] w fun e w' => e = .returned (.tuple #[.int .i64 s.size, .nilIface]) ∧ Bld B b (l ++ m) w' ∧ Below B w w' :=
 (Any.Builder_WriteString layB166 layB166_X B b _ s w h (by rw [Lib.byteCells_length, toB_length, hs.size]; exact hl) hB).mono fun e w' ⟨he, hb, hw⟩ => ⟨he, .inr (by
  rw [strCells_of hs, ← Lib.byteCells_append, ← toB_append] at hb
  exact hb), hw⟩
theorem Bld.write {B b : Nat} {l : List Int} {w : World} (h : Bld B b l w) {A : Option Addr} {m : List Int} {c : Nat} (hR : ReadsInt w .u8 A m.length m) (hr : ∀ x ∈ m, 0 ≤ x ∧ x ≤ 255) (h0 : 0 < m.length) (hA : ∀ ad, A = some ad → ad.block < B)
  (hl : l.length + m.length ≤ 140737488355328) (hB : B ≤ w.heap.size) :
  Calls Tryz.prog 30 #[.pointer (some ⟨b, 0, none⟩), .slice A m.length c] w fun e w' => e = .returned (.tuple #[.int .i64 m.length, .nilIface]) ∧ Bld B b (l ++ m) w' ∧ Below B w w' := by
 obtain ⟨ad, rfl, hc⟩ := hR.2.2 h0
 refine (Any7.Builder_Write layB35 layB240 layB240_X rfl rfl rfl B b _ ad m.length c (Lib.byteCells (toB m)) w h (by rw [Lib.byteCells_length, toB_length]) (fun j u hj => ?_) (hA ad rfl) (fun u hu => ?_) (by rw [Lib.byteCells_length, toB_length]; exact hl) hB).mono fun e w' ⟨he, hb, hw⟩ => ⟨he, .inr (by
  rw [← Lib.byteCells_append, ← toB_append] at hb
  exact hb), hw⟩
 ·have hjl : j < m.length := by
   have := (List.getElem?_eq_some_iff.1 hj).1
   rwa [Lib.byteCells_length, toB_length] at this
  have := hc j hjl
  rw [this]
  rw [← hj]
  unfold Lib.byteCells toB
  rw [List.getElem?_map, List.getElem?_map, List.getElem?_eq_getElem hjl]
  have hm := hr _ (List.getElem_mem hjl)
  simp only [Option.map_some]
  rw [UInt8.toNat_ofNat_of_lt' (by show _ < 256; omega), List.getD_eq_getElem?_getD, List.getElem?_eq_getElem hjl]
  simp only [Option.getD_some]
  congr 2
  omega
 ·unfold Lib.byteCells at hu
  obtain ⟨y, _, rfl⟩ := List.mem_map.1 hu
  rfl
theorem Bld.len {B b : Nat} {l : List Int} {w : World} (h : Bld B b l w) :
  Calls Tryz.prog 29 #[.pointer (some ⟨b, 0, none⟩)] w fun e w' => e = .returned (.int .i64 l.length) ∧ w' = w := by
 have := Tryz.Builder_Len B b _ w h
 rw [Lib.byteCells_length, toB_length] at this
 exact this
theorem Bld.string {B b : Nat} {l : List Int} {w : World} (h : Bld B b l w) (hB : B ≤ w.heap.size) :
  Calls Tryz.prog 32 #[.pointer (some ⟨b, 0, none⟩)] w fun e w' => e = .returned (.string (strOfNums l)) ∧ Below B w w' :=
 Tryz.Builder_String_any B b (toB l) w h hB
theorem get_bt (s : ByteArray) (j : Nat) : ((s.get! j).toNat : Int) = bt s j := by
 unfold bt
 by_cases h : j < s.size
 ·rw [dif_pos h]
  have e : s.get! j = s[j]'h := by
   simp [ByteArray.get!, getElem!_pos, h]
   rfl
  rw [e]
 ·rw [dif_neg h]
  have e : s.get! j = 0 := by
   obtain ⟨d⟩ := s
   have hd : ¬ j < d.size := h
   show d[j]! = 0
   rw [getElem!_neg d j hd]
   rfl
  rw [e]
  rfl
theorem decode_rune {s : ByteArray} {k : Nat} (h : (runeF (fun j => bt s (k + j)) (s.size - k)).1 ≠ 0) :
  ((Utf8.decode s k).1 : Int) = (runeF (fun j => bt s (k + j)) (s.size - k)).2 ∧ ((Utf8.decode s k).2 : Int) = (runeF (fun j => bt s (k + j)) (s.size - k)).1 := by
 have g0 := get_bt s (k + 0)
 have g1 := get_bt s (k + 1)
 have g2 := get_bt s (k + 2)
 have g3 := get_bt s (k + 3)
 have r0 := bt_range s (k + 0)
 have r1 := bt_range s (k + 1)
 have r2 := bt_range s (k + 2)
 have r3 := bt_range s (k + 3)
 unfold runeF at h ⊢
 unfold Utf8.decode
 by_cases hs : s.size - k = 0
 ·rw [if_pos hs] at h; exact absurd rfl h
 rw [if_neg hs] at h ⊢
 simp only at h ⊢
 by_cases h1 : bt s (k + 0) < 128
 ·rw [if_pos h1, if_pos (by omega)]
  exact ⟨g0, rfl⟩
 rw [if_neg h1] at h ⊢
 rw [if_neg (show ¬ (s.get! (k + 0)).toNat < 128 by omega)]
 have tail : ∀ (n : Nat) (m least : Int), (runeTail (fun j => bt s (k + j)) (s.size - k) n m least).1 ≠ 0 → n ≤ s.size - k ∧ (∀ j, 1 ≤ j → j < n → bt s (k + j) / 64 = 2) ∧ least ≤ accR (fun j => bt s (k + j)) m n ∧ accR (fun j => bt s (k + j)) m n ≤ 1114111 ∧ ¬ (55296 ≤ accR (fun j => bt s (k + j)) m n ∧ accR (fun j => bt s (k + j)) m n < 57344) ∧ runeTail (fun j => bt s (k + j)) (s.size - k) n m least = ((n : Int), accR (fun j => bt s (k + j)) m n) := by
  intro n m least ht
  unfold runeTail at ht ⊢
  by_cases c1 : s.size - k < n
  ·rw [if_pos c1] at ht; exact absurd rfl ht
  rw [if_neg c1] at ht ⊢
  by_cases c2 : (List.range n).all (fun j => j == 0 || bt s (k + j) / 64 == 2) = true
  ·rw [if_pos c2] at ht ⊢
   by_cases c3 : accR (fun j => bt s (k + j)) m n < least ∨ 1114111 < accR (fun j => bt s (k + j)) m n ∨ (55296 ≤ accR (fun j => bt s (k + j)) m n ∧ accR (fun j => bt s (k + j)) m n < 57344)
   ·rw [if_pos c3] at ht; exact absurd rfl ht
   ·rw [if_neg c3]
    exact ⟨by omega, fun j a b => all_iff.1 c2 j a b, by omega, by omega, by omega, rfl⟩
  ·rw [if_neg c2] at ht; exact absurd rfl ht
 by_cases h2 : 194 ≤ bt s (k + 0) ∧ bt s (k + 0) < 224
 ·rw [if_pos h2] at h ⊢
  obtain ⟨t1, t2, t3, t4, t5, t6⟩ := tail _ _ _ h
  have u1 := t2 1 (by omega) (by omega)
  have hacc : accR (fun j => bt s (k + j)) (bt s (k + 0) % 32) 2 = bt s (k + 0) % 32 * 64 + bt s (k + 1) % 64 := rfl
  rw [hacc] at t3 t4 t5 t6
  have b1 : ((s.get! (k + 0)).toNat / 32 == 6 && (decide (k + 1 < s.size) && (s.get! (k + 1)).toNat / 64 == 2)) = true := by
   simp only [Bool.and_eq_true, beq_iff_eq, decide_eq_true_eq]
   omega
  rw [if_pos b1, if_pos (by omega), t6]
  exact ⟨by show (((s.get! (k + 0)).toNat % 32 * 64 + (s.get! (k + 1)).toNat % 64 : Nat) : Int) = _; omega, rfl⟩
 rw [if_neg h2] at h ⊢
 by_cases h3 : 224 ≤ bt s (k + 0) ∧ bt s (k + 0) < 240
 ·rw [if_pos h3] at h ⊢
  obtain ⟨t1, t2, t3, t4, t5, t6⟩ := tail _ _ _ h
  have u1 := t2 1 (by omega) (by omega)
  have u2 := t2 2 (by omega) (by omega)
  have hacc : accR (fun j => bt s (k + j)) (bt s (k + 0) % 16) 3 = (bt s (k + 0) % 16 * 64 + bt s (k + 1) % 64) * 64 + bt s (k + 2) % 64 := rfl
  rw [hacc] at t3 t4 t5 t6
  have b1 : ((s.get! (k + 0)).toNat / 32 == 6 && (decide (k + 1 < s.size) && (s.get! (k + 1)).toNat / 64 == 2)) = false := by
   rw [Bool.and_eq_false_iff]; left; rw [beq_eq_false_iff_ne]; omega
  have b2 : ((s.get! (k + 0)).toNat / 16 == 14 && (decide (k + 1 < s.size) && (s.get! (k + 1)).toNat / 64 == 2) && (decide (k + 2 < s.size) && (s.get! (k + 2)).toNat / 64 == 2)) = true := by
   simp only [Bool.and_eq_true, beq_iff_eq, decide_eq_true_eq]
   omega
  have b3 : ((s.get! (k + 0)).toNat % 16 * 4096 + (s.get! (k + 1)).toNat % 64 * 64 + (s.get! (k + 2)).toNat % 64 : Nat) ≥ 2048 ∧ Utf8.valid (((s.get! (k + 0)).toNat % 16 * 4096 + (s.get! (k + 1)).toNat % 64 * 64 + (s.get! (k + 2)).toNat % 64 : Nat) : Int) = true := by
   refine ⟨by omega, ?_⟩
   unfold Utf8.valid
   simp only [Bool.or_eq_true, Bool.and_eq_true, decide_eq_true_eq]
   omega
  rw [b1, if_neg (by decide), if_pos b2, if_pos (by simp only [Bool.and_eq_true, decide_eq_true_eq]; exact b3), t6]
  exact ⟨by show (((s.get! (k + 0)).toNat % 16 * 4096 + (s.get! (k + 1)).toNat % 64 * 64 + (s.get! (k + 2)).toNat % 64 : Nat) : Int) = _; omega, rfl⟩
 rw [if_neg h3] at h ⊢
 by_cases h4 : 240 ≤ bt s (k + 0) ∧ bt s (k + 0) < 245
 ·rw [if_pos h4] at h ⊢
  obtain ⟨t1, t2, t3, t4, t5, t6⟩ := tail _ _ _ h
  have u1 := t2 1 (by omega) (by omega)
  have u2 := t2 2 (by omega) (by omega)
  have u3 := t2 3 (by omega) (by omega)
  have hacc : accR (fun j => bt s (k + j)) (bt s (k + 0) % 8) 4 = ((bt s (k + 0) % 8 * 64 + bt s (k + 1) % 64) * 64 + bt s (k + 2) % 64) * 64 + bt s (k + 3) % 64 := rfl
  rw [hacc] at t3 t4 t5 t6
  have b1 : ((s.get! (k + 0)).toNat / 32 == 6 && (decide (k + 1 < s.size) && (s.get! (k + 1)).toNat / 64 == 2)) = false := by
   rw [Bool.and_eq_false_iff]; left; rw [beq_eq_false_iff_ne]; omega
  have b2 : ((s.get! (k + 0)).toNat / 16 == 14 && (decide (k + 1 < s.size) && (s.get! (k + 1)).toNat / 64 == 2) && (decide (k + 2 < s.size) && (s.get! (k + 2)).toNat / 64 == 2)) = false := by
   rw [Bool.and_eq_false_iff]; left; rw [Bool.and_eq_false_iff]; left; rw [beq_eq_false_iff_ne]; omega
  have b3 : ((s.get! (k + 0)).toNat / 8 == 30 && (decide (k + 1 < s.size) && (s.get! (k + 1)).toNat / 64 == 2) && (decide (k + 2 < s.size) && (s.get! (k + 2)).toNat / 64 == 2) && (decide (k + 3 < s.size) && (s.get! (k + 3)).toNat / 64 == 2)) = true := by
   simp only [Bool.and_eq_true, beq_iff_eq, decide_eq_true_eq]
   omega
  have b4 : ((s.get! (k + 0)).toNat % 8 * 262144 + (s.get! (k + 1)).toNat % 64 * 4096 + (s.get! (k + 2)).toNat % 64 * 64 + (s.get! (k + 3)).toNat % 64 : Nat) ≥ 65536 ∧ Utf8.valid (((s.get! (k + 0)).toNat % 8 * 262144 + (s.get! (k + 1)).toNat % 64 * 4096 + (s.get! (k + 2)).toNat % 64 * 64 + (s.get! (k + 3)).toNat % 64 : Nat) : Int) = true := by
   refine ⟨by omega, ?_⟩
   unfold Utf8.valid
   simp only [Bool.or_eq_true, Bool.and_eq_true, decide_eq_true_eq]
   omega
  rw [b1, if_neg (by decide), b2, if_neg (by decide), if_pos b3, if_pos (by simp only [Bool.and_eq_true, decide_eq_true_eq]; exact b4), t6]
  exact ⟨by show (((s.get! (k + 0)).toNat % 8 * 262144 + (s.get! (k + 1)).toNat % 64 * 4096 + (s.get! (k + 2)).toNat % 64 * 64 + (s.get! (k + 3)).toNat % 64 : Nat) : Int) = _; omega, rfl⟩
 rw [if_neg h4] at h
 exact absurd rfl h
def Buf (b : Nat) (l : List Int) (w : World) : Prop := Lib.IsBuffer 151 5 b b (Lib.byteCells (toB l)) w
theorem one_bytes (l : List Int) : ∀ v ∈ Lib.byteCells (toB l), v.oneCell' = true := by
 intro v hv
 unfold Lib.byteCells at hv
 obtain ⟨y, _, rfl⟩ := List.mem_map.1 hv
 rfl
theorem cells_snoc (l : List Int) {c : Int} (h0 : 0 ≤ c) (h1 : c ≤ 255) : Lib.byteCells (toB l) ++ [Value.int .u8 c] = Lib.byteCells (toB (l ++ [c])) := by
 rw [toB_append, Lib.byteCells_append]
 congr 1
 show [Value.int .u8 c] = [Value.int .u8 ((UInt8.ofNat c.toNat).toNat : Int)]
 rw [UInt8.toNat_ofNat_of_lt' (by show _ < 256; omega)]
 congr 2
 omega
theorem Buf.byte {b : Nat} {l : List Int} {w : World} (h : Buf b l w) (c : Int) (h0 : 0 ≤ c) (h1 : c ≤ 255) (hl : l.length + 1 ≤ 140737488355328) (hB : b ≤ w.heap.size) :
  Calls Tryz.prog 110 #[.pointer (some ⟨b, 0, none⟩), .int .u8 c] w fun e w' => e = .returned .nilIface ∧ Buf b (l ++ [c]) w' ∧ Below b w w' := by
 refine (Tryz.Buffer_WriteByte_k b b _ c w h hB (one_bytes l) (by rw [Lib.byteCells_length, toB_length]; exact hl)).mono ?_
 rintro e w' ⟨he, hb, hw, _⟩
 refine ⟨he, ?_, hw⟩
 rw [cells_snoc l h0 h1] at hb
 exact hb
theorem Buf.str {b : Nat} {l : List Int} {w : World} (h : Buf b l w) {s : ByteArray} {m : List Int} (hs : StrIs s m) (hl : l.length + m.length ≤ 140737488355328) (hB : b ≤ w.heap.size) :
  Calls Tryz.prog 111 #[.pointer (some ⟨b, 0, none⟩), .string s] w fun e w' => (∃ v, e = .returned v) ∧ Buf b (l ++ m) w' ∧ Below b w w' := by
 refine (Tryz.Buffer_WriteString_k b b _ s w h hB (one_bytes l) (by rw [Lib.byteCells_length, toB_length, hs.size]; exact hl)).mono ?_
 rintro e w' ⟨he, hb, hw, _⟩
 refine ⟨⟨_, he⟩, ?_, hw⟩
 have e1 : Lib.byteCells s.data.toList = Lib.byteCells (toB m) := strCells_of hs
 rw [e1, ← Lib.byteCells_append, ← toB_append] at hb
 exact hb
theorem Buf.string {b : Nat} {l : List Int} {w : World} (h : Buf b l w) :
  Calls Tryz.prog 113 #[.pointer (some ⟨b, 0, none⟩)] w fun e w' => e = .returned (.string (strOfNums l)) ∧ ∃ n, w' = w.drewN n :=
 Tryz.Buffer_String b b (toB l) w h
theorem Buf.fresh (w : World) : ∀ o, o = Obj.cells #[.slice none 0 0, .int .i64 0, .int .i8 0] 151 → Buf w.heap.size [] (w.alloc o) := by
 intro o ho
 subst ho
 exact Lib.fresh_isBuffer _ _ w
def safeF (q : Nat) : Bool := decide (32 ≤ q ∧ q ≠ 34 ∧ q ≠ 38 ∧ q ≠ 60 ∧ q ≠ 62 ∧ q ≠ 92)
structure EscEnv (w : World) : Prop where
 tab : ∀ q, q < 128 → w.cell? ⟨2, q, none⟩ = some (.bool (safeF q))
 utf : Lib.Utf8Tabs 6 7 w
theorem EscEnv.below {w w' : World} (h : EscEnv w) (k : Below w.heap.size w w') : EscEnv w' := by
 have hc : ∀ {g o : Nat} {v : Value}, w.cell? ⟨g, o, none⟩ = some v → w'.cell? ⟨g, o, none⟩ = some v := fun {g o v} hv => (k.cell (p := ⟨g, o, none⟩) (World.block_lt_of_cell? w _ hv)).trans hv
 exact ⟨fun q hq => hc (h.tab q hq), fun c hcc => hc (h.utf.1 c hcc), fun i hi => ⟨hc (h.utf.2 i hi).1, hc (h.utf.2 i hi).2⟩⟩
structure EscInv (s : ByteArray) (l : List Int) (st i f : Nat) : Prop where
 out : l ++ (((bytesOf s).drop st).take (i - st) ++ extStrL s true f i) = 34 :: extStrL s true (s.size + 1) 0
 utf : utf8L (bt s) s.size f i = true
theorem EscInv.step {s : ByteArray} {l : List Int} {st i f : Nat} (h : EscInv s l st i (f + 1)) (hst : st ≤ i) (hi : i < s.size) :
  ∃ (n : Nat) (c : Int), runeF (fun j => bt s (i + j)) (s.size - i) = ((n : Int), c) ∧ 1 ≤ n ∧ n ≤ 4 ∧ i + n ≤ s.size ∧
   (escC true c (((bytesOf s).drop i).take n) = ((bytesOf s).drop i).take n → EscInv s l st (i + n) f) ∧
   (∀ e, escC true c (((bytesOf s).drop i).take n) = e → EscInv s (l ++ ((bytesOf s).drop st).take (i - st) ++ e) (i + n) (i + n) f) := by
 have hu := h.utf
 unfold utf8L at hu
 rw [if_pos hi] at hu
 have h0 : (runeF (fun j => bt s (i + j)) (s.size - i)).1 ≠ 0 := by
  intro h0
  rw [if_pos h0] at hu
  cases hu
 rw [if_neg h0] at hu
 obtain ⟨n, a1, a2, a3, a4, _⟩ := rune_at hi h0
 have ho := h.out
 obtain ⟨T, hT⟩ : ∃ T, 34 :: extStrL s true (s.size + 1) 0 = T := ⟨_, rfl⟩
 rw [hT] at ho
 unfold extStrL at ho
 rw [if_pos hi] at ho
 rw [a4, Int.toNat_natCast, bytes_extract, Nat.add_sub_cancel_left] at ho
 rw [a4, Int.toNat_natCast] at hu
 refine ⟨n, _, Prod.ext a4 rfl, a1, a2, a3, fun he => ⟨?_, hu⟩, fun e he => ⟨?_, hu⟩⟩
 ·rw [he] at ho
  rw [hT, ← ho]
  congr 1
  rw [← List.append_assoc]
  congr 1
  rw [show i + n - st = (i - st) + n by omega, List.take_add, List.drop_drop, show st + (i - st) = i by omega]
 ·rw [he] at ho
  rw [hT, ← ho, Nat.sub_self, List.take_zero]
  simp only [List.append_assoc, List.nil_append]
theorem raw_one {s : ByteArray} {i : Nat} (hi : i < s.size) : ((bytesOf s).drop i).take 1 = [bt s i] := by
 have hl : i < (bytesOf s).length := by rw [bytesOf_length]; exact hi
 rw [List.drop_eq_getElem_cons hl, List.take_succ_cons, List.take_zero, ← rn_lt hl, rn_bytes]
theorem strIs_mid (s : ByteArray) (a b : Nat) : StrIs (s.extract a b) (((bytesOf s).drop a).take (b - a)) := (strIs_bytes s).extract a b
theorem rune_low {s : ByteArray} {i n : Nat} {c : Int} (hi : i < s.size) (hr : runeF (fun j => bt s (i + j)) (s.size - i) = ((n : Int), c)) (h : bt s i < 128) : n = 1 ∧ c = bt s i := by
 unfold runeF at hr
 rw [if_neg (by omega)] at hr
 simp only [Nat.add_zero] at hr
 rw [if_pos h] at hr
 have := Prod.mk.inj hr
 exact ⟨by omega, by omega⟩
theorem rune_high {s : ByteArray} {i n : Nat} {c : Int} (hi : i < s.size) (hr : runeF (fun j => bt s (i + j)) (s.size - i) = ((n : Int), c)) (hn : 1 ≤ n) (h : ¬ bt s i < 128) : 2 ≤ n ∧ 128 ≤ c := by
 have h0 : (runeF (fun j => bt s (i + j)) (s.size - i)).1 ≠ 0 := by rw [hr]; show (n : Int) ≠ 0; omega
 have hz : ∀ (k : Nat) (m least : Int), 128 ≤ least → 2 ≤ k → (runeTail (fun j => bt s (i + j)) (s.size - i) k m least) = ((n : Int), c) → 2 ≤ n ∧ 128 ≤ c := by
  intro k m least hl hk ht
  unfold runeTail at ht
  split at ht
  ·have := Prod.mk.inj ht; omega
  split at ht
  ·split at ht
   ·have := Prod.mk.inj ht; omega
   ·have := Prod.mk.inj ht; omega
  ·have := Prod.mk.inj ht; omega
 unfold runeF at hr
 rw [if_neg (by omega)] at hr
 simp only [Nat.add_zero] at hr
 rw [if_neg h] at hr
 split at hr
 ·exact hz _ _ _ (by omega) (by omega) hr
 split at hr
 ·exact hz _ _ _ (by omega) (by omega) hr
 split at hr
 ·exact hz _ _ _ (by omega) (by omega) hr
 ·have := Prod.mk.inj hr; omega
theorem buf_old {b : Nat} {l : List Int} {w w' : World} (h : Buf b l w) (k : Below w.heap.size w w') : Buf b l w' := by
 have hlt := h.lt
 obtain ⟨hB, v, lr, hbk, hown, hne⟩ := h
 have kk : Keeps w.heap.size [] w w' := Keeps.ofBelow k
 refine ⟨hB, v, lr, (kk.block b hlt (by simp)).trans hbk, kk.owns hown (fun g hg => ?_), hne⟩
 rcases hown.2 with ⟨rfl, _⟩ | ⟨g', cap, cur, rfl, hb, hgg, _⟩
 ·cases hg
 ·obtain rfl : g' = g := Option.some.inj hg
  refine ⟨?_, by simp⟩
  by_cases hh : g' < w.heap.size
  ·exact hh
  ·rw [Array.getElem?_eq_none (by omega)] at hgg; cases hgg
theorem escapeString_calls (s : ByteArray) (hs : s.size ≤ 400) (hv : utf8F s = true) (w : World) (hE : EscEnv w) :
  Calls Tryz.prog 65 #[.string s] w fun e w' => ∃ u, e = .returned (.string u) ∧ StrIs u (extStrF s true) ∧ Below w.heap.size w w' := by
 have HE : Hid (∀ W, Below w.heap.size w W → EscEnv W) := fun W h => hE.below h
 have HV := Lib.hid hv
 have HRL : Hid (∀ a b, b ≤ s.size → (((bytesOf s).drop a).take (b - a)).length = b - a) := fun a b h => by rw [List.length_take, List.length_drop, bytesOf_length]; omega
 clear hE hv
 go_enter Tryz.func65, Tryz.ntmps65
 go_wp2_with fail
 refine ((Buf.fresh w _ rfl).byte 34 (by omega) (by omega) (by simp) (by simp)).mono ?_
 rintro e w1 ⟨rfl, hbuf, hw⟩
 have HB : Hid (Below w.heap.size w w1) := ((Below.refl _ _).alloc (Nat.le_refl _) _).trans (hw.mono (Nat.le_refl _))
 have HBUF := Lib.hid hbuf
 have HBB : Hid (w.heap.size ≤ w1.heap.size) := HB.out.size
 clear hbuf hw
 go_wp2_with fail
 go_loopw [5, 6] (fun a b wr => ∃ (st i f : Nat) (l : List Int), st ≤ i ∧ i ≤ s.size ∧ s.size < i + f ∧ a = .int .i64 st ∧ b = .int .i64 i ∧ Hid (EscInv s l st i f) ∧ Hid (Buf w.heap.size l wr) ∧ Hid (l.length + (i - st) ≤ 6 * i + 1) ∧ Hid (Below w.heap.size w wr) ∧ Hid (w.heap.size ≤ wr.heap.size)) (fun _ b _ => s.size - (intOf b).toNat)
 case atStart => exact ⟨0, 0, s.size + 1, [34], by omega, by omega, by omega, rfl, rfl, ⟨rfl, HV.out⟩, HBUF.out, by show _ ≤ _; simp, HB.out, HBB.out⟩
 case round =>
  obtain ⟨st, i, f, l, hst, hi, hf, rfl, rfl, HINV, HBUF, HLN0, HB, HBB⟩ := hrel
  have HBS : Hid (w.heap.size ≤ w.heap.size) := Nat.le_refl _
  have HLN : Hid (l.length + (((bytesOf s).drop st).take (i - st)).length ≤ 6 * i + 1 ∧ i ≤ 400) := by rw [HRL.out st i hi]; exact ⟨HLN0.out, by omega⟩
  have HRI : Hid ((((bytesOf s).drop st).take (i - st)).length = i - st) := HRL.out st i hi
  clear HLN0
  by_cases hlt : i < s.size
  ·obtain ⟨f, rfl⟩ : ∃ m, f = m + 1 := ⟨f - 1, by omega⟩
   have hd' : decide ((i : Int) < s.size) = true := decide_eq_true (by omega)
   obtain ⟨n, c, hr, hn1, hn4, hin, hplain, hesc⟩ := HINV.out.step hst hlt
   have hat := bt_at s i hlt
   have hbr := bt_range s i
   by_cases hlow : bt s i < 128
   ·obtain ⟨rfl, rfl⟩ := rune_low hlt hr hlow
    rw [raw_one hlt] at hplain hesc
    obtain ⟨q, hq⟩ : ∃ q : Nat, bt s i = q := ⟨(bt s i).toNat, by omega⟩
    rw [hq] at hat hbr hlow hplain hesc
    have hq2 : q < 128 := by omega
    have d1 : decide ((q : Int) < 128) = true := decide_eq_true hlow
    have htab := (HE.out _ HB.out).tab q hq2
    have HPL := Lib.hid hplain
    have HES := Lib.hid hesc
    clear hr hplain hesc hq hlow HINV
    cases hsafe : safeF q with
    | true =>
     rw [hsafe] at htab
     have HINV : Hid (EscInv s l st (i + 1) f) := HPL.out (by
      simp only [safeF, decide_eq_true_eq] at hsafe
      unfold escC
      rw [if_neg (by omega), if_neg (by omega), if_neg (by omega), if_neg (by omega), if_neg (by omega), if_neg (by omega), if_neg (by simp <;> omega), if_neg (by omega)])
     clear HPL HES hsafe
     go_wp2_with fail
     exact ⟨⟨st, i + 1, f, l, by omega, by omega, by omega, rfl, rfl, HINV.out, HBUF.out, by show _ ≤ _; have := HLN.out; rw [HRI.out] at this; omega, HB.out, HBB.out⟩, by simp [intOf] <;> omega⟩
    | false =>
     rw [hsafe] at htab
     by_cases k92 : q = 92
     ·subst k92
      have HINV : Hid (EscInv s (l ++ ((bytesOf s).drop st).take (i - st) ++ [92, 92]) (i + 1) (i + 1) f) := HES.out [92, 92] (by unfold escC; simp)
      clear HPL HES
      by_cases hfl : st < i
      ·have df : decide ((st : Int) < i) = true := decide_eq_true (by omega)
       go_wp2_with fail
       refine (HBUF.out.str (strIs_mid s st i) (by have := HLN.out; (try simp only [List.length_append, List.length_cons, List.length_nil]); omega) HBB.out).mono ?_
       rintro e v3 ⟨⟨vv, rfl⟩, hbuf, hw⟩
       have HB2 := Lib.hid (HB.out.trans (hw.mono HBS.out))
       have HBB2 : Hid (w.heap.size ≤ v3.heap.size) := Nat.le_trans HBB.out hw.size
       clear HB HBB HBUF
       have HB := HB2
       have HBB := HBB2
       have HBUF := Lib.hid hbuf
       clear HB2 HBB2 hbuf hw
       go_wp2_with fail
       refine (HBUF.out.byte (92) (by omega) (by omega) (by have := HLN.out; (try simp only [List.length_append, List.length_cons, List.length_nil]); omega) HBB.out).mono ?_
       rintro e v1 ⟨rfl, hbuf, hw⟩
       have HB2 := Lib.hid (HB.out.trans (hw.mono HBS.out))
       have HBB2 : Hid (w.heap.size ≤ v1.heap.size) := Nat.le_trans HBB.out hw.size
       clear HB HBB HBUF
       have HB := HB2
       have HBB := HBB2
       have HBUF := Lib.hid hbuf
       clear HB2 HBB2 hbuf hw
       go_wp2_with fail
       refine (HBUF.out.byte (92) (by omega) (by omega) (by have := HLN.out; (try simp only [List.length_append, List.length_cons, List.length_nil]); omega) HBB.out).mono ?_
       rintro e v2 ⟨rfl, hbuf, hw⟩
       have HB2 := Lib.hid (HB.out.trans (hw.mono HBS.out))
       have HBB2 : Hid (w.heap.size ≤ v2.heap.size) := Nat.le_trans HBB.out hw.size
       clear HB HBB HBUF
       have HB := HB2
       have HBB := HBB2
       have HBUF := Lib.hid hbuf
       clear HB2 HBB2 hbuf hw
       have HBUF2 : Hid (Buf w.heap.size (l ++ ((bytesOf s).drop st).take (i - st) ++ [92, 92]) v2) := by show Buf _ _ _; have := HBUF.out; simp only [List.append_assoc, List.cons_append, List.nil_append] at this ⊢; exact this
       clear HBUF
       have HBUF := HBUF2
       clear HBUF2
       go_wp2_with fail
       exact ⟨⟨i + 1, i + 1, f, _, by omega, by omega, by omega, rfl, rfl, HINV.out, HBUF.out, by show _ ≤ _; have := HLN.out; simp only [List.length_append, List.length_cons, List.length_nil]; omega, HB.out, HBB.out⟩, by simp [intOf] <;> omega⟩
      ·obtain rfl : st = i := by omega
       have df : decide ((st : Int) < st) = false := decide_eq_false (by omega)
       have HBUF2 : Hid (Buf w.heap.size (l ++ ((bytesOf s).drop st).take (st - st)) wr) := by show Buf _ _ _; rw [Nat.sub_self, List.take_zero, List.append_nil]; exact HBUF.out
       clear HBUF
       have HBUF := HBUF2
       clear HBUF2
       go_wp2_with fail
       refine (HBUF.out.byte (92) (by omega) (by omega) (by have := HLN.out; (try simp only [List.length_append, List.length_cons, List.length_nil]); omega) HBB.out).mono ?_
       rintro e v1 ⟨rfl, hbuf, hw⟩
       have HB2 := Lib.hid (HB.out.trans (hw.mono HBS.out))
       have HBB2 : Hid (w.heap.size ≤ v1.heap.size) := Nat.le_trans HBB.out hw.size
       clear HB HBB HBUF
       have HB := HB2
       have HBB := HBB2
       have HBUF := Lib.hid hbuf
       clear HB2 HBB2 hbuf hw
       go_wp2_with fail
       refine (HBUF.out.byte (92) (by omega) (by omega) (by have := HLN.out; (try simp only [List.length_append, List.length_cons, List.length_nil]); omega) HBB.out).mono ?_
       rintro e v2 ⟨rfl, hbuf, hw⟩
       have HB2 := Lib.hid (HB.out.trans (hw.mono HBS.out))
       have HBB2 : Hid (w.heap.size ≤ v2.heap.size) := Nat.le_trans HBB.out hw.size
       clear HB HBB HBUF
       have HB := HB2
       have HBB := HBB2
       have HBUF := Lib.hid hbuf
       clear HB2 HBB2 hbuf hw
       have HBUF2 : Hid (Buf w.heap.size (l ++ ((bytesOf s).drop st).take (st - st) ++ [92, 92]) v2) := by show Buf _ _ _; have := HBUF.out; simp only [List.append_assoc, List.cons_append, List.nil_append] at this ⊢; exact this
       clear HBUF
       have HBUF := HBUF2
       clear HBUF2
       go_wp2_with fail
       exact ⟨⟨st + 1, st + 1, f, _, by omega, by omega, by omega, rfl, rfl, HINV.out, HBUF.out, by show _ ≤ _; have := HLN.out; simp only [List.length_append, List.length_cons, List.length_nil]; omega, HB.out, HBB.out⟩, by simp [intOf] <;> omega⟩
     have f92 : ((q : Int) == 92) = false := beq_eq_false_iff_ne.2 (by omega)
     by_cases k34 : q = 34
     ·subst k34
      have HINV : Hid (EscInv s (l ++ ((bytesOf s).drop st).take (i - st) ++ [92, 34]) (i + 1) (i + 1) f) := HES.out [92, 34] (by unfold escC; simp)
      clear HPL HES
      by_cases hfl : st < i
      ·have df : decide ((st : Int) < i) = true := decide_eq_true (by omega)
       go_wp2_with fail
       refine (HBUF.out.str (strIs_mid s st i) (by have := HLN.out; (try simp only [List.length_append, List.length_cons, List.length_nil]); omega) HBB.out).mono ?_
       rintro e v6 ⟨⟨vv, rfl⟩, hbuf, hw⟩
       have HB2 := Lib.hid (HB.out.trans (hw.mono HBS.out))
       have HBB2 : Hid (w.heap.size ≤ v6.heap.size) := Nat.le_trans HBB.out hw.size
       clear HB HBB HBUF
       have HB := HB2
       have HBB := HBB2
       have HBUF := Lib.hid hbuf
       clear HB2 HBB2 hbuf hw
       go_wp2_with fail
       refine (HBUF.out.byte (92) (by omega) (by omega) (by have := HLN.out; (try simp only [List.length_append, List.length_cons, List.length_nil]); omega) HBB.out).mono ?_
       rintro e v4 ⟨rfl, hbuf, hw⟩
       have HB2 := Lib.hid (HB.out.trans (hw.mono HBS.out))
       have HBB2 : Hid (w.heap.size ≤ v4.heap.size) := Nat.le_trans HBB.out hw.size
       clear HB HBB HBUF
       have HB := HB2
       have HBB := HBB2
       have HBUF := Lib.hid hbuf
       clear HB2 HBB2 hbuf hw
       go_wp2_with fail
       refine (HBUF.out.byte (34) (by omega) (by omega) (by have := HLN.out; (try simp only [List.length_append, List.length_cons, List.length_nil]); omega) HBB.out).mono ?_
       rintro e v5 ⟨rfl, hbuf, hw⟩
       have HB2 := Lib.hid (HB.out.trans (hw.mono HBS.out))
       have HBB2 : Hid (w.heap.size ≤ v5.heap.size) := Nat.le_trans HBB.out hw.size
       clear HB HBB HBUF
       have HB := HB2
       have HBB := HBB2
       have HBUF := Lib.hid hbuf
       clear HB2 HBB2 hbuf hw
       have HBUF2 : Hid (Buf w.heap.size (l ++ ((bytesOf s).drop st).take (i - st) ++ [92, 34]) v5) := by show Buf _ _ _; have := HBUF.out; simp only [List.append_assoc, List.cons_append, List.nil_append] at this ⊢; exact this
       clear HBUF
       have HBUF := HBUF2
       clear HBUF2
       go_wp2_with fail
       exact ⟨⟨i + 1, i + 1, f, _, by omega, by omega, by omega, rfl, rfl, HINV.out, HBUF.out, by show _ ≤ _; have := HLN.out; simp only [List.length_append, List.length_cons, List.length_nil]; omega, HB.out, HBB.out⟩, by simp [intOf] <;> omega⟩
      ·obtain rfl : st = i := by omega
       have df : decide ((st : Int) < st) = false := decide_eq_false (by omega)
       have HBUF2 : Hid (Buf w.heap.size (l ++ ((bytesOf s).drop st).take (st - st)) wr) := by show Buf _ _ _; rw [Nat.sub_self, List.take_zero, List.append_nil]; exact HBUF.out
       clear HBUF
       have HBUF := HBUF2
       clear HBUF2
       go_wp2_with fail
       refine (HBUF.out.byte (92) (by omega) (by omega) (by have := HLN.out; (try simp only [List.length_append, List.length_cons, List.length_nil]); omega) HBB.out).mono ?_
       rintro e v4 ⟨rfl, hbuf, hw⟩
       have HB2 := Lib.hid (HB.out.trans (hw.mono HBS.out))
       have HBB2 : Hid (w.heap.size ≤ v4.heap.size) := Nat.le_trans HBB.out hw.size
       clear HB HBB HBUF
       have HB := HB2
       have HBB := HBB2
       have HBUF := Lib.hid hbuf
       clear HB2 HBB2 hbuf hw
       go_wp2_with fail
       refine (HBUF.out.byte (34) (by omega) (by omega) (by have := HLN.out; (try simp only [List.length_append, List.length_cons, List.length_nil]); omega) HBB.out).mono ?_
       rintro e v5 ⟨rfl, hbuf, hw⟩
       have HB2 := Lib.hid (HB.out.trans (hw.mono HBS.out))
       have HBB2 : Hid (w.heap.size ≤ v5.heap.size) := Nat.le_trans HBB.out hw.size
       clear HB HBB HBUF
       have HB := HB2
       have HBB := HBB2
       have HBUF := Lib.hid hbuf
       clear HB2 HBB2 hbuf hw
       have HBUF2 : Hid (Buf w.heap.size (l ++ ((bytesOf s).drop st).take (st - st) ++ [92, 34]) v5) := by show Buf _ _ _; have := HBUF.out; simp only [List.append_assoc, List.cons_append, List.nil_append] at this ⊢; exact this
       clear HBUF
       have HBUF := HBUF2
       clear HBUF2
       go_wp2_with fail
       exact ⟨⟨st + 1, st + 1, f, _, by omega, by omega, by omega, rfl, rfl, HINV.out, HBUF.out, by show _ ≤ _; have := HLN.out; simp only [List.length_append, List.length_cons, List.length_nil]; omega, HB.out, HBB.out⟩, by simp [intOf] <;> omega⟩
     have f34 : ((q : Int) == 34) = false := beq_eq_false_iff_ne.2 (by omega)
     by_cases k10 : q = 10
     ·subst k10
      have HINV : Hid (EscInv s (l ++ ((bytesOf s).drop st).take (i - st) ++ [92, 110]) (i + 1) (i + 1) f) := HES.out [92, 110] (by unfold escC; simp)
      clear HPL HES
      by_cases hfl : st < i
      ·have df : decide ((st : Int) < i) = true := decide_eq_true (by omega)
       go_wp2_with fail
       refine (HBUF.out.str (strIs_mid s st i) (by have := HLN.out; (try simp only [List.length_append, List.length_cons, List.length_nil]); omega) HBB.out).mono ?_
       rintro e v9 ⟨⟨vv, rfl⟩, hbuf, hw⟩
       have HB2 := Lib.hid (HB.out.trans (hw.mono HBS.out))
       have HBB2 : Hid (w.heap.size ≤ v9.heap.size) := Nat.le_trans HBB.out hw.size
       clear HB HBB HBUF
       have HB := HB2
       have HBB := HBB2
       have HBUF := Lib.hid hbuf
       clear HB2 HBB2 hbuf hw
       go_wp2_with fail
       refine (HBUF.out.byte (92) (by omega) (by omega) (by have := HLN.out; (try simp only [List.length_append, List.length_cons, List.length_nil]); omega) HBB.out).mono ?_
       rintro e v7 ⟨rfl, hbuf, hw⟩
       have HB2 := Lib.hid (HB.out.trans (hw.mono HBS.out))
       have HBB2 : Hid (w.heap.size ≤ v7.heap.size) := Nat.le_trans HBB.out hw.size
       clear HB HBB HBUF
       have HB := HB2
       have HBB := HBB2
       have HBUF := Lib.hid hbuf
       clear HB2 HBB2 hbuf hw
       go_wp2_with fail
       refine (HBUF.out.byte (110) (by omega) (by omega) (by have := HLN.out; (try simp only [List.length_append, List.length_cons, List.length_nil]); omega) HBB.out).mono ?_
       rintro e v8 ⟨rfl, hbuf, hw⟩
       have HB2 := Lib.hid (HB.out.trans (hw.mono HBS.out))
       have HBB2 : Hid (w.heap.size ≤ v8.heap.size) := Nat.le_trans HBB.out hw.size
       clear HB HBB HBUF
       have HB := HB2
       have HBB := HBB2
       have HBUF := Lib.hid hbuf
       clear HB2 HBB2 hbuf hw
       have HBUF2 : Hid (Buf w.heap.size (l ++ ((bytesOf s).drop st).take (i - st) ++ [92, 110]) v8) := by show Buf _ _ _; have := HBUF.out; simp only [List.append_assoc, List.cons_append, List.nil_append] at this ⊢; exact this
       clear HBUF
       have HBUF := HBUF2
       clear HBUF2
       go_wp2_with fail
       exact ⟨⟨i + 1, i + 1, f, _, by omega, by omega, by omega, rfl, rfl, HINV.out, HBUF.out, by show _ ≤ _; have := HLN.out; simp only [List.length_append, List.length_cons, List.length_nil]; omega, HB.out, HBB.out⟩, by simp [intOf] <;> omega⟩
      ·obtain rfl : st = i := by omega
       have df : decide ((st : Int) < st) = false := decide_eq_false (by omega)
       have HBUF2 : Hid (Buf w.heap.size (l ++ ((bytesOf s).drop st).take (st - st)) wr) := by show Buf _ _ _; rw [Nat.sub_self, List.take_zero, List.append_nil]; exact HBUF.out
       clear HBUF
       have HBUF := HBUF2
       clear HBUF2
       go_wp2_with fail
       refine (HBUF.out.byte (92) (by omega) (by omega) (by have := HLN.out; (try simp only [List.length_append, List.length_cons, List.length_nil]); omega) HBB.out).mono ?_
       rintro e v7 ⟨rfl, hbuf, hw⟩
       have HB2 := Lib.hid (HB.out.trans (hw.mono HBS.out))
       have HBB2 : Hid (w.heap.size ≤ v7.heap.size) := Nat.le_trans HBB.out hw.size
       clear HB HBB HBUF
       have HB := HB2
       have HBB := HBB2
       have HBUF := Lib.hid hbuf
       clear HB2 HBB2 hbuf hw
       go_wp2_with fail
       refine (HBUF.out.byte (110) (by omega) (by omega) (by have := HLN.out; (try simp only [List.length_append, List.length_cons, List.length_nil]); omega) HBB.out).mono ?_
       rintro e v8 ⟨rfl, hbuf, hw⟩
       have HB2 := Lib.hid (HB.out.trans (hw.mono HBS.out))
       have HBB2 : Hid (w.heap.size ≤ v8.heap.size) := Nat.le_trans HBB.out hw.size
       clear HB HBB HBUF
       have HB := HB2
       have HBB := HBB2
       have HBUF := Lib.hid hbuf
       clear HB2 HBB2 hbuf hw
       have HBUF2 : Hid (Buf w.heap.size (l ++ ((bytesOf s).drop st).take (st - st) ++ [92, 110]) v8) := by show Buf _ _ _; have := HBUF.out; simp only [List.append_assoc, List.cons_append, List.nil_append] at this ⊢; exact this
       clear HBUF
       have HBUF := HBUF2
       clear HBUF2
       go_wp2_with fail
       exact ⟨⟨st + 1, st + 1, f, _, by omega, by omega, by omega, rfl, rfl, HINV.out, HBUF.out, by show _ ≤ _; have := HLN.out; simp only [List.length_append, List.length_cons, List.length_nil]; omega, HB.out, HBB.out⟩, by simp [intOf] <;> omega⟩
     have f10 : ((q : Int) == 10) = false := beq_eq_false_iff_ne.2 (by omega)
     by_cases k13 : q = 13
     ·subst k13
      have HINV : Hid (EscInv s (l ++ ((bytesOf s).drop st).take (i - st) ++ [92, 114]) (i + 1) (i + 1) f) := HES.out [92, 114] (by unfold escC; simp)
      clear HPL HES
      by_cases hfl : st < i
      ·have df : decide ((st : Int) < i) = true := decide_eq_true (by omega)
       go_wp2_with fail
       refine (HBUF.out.str (strIs_mid s st i) (by have := HLN.out; (try simp only [List.length_append, List.length_cons, List.length_nil]); omega) HBB.out).mono ?_
       rintro e v12 ⟨⟨vv, rfl⟩, hbuf, hw⟩
       have HB2 := Lib.hid (HB.out.trans (hw.mono HBS.out))
       have HBB2 : Hid (w.heap.size ≤ v12.heap.size) := Nat.le_trans HBB.out hw.size
       clear HB HBB HBUF
       have HB := HB2
       have HBB := HBB2
       have HBUF := Lib.hid hbuf
       clear HB2 HBB2 hbuf hw
       go_wp2_with fail
       refine (HBUF.out.byte (92) (by omega) (by omega) (by have := HLN.out; (try simp only [List.length_append, List.length_cons, List.length_nil]); omega) HBB.out).mono ?_
       rintro e v10 ⟨rfl, hbuf, hw⟩
       have HB2 := Lib.hid (HB.out.trans (hw.mono HBS.out))
       have HBB2 : Hid (w.heap.size ≤ v10.heap.size) := Nat.le_trans HBB.out hw.size
       clear HB HBB HBUF
       have HB := HB2
       have HBB := HBB2
       have HBUF := Lib.hid hbuf
       clear HB2 HBB2 hbuf hw
       go_wp2_with fail
       refine (HBUF.out.byte (114) (by omega) (by omega) (by have := HLN.out; (try simp only [List.length_append, List.length_cons, List.length_nil]); omega) HBB.out).mono ?_
       rintro e v11 ⟨rfl, hbuf, hw⟩
       have HB2 := Lib.hid (HB.out.trans (hw.mono HBS.out))
       have HBB2 : Hid (w.heap.size ≤ v11.heap.size) := Nat.le_trans HBB.out hw.size
       clear HB HBB HBUF
       have HB := HB2
       have HBB := HBB2
       have HBUF := Lib.hid hbuf
       clear HB2 HBB2 hbuf hw
       have HBUF2 : Hid (Buf w.heap.size (l ++ ((bytesOf s).drop st).take (i - st) ++ [92, 114]) v11) := by show Buf _ _ _; have := HBUF.out; simp only [List.append_assoc, List.cons_append, List.nil_append] at this ⊢; exact this
       clear HBUF
       have HBUF := HBUF2
       clear HBUF2
       go_wp2_with fail
       exact ⟨⟨i + 1, i + 1, f, _, by omega, by omega, by omega, rfl, rfl, HINV.out, HBUF.out, by show _ ≤ _; have := HLN.out; simp only [List.length_append, List.length_cons, List.length_nil]; omega, HB.out, HBB.out⟩, by simp [intOf] <;> omega⟩
      ·obtain rfl : st = i := by omega
       have df : decide ((st : Int) < st) = false := decide_eq_false (by omega)
       have HBUF2 : Hid (Buf w.heap.size (l ++ ((bytesOf s).drop st).take (st - st)) wr) := by show Buf _ _ _; rw [Nat.sub_self, List.take_zero, List.append_nil]; exact HBUF.out
       clear HBUF
       have HBUF := HBUF2
       clear HBUF2
       go_wp2_with fail
       refine (HBUF.out.byte (92) (by omega) (by omega) (by have := HLN.out; (try simp only [List.length_append, List.length_cons, List.length_nil]); omega) HBB.out).mono ?_
       rintro e v10 ⟨rfl, hbuf, hw⟩
       have HB2 := Lib.hid (HB.out.trans (hw.mono HBS.out))
       have HBB2 : Hid (w.heap.size ≤ v10.heap.size) := Nat.le_trans HBB.out hw.size
       clear HB HBB HBUF
       have HB := HB2
       have HBB := HBB2
       have HBUF := Lib.hid hbuf
       clear HB2 HBB2 hbuf hw
       go_wp2_with fail
       refine (HBUF.out.byte (114) (by omega) (by omega) (by have := HLN.out; (try simp only [List.length_append, List.length_cons, List.length_nil]); omega) HBB.out).mono ?_
       rintro e v11 ⟨rfl, hbuf, hw⟩
       have HB2 := Lib.hid (HB.out.trans (hw.mono HBS.out))
       have HBB2 : Hid (w.heap.size ≤ v11.heap.size) := Nat.le_trans HBB.out hw.size
       clear HB HBB HBUF
       have HB := HB2
       have HBB := HBB2
       have HBUF := Lib.hid hbuf
       clear HB2 HBB2 hbuf hw
       have HBUF2 : Hid (Buf w.heap.size (l ++ ((bytesOf s).drop st).take (st - st) ++ [92, 114]) v11) := by show Buf _ _ _; have := HBUF.out; simp only [List.append_assoc, List.cons_append, List.nil_append] at this ⊢; exact this
       clear HBUF
       have HBUF := HBUF2
       clear HBUF2
       go_wp2_with fail
       exact ⟨⟨st + 1, st + 1, f, _, by omega, by omega, by omega, rfl, rfl, HINV.out, HBUF.out, by show _ ≤ _; have := HLN.out; simp only [List.length_append, List.length_cons, List.length_nil]; omega, HB.out, HBB.out⟩, by simp [intOf] <;> omega⟩
     have f13 : ((q : Int) == 13) = false := beq_eq_false_iff_ne.2 (by omega)
     by_cases k9 : q = 9
     ·subst k9
      have HINV : Hid (EscInv s (l ++ ((bytesOf s).drop st).take (i - st) ++ [92, 116]) (i + 1) (i + 1) f) := HES.out [92, 116] (by unfold escC; simp)
      clear HPL HES
      by_cases hfl : st < i
      ·have df : decide ((st : Int) < i) = true := decide_eq_true (by omega)
       go_wp2_with fail
       refine (HBUF.out.str (strIs_mid s st i) (by have := HLN.out; (try simp only [List.length_append, List.length_cons, List.length_nil]); omega) HBB.out).mono ?_
       rintro e v15 ⟨⟨vv, rfl⟩, hbuf, hw⟩
       have HB2 := Lib.hid (HB.out.trans (hw.mono HBS.out))
       have HBB2 : Hid (w.heap.size ≤ v15.heap.size) := Nat.le_trans HBB.out hw.size
       clear HB HBB HBUF
       have HB := HB2
       have HBB := HBB2
       have HBUF := Lib.hid hbuf
       clear HB2 HBB2 hbuf hw
       go_wp2_with fail
       refine (HBUF.out.byte (92) (by omega) (by omega) (by have := HLN.out; (try simp only [List.length_append, List.length_cons, List.length_nil]); omega) HBB.out).mono ?_
       rintro e v13 ⟨rfl, hbuf, hw⟩
       have HB2 := Lib.hid (HB.out.trans (hw.mono HBS.out))
       have HBB2 : Hid (w.heap.size ≤ v13.heap.size) := Nat.le_trans HBB.out hw.size
       clear HB HBB HBUF
       have HB := HB2
       have HBB := HBB2
       have HBUF := Lib.hid hbuf
       clear HB2 HBB2 hbuf hw
       go_wp2_with fail
       refine (HBUF.out.byte (116) (by omega) (by omega) (by have := HLN.out; (try simp only [List.length_append, List.length_cons, List.length_nil]); omega) HBB.out).mono ?_
       rintro e v14 ⟨rfl, hbuf, hw⟩
       have HB2 := Lib.hid (HB.out.trans (hw.mono HBS.out))
       have HBB2 : Hid (w.heap.size ≤ v14.heap.size) := Nat.le_trans HBB.out hw.size
       clear HB HBB HBUF
       have HB := HB2
       have HBB := HBB2
       have HBUF := Lib.hid hbuf
       clear HB2 HBB2 hbuf hw
       have HBUF2 : Hid (Buf w.heap.size (l ++ ((bytesOf s).drop st).take (i - st) ++ [92, 116]) v14) := by show Buf _ _ _; have := HBUF.out; simp only [List.append_assoc, List.cons_append, List.nil_append] at this ⊢; exact this
       clear HBUF
       have HBUF := HBUF2
       clear HBUF2
       go_wp2_with fail
       exact ⟨⟨i + 1, i + 1, f, _, by omega, by omega, by omega, rfl, rfl, HINV.out, HBUF.out, by show _ ≤ _; have := HLN.out; simp only [List.length_append, List.length_cons, List.length_nil]; omega, HB.out, HBB.out⟩, by simp [intOf] <;> omega⟩
      ·obtain rfl : st = i := by omega
       have df : decide ((st : Int) < st) = false := decide_eq_false (by omega)
       have HBUF2 : Hid (Buf w.heap.size (l ++ ((bytesOf s).drop st).take (st - st)) wr) := by show Buf _ _ _; rw [Nat.sub_self, List.take_zero, List.append_nil]; exact HBUF.out
       clear HBUF
       have HBUF := HBUF2
       clear HBUF2
       go_wp2_with fail
       refine (HBUF.out.byte (92) (by omega) (by omega) (by have := HLN.out; (try simp only [List.length_append, List.length_cons, List.length_nil]); omega) HBB.out).mono ?_
       rintro e v13 ⟨rfl, hbuf, hw⟩
       have HB2 := Lib.hid (HB.out.trans (hw.mono HBS.out))
       have HBB2 : Hid (w.heap.size ≤ v13.heap.size) := Nat.le_trans HBB.out hw.size
       clear HB HBB HBUF
       have HB := HB2
       have HBB := HBB2
       have HBUF := Lib.hid hbuf
       clear HB2 HBB2 hbuf hw
       go_wp2_with fail
       refine (HBUF.out.byte (116) (by omega) (by omega) (by have := HLN.out; (try simp only [List.length_append, List.length_cons, List.length_nil]); omega) HBB.out).mono ?_
       rintro e v14 ⟨rfl, hbuf, hw⟩
       have HB2 := Lib.hid (HB.out.trans (hw.mono HBS.out))
       have HBB2 : Hid (w.heap.size ≤ v14.heap.size) := Nat.le_trans HBB.out hw.size
       clear HB HBB HBUF
       have HB := HB2
       have HBB := HBB2
       have HBUF := Lib.hid hbuf
       clear HB2 HBB2 hbuf hw
       have HBUF2 : Hid (Buf w.heap.size (l ++ ((bytesOf s).drop st).take (st - st) ++ [92, 116]) v14) := by show Buf _ _ _; have := HBUF.out; simp only [List.append_assoc, List.cons_append, List.nil_append] at this ⊢; exact this
       clear HBUF
       have HBUF := HBUF2
       clear HBUF2
       go_wp2_with fail
       exact ⟨⟨st + 1, st + 1, f, _, by omega, by omega, by omega, rfl, rfl, HINV.out, HBUF.out, by show _ ≤ _; have := HLN.out; simp only [List.length_append, List.length_cons, List.length_nil]; omega, HB.out, HBB.out⟩, by simp [intOf] <;> omega⟩
     have f9 : ((q : Int) == 9) = false := beq_eq_false_iff_ne.2 (by omega)
     by_cases k8 : q = 8
     ·subst k8
      have HINV : Hid (EscInv s (l ++ ((bytesOf s).drop st).take (i - st) ++ [92, 98]) (i + 1) (i + 1) f) := HES.out [92, 98] (by unfold escC; simp)
      clear HPL HES
      by_cases hfl : st < i
      ·have df : decide ((st : Int) < i) = true := decide_eq_true (by omega)
       go_wp2_with fail
       refine (HBUF.out.str (strIs_mid s st i) (by have := HLN.out; (try simp only [List.length_append, List.length_cons, List.length_nil]); omega) HBB.out).mono ?_
       rintro e v18 ⟨⟨vv, rfl⟩, hbuf, hw⟩
       have HB2 := Lib.hid (HB.out.trans (hw.mono HBS.out))
       have HBB2 : Hid (w.heap.size ≤ v18.heap.size) := Nat.le_trans HBB.out hw.size
       clear HB HBB HBUF
       have HB := HB2
       have HBB := HBB2
       have HBUF := Lib.hid hbuf
       clear HB2 HBB2 hbuf hw
       go_wp2_with fail
       refine (HBUF.out.byte (92) (by omega) (by omega) (by have := HLN.out; (try simp only [List.length_append, List.length_cons, List.length_nil]); omega) HBB.out).mono ?_
       rintro e v16 ⟨rfl, hbuf, hw⟩
       have HB2 := Lib.hid (HB.out.trans (hw.mono HBS.out))
       have HBB2 : Hid (w.heap.size ≤ v16.heap.size) := Nat.le_trans HBB.out hw.size
       clear HB HBB HBUF
       have HB := HB2
       have HBB := HBB2
       have HBUF := Lib.hid hbuf
       clear HB2 HBB2 hbuf hw
       go_wp2_with fail
       refine (HBUF.out.byte (98) (by omega) (by omega) (by have := HLN.out; (try simp only [List.length_append, List.length_cons, List.length_nil]); omega) HBB.out).mono ?_
       rintro e v17 ⟨rfl, hbuf, hw⟩
       have HB2 := Lib.hid (HB.out.trans (hw.mono HBS.out))
       have HBB2 : Hid (w.heap.size ≤ v17.heap.size) := Nat.le_trans HBB.out hw.size
       clear HB HBB HBUF
       have HB := HB2
       have HBB := HBB2
       have HBUF := Lib.hid hbuf
       clear HB2 HBB2 hbuf hw
       have HBUF2 : Hid (Buf w.heap.size (l ++ ((bytesOf s).drop st).take (i - st) ++ [92, 98]) v17) := by show Buf _ _ _; have := HBUF.out; simp only [List.append_assoc, List.cons_append, List.nil_append] at this ⊢; exact this
       clear HBUF
       have HBUF := HBUF2
       clear HBUF2
       go_wp2_with fail
       exact ⟨⟨i + 1, i + 1, f, _, by omega, by omega, by omega, rfl, rfl, HINV.out, HBUF.out, by show _ ≤ _; have := HLN.out; simp only [List.length_append, List.length_cons, List.length_nil]; omega, HB.out, HBB.out⟩, by simp [intOf] <;> omega⟩
      ·obtain rfl : st = i := by omega
       have df : decide ((st : Int) < st) = false := decide_eq_false (by omega)
       have HBUF2 : Hid (Buf w.heap.size (l ++ ((bytesOf s).drop st).take (st - st)) wr) := by show Buf _ _ _; rw [Nat.sub_self, List.take_zero, List.append_nil]; exact HBUF.out
       clear HBUF
       have HBUF := HBUF2
       clear HBUF2
       go_wp2_with fail
       refine (HBUF.out.byte (92) (by omega) (by omega) (by have := HLN.out; (try simp only [List.length_append, List.length_cons, List.length_nil]); omega) HBB.out).mono ?_
       rintro e v16 ⟨rfl, hbuf, hw⟩
       have HB2 := Lib.hid (HB.out.trans (hw.mono HBS.out))
       have HBB2 : Hid (w.heap.size ≤ v16.heap.size) := Nat.le_trans HBB.out hw.size
       clear HB HBB HBUF
       have HB := HB2
       have HBB := HBB2
       have HBUF := Lib.hid hbuf
       clear HB2 HBB2 hbuf hw
       go_wp2_with fail
       refine (HBUF.out.byte (98) (by omega) (by omega) (by have := HLN.out; (try simp only [List.length_append, List.length_cons, List.length_nil]); omega) HBB.out).mono ?_
       rintro e v17 ⟨rfl, hbuf, hw⟩
       have HB2 := Lib.hid (HB.out.trans (hw.mono HBS.out))
       have HBB2 : Hid (w.heap.size ≤ v17.heap.size) := Nat.le_trans HBB.out hw.size
       clear HB HBB HBUF
       have HB := HB2
       have HBB := HBB2
       have HBUF := Lib.hid hbuf
       clear HB2 HBB2 hbuf hw
       have HBUF2 : Hid (Buf w.heap.size (l ++ ((bytesOf s).drop st).take (st - st) ++ [92, 98]) v17) := by show Buf _ _ _; have := HBUF.out; simp only [List.append_assoc, List.cons_append, List.nil_append] at this ⊢; exact this
       clear HBUF
       have HBUF := HBUF2
       clear HBUF2
       go_wp2_with fail
       exact ⟨⟨st + 1, st + 1, f, _, by omega, by omega, by omega, rfl, rfl, HINV.out, HBUF.out, by show _ ≤ _; have := HLN.out; simp only [List.length_append, List.length_cons, List.length_nil]; omega, HB.out, HBB.out⟩, by simp [intOf] <;> omega⟩
     have f8 : ((q : Int) == 8) = false := beq_eq_false_iff_ne.2 (by omega)
     by_cases k12 : q = 12
     ·subst k12
      have HINV : Hid (EscInv s (l ++ ((bytesOf s).drop st).take (i - st) ++ [92, 102]) (i + 1) (i + 1) f) := HES.out [92, 102] (by unfold escC; simp)
      clear HPL HES
      by_cases hfl : st < i
      ·have df : decide ((st : Int) < i) = true := decide_eq_true (by omega)
       go_wp2_with fail
       refine (HBUF.out.str (strIs_mid s st i) (by have := HLN.out; (try simp only [List.length_append, List.length_cons, List.length_nil]); omega) HBB.out).mono ?_
       rintro e v21 ⟨⟨vv, rfl⟩, hbuf, hw⟩
       have HB2 := Lib.hid (HB.out.trans (hw.mono HBS.out))
       have HBB2 : Hid (w.heap.size ≤ v21.heap.size) := Nat.le_trans HBB.out hw.size
       clear HB HBB HBUF
       have HB := HB2
       have HBB := HBB2
       have HBUF := Lib.hid hbuf
       clear HB2 HBB2 hbuf hw
       go_wp2_with fail
       refine (HBUF.out.byte (92) (by omega) (by omega) (by have := HLN.out; (try simp only [List.length_append, List.length_cons, List.length_nil]); omega) HBB.out).mono ?_
       rintro e v19 ⟨rfl, hbuf, hw⟩
       have HB2 := Lib.hid (HB.out.trans (hw.mono HBS.out))
       have HBB2 : Hid (w.heap.size ≤ v19.heap.size) := Nat.le_trans HBB.out hw.size
       clear HB HBB HBUF
       have HB := HB2
       have HBB := HBB2
       have HBUF := Lib.hid hbuf
       clear HB2 HBB2 hbuf hw
       go_wp2_with fail
       refine (HBUF.out.byte (102) (by omega) (by omega) (by have := HLN.out; (try simp only [List.length_append, List.length_cons, List.length_nil]); omega) HBB.out).mono ?_
       rintro e v20 ⟨rfl, hbuf, hw⟩
       have HB2 := Lib.hid (HB.out.trans (hw.mono HBS.out))
       have HBB2 : Hid (w.heap.size ≤ v20.heap.size) := Nat.le_trans HBB.out hw.size
       clear HB HBB HBUF
       have HB := HB2
       have HBB := HBB2
       have HBUF := Lib.hid hbuf
       clear HB2 HBB2 hbuf hw
       have HBUF2 : Hid (Buf w.heap.size (l ++ ((bytesOf s).drop st).take (i - st) ++ [92, 102]) v20) := by show Buf _ _ _; have := HBUF.out; simp only [List.append_assoc, List.cons_append, List.nil_append] at this ⊢; exact this
       clear HBUF
       have HBUF := HBUF2
       clear HBUF2
       go_wp2_with fail
       exact ⟨⟨i + 1, i + 1, f, _, by omega, by omega, by omega, rfl, rfl, HINV.out, HBUF.out, by show _ ≤ _; have := HLN.out; simp only [List.length_append, List.length_cons, List.length_nil]; omega, HB.out, HBB.out⟩, by simp [intOf] <;> omega⟩
      ·obtain rfl : st = i := by omega
       have df : decide ((st : Int) < st) = false := decide_eq_false (by omega)
       have HBUF2 : Hid (Buf w.heap.size (l ++ ((bytesOf s).drop st).take (st - st)) wr) := by show Buf _ _ _; rw [Nat.sub_self, List.take_zero, List.append_nil]; exact HBUF.out
       clear HBUF
       have HBUF := HBUF2
       clear HBUF2
       go_wp2_with fail
       refine (HBUF.out.byte (92) (by omega) (by omega) (by have := HLN.out; (try simp only [List.length_append, List.length_cons, List.length_nil]); omega) HBB.out).mono ?_
       rintro e v19 ⟨rfl, hbuf, hw⟩
       have HB2 := Lib.hid (HB.out.trans (hw.mono HBS.out))
       have HBB2 : Hid (w.heap.size ≤ v19.heap.size) := Nat.le_trans HBB.out hw.size
       clear HB HBB HBUF
       have HB := HB2
       have HBB := HBB2
       have HBUF := Lib.hid hbuf
       clear HB2 HBB2 hbuf hw
       go_wp2_with fail
       refine (HBUF.out.byte (102) (by omega) (by omega) (by have := HLN.out; (try simp only [List.length_append, List.length_cons, List.length_nil]); omega) HBB.out).mono ?_
       rintro e v20 ⟨rfl, hbuf, hw⟩
       have HB2 := Lib.hid (HB.out.trans (hw.mono HBS.out))
       have HBB2 : Hid (w.heap.size ≤ v20.heap.size) := Nat.le_trans HBB.out hw.size
       clear HB HBB HBUF
       have HB := HB2
       have HBB := HBB2
       have HBUF := Lib.hid hbuf
       clear HB2 HBB2 hbuf hw
       have HBUF2 : Hid (Buf w.heap.size (l ++ ((bytesOf s).drop st).take (st - st) ++ [92, 102]) v20) := by show Buf _ _ _; have := HBUF.out; simp only [List.append_assoc, List.cons_append, List.nil_append] at this ⊢; exact this
       clear HBUF
       have HBUF := HBUF2
       clear HBUF2
       go_wp2_with fail
       exact ⟨⟨st + 1, st + 1, f, _, by omega, by omega, by omega, rfl, rfl, HINV.out, HBUF.out, by show _ ≤ _; have := HLN.out; simp only [List.length_append, List.length_cons, List.length_nil]; omega, HB.out, HBB.out⟩, by simp [intOf] <;> omega⟩
     have f12 : ((q : Int) == 12) = false := beq_eq_false_iff_ne.2 (by omega)
     have hrest : q < 32 ∨ q = 60 ∨ q = 62 ∨ q = 38 := by
      simp only [safeF, decide_eq_false_iff_not] at hsafe
      omega
     have hx1 := hexc ((q : Int) / 16) (by omega) (by omega)
     have hx2 := hexc ((q : Int) % 16) (by omega) (by omega)
     have hr1 := hexd_low (n := (q : Int) / 16) (by omega) (by omega)
     have hr2 := hexd_low (n := (q : Int) % 16) (by omega) (by omega)
     have a0 : (0 : Int) ≤ (q : Int) / 16 := by omega
     have a1 : (q : Int) / 16 < 16 := by omega
     have a2 : (0 : Int) ≤ (q : Int) % 16 := by omega
     have a3 : (q : Int) % 16 < 16 := by omega
     have HINV : Hid (EscInv s (l ++ ((bytesOf s).drop st).take (i - st) ++ [92, 117, 48, 48, hexd ((q : Int) / 16), hexd ((q : Int) % 16)]) (i + 1) (i + 1) f) := HES.out [92, 117, 48, 48, hexd ((q : Int) / 16), hexd ((q : Int) % 16)] (by unfold escC; rw [if_neg (by omega), if_neg (by omega), if_neg (by omega), if_neg (by omega), if_neg (by omega), if_neg (by omega), if_pos (by rcases hrest with h | h | h | h; exact .inl (by omega); all_goals exact .inr ⟨rfl, by omega⟩)])
     clear HPL HES
     clear hrest hsafe
     by_cases hfl : st < i
     ·have df : decide ((st : Int) < i) = true := decide_eq_true (by omega)
      go_wp2_with fail
      refine (HBUF.out.str (strIs_mid s st i) (by have := HLN.out; (try simp only [List.length_append, List.length_cons, List.length_nil]); omega) HBB.out).mono ?_
      rintro e v25 ⟨⟨vv, rfl⟩, hbuf, hw⟩
      have HB2 := Lib.hid (HB.out.trans (hw.mono HBS.out))
      have HBB2 : Hid (w.heap.size ≤ v25.heap.size) := Nat.le_trans HBB.out hw.size
      clear HB HBB HBUF
      have HB := HB2
      have HBB := HBB2
      have HBUF := Lib.hid hbuf
      clear HB2 HBB2 hbuf hw
      go_wp2_with fail
      refine (HBUF.out.str (StrIs.of [92, 117, 48, 48]) (by have := HLN.out; (try simp only [List.length_append, List.length_cons, List.length_nil]); omega) HBB.out).mono ?_
      rintro e v22 ⟨⟨vv, rfl⟩, hbuf, hw⟩
      have HB2 := Lib.hid (HB.out.trans (hw.mono HBS.out))
      have HBB2 : Hid (w.heap.size ≤ v22.heap.size) := Nat.le_trans HBB.out hw.size
      clear HB HBB HBUF
      have HB := HB2
      have HBB := HBB2
      have HBUF := Lib.hid hbuf
      clear HB2 HBB2 hbuf hw
      go_wp2_with fail
      refine (HBUF.out.byte (hexd ((q : Int) / 16)) (by omega) (by omega) (by have := HLN.out; (try simp only [List.length_append, List.length_cons, List.length_nil]); omega) HBB.out).mono ?_
      rintro e v23 ⟨rfl, hbuf, hw⟩
      have HB2 := Lib.hid (HB.out.trans (hw.mono HBS.out))
      have HBB2 : Hid (w.heap.size ≤ v23.heap.size) := Nat.le_trans HBB.out hw.size
      clear HB HBB HBUF
      have HB := HB2
      have HBB := HBB2
      have HBUF := Lib.hid hbuf
      clear HB2 HBB2 hbuf hw
      go_wp2_with fail
      refine (HBUF.out.byte (hexd ((q : Int) % 16)) (by omega) (by omega) (by have := HLN.out; (try simp only [List.length_append, List.length_cons, List.length_nil]); omega) HBB.out).mono ?_
      rintro e v24 ⟨rfl, hbuf, hw⟩
      have HB2 := Lib.hid (HB.out.trans (hw.mono HBS.out))
      have HBB2 : Hid (w.heap.size ≤ v24.heap.size) := Nat.le_trans HBB.out hw.size
      clear HB HBB HBUF
      have HB := HB2
      have HBB := HBB2
      have HBUF := Lib.hid hbuf
      clear HB2 HBB2 hbuf hw
      have HBUF2 : Hid (Buf w.heap.size (l ++ ((bytesOf s).drop st).take (i - st) ++ [92, 117, 48, 48, hexd ((q : Int) / 16), hexd ((q : Int) % 16)]) v24) := by show Buf _ _ _; have := HBUF.out; simp only [List.append_assoc, List.cons_append, List.nil_append] at this ⊢; exact this
      clear HBUF
      have HBUF := HBUF2
      clear HBUF2
      go_wp2_with fail
      exact ⟨⟨i + 1, i + 1, f, _, by omega, by omega, by omega, rfl, rfl, HINV.out, HBUF.out, by show _ ≤ _; have := HLN.out; simp only [List.length_append, List.length_cons, List.length_nil]; omega, HB.out, HBB.out⟩, by simp [intOf] <;> omega⟩
     ·obtain rfl : st = i := by omega
      have df : decide ((st : Int) < st) = false := decide_eq_false (by omega)
      have HBUF2 : Hid (Buf w.heap.size (l ++ ((bytesOf s).drop st).take (st - st)) wr) := by show Buf _ _ _; rw [Nat.sub_self, List.take_zero, List.append_nil]; exact HBUF.out
      clear HBUF
      have HBUF := HBUF2
      clear HBUF2
      go_wp2_with fail
      refine (HBUF.out.str (StrIs.of [92, 117, 48, 48]) (by have := HLN.out; (try simp only [List.length_append, List.length_cons, List.length_nil]); omega) HBB.out).mono ?_
      rintro e v22 ⟨⟨vv, rfl⟩, hbuf, hw⟩
      have HB2 := Lib.hid (HB.out.trans (hw.mono HBS.out))
      have HBB2 : Hid (w.heap.size ≤ v22.heap.size) := Nat.le_trans HBB.out hw.size
      clear HB HBB HBUF
      have HB := HB2
      have HBB := HBB2
      have HBUF := Lib.hid hbuf
      clear HB2 HBB2 hbuf hw
      go_wp2_with fail
      refine (HBUF.out.byte (hexd ((q : Int) / 16)) (by omega) (by omega) (by have := HLN.out; (try simp only [List.length_append, List.length_cons, List.length_nil]); omega) HBB.out).mono ?_
      rintro e v23 ⟨rfl, hbuf, hw⟩
      have HB2 := Lib.hid (HB.out.trans (hw.mono HBS.out))
      have HBB2 : Hid (w.heap.size ≤ v23.heap.size) := Nat.le_trans HBB.out hw.size
      clear HB HBB HBUF
      have HB := HB2
      have HBB := HBB2
      have HBUF := Lib.hid hbuf
      clear HB2 HBB2 hbuf hw
      go_wp2_with fail
      refine (HBUF.out.byte (hexd ((q : Int) % 16)) (by omega) (by omega) (by have := HLN.out; (try simp only [List.length_append, List.length_cons, List.length_nil]); omega) HBB.out).mono ?_
      rintro e v24 ⟨rfl, hbuf, hw⟩
      have HB2 := Lib.hid (HB.out.trans (hw.mono HBS.out))
      have HBB2 : Hid (w.heap.size ≤ v24.heap.size) := Nat.le_trans HBB.out hw.size
      clear HB HBB HBUF
      have HB := HB2
      have HBB := HBB2
      have HBUF := Lib.hid hbuf
      clear HB2 HBB2 hbuf hw
      have HBUF2 : Hid (Buf w.heap.size (l ++ ((bytesOf s).drop st).take (st - st) ++ [92, 117, 48, 48, hexd ((q : Int) / 16), hexd ((q : Int) % 16)]) v24) := by show Buf _ _ _; have := HBUF.out; simp only [List.append_assoc, List.cons_append, List.nil_append] at this ⊢; exact this
      clear HBUF
      have HBUF := HBUF2
      clear HBUF2
      go_wp2_with fail
      exact ⟨⟨st + 1, st + 1, f, _, by omega, by omega, by omega, rfl, rfl, HINV.out, HBUF.out, by show _ ≤ _; have := HLN.out; simp only [List.length_append, List.length_cons, List.length_nil]; omega, HB.out, HBB.out⟩, by simp [intOf] <;> omega⟩
   ·obtain ⟨hn2, hc8⟩ := rune_high hlt hr hn1 hlow
    have hsz := size_suffix s i hi
    have hdr : (runeF (fun j => bt (s.extract i s.size) (0 + j)) ((s.extract i s.size).size - 0)) = ((n : Int), c) := by
     rw [← hr, hsz, Nat.sub_zero]
     congr 1
     rw [bt_suffix s i hi]
     funext j
     rw [Nat.zero_add]
    obtain ⟨g1, g2⟩ := decode_rune (s := s.extract i s.size) (k := 0) (by rw [hdr]; show (n : Int) ≠ 0; omega)
    rw [hdr] at g1 g2
    have hdg : Lib.decodeGo (s.extract i s.size) = Utf8.decode (s.extract i s.size) 0 := by unfold Lib.decodeGo; rw [if_neg (by omega)]
    rw [← hdg] at g1 g2
    have G1 := Lib.hid g1
    have G2 := Lib.hid g2
    have HPL := Lib.hid hplain
    have HES := Lib.hid hesc
    have d1 : decide (bt s i < 128) = false := decide_eq_false hlow
    have HU := Lib.hid (HE.out _ HB.out).utf
    clear hr hplain hesc hlow HINV hsz hdr g1 g2 hdg
    have e1 : ((n : Int) == 1) = false := beq_eq_false_iff_ne.2 (by omega)
    by_cases k1 : c = 65533
    ·subst k1
     have HINV : Hid (EscInv s l st (i + n) f) := HPL.out (by unfold escC; rw [if_neg (by omega), if_neg (by omega), if_neg (by omega), if_neg (by omega), if_neg (by omega), if_neg (by omega), if_neg (by simp <;> omega), if_neg (by omega)])
     clear HPL HES
     go_wp2_with fail
     refine (Tryz.utf8_DecodeRuneInString (s.extract i s.size) _ HU.out).mono ?_
     rintro e w3 ⟨rfl, hw⟩
     rw [G1.out, G2.out]
     have HB2 := Lib.hid (HB.out.trans (hw.mono HBB.out))
     have HBB2 : Hid (w.heap.size ≤ w3.heap.size) := Nat.le_trans HBB.out hw.size
     have HBUF2 : Hid (Buf w.heap.size l w3) := buf_old HBUF.out hw
     clear HB HBB HBUF hw
     have HB := HB2
     have HBB := HBB2
     have HBUF := HBUF2
     clear HB2 HBB2 HBUF2
     go_wp2_with fail
     exact ⟨⟨st, i + n, f, l, by omega, by omega, by omega, rfl, rfl, HINV.out, HBUF.out, by show _ ≤ _; have := HLN.out; rw [HRI.out] at this; omega, HB.out, HBB.out⟩, by simp [intOf] <;> omega⟩
    have f1 : (c == 65533) = false := beq_eq_false_iff_ne.2 k1
    by_cases k8232 : c = 8232
    ·subst k8232
     have HINV : Hid (EscInv s (l ++ ((bytesOf s).drop st).take (i - st) ++ [92, 117, 50, 48, 50, 56]) (i + n) (i + n) f) := HES.out [92, 117, 50, 48, 50, 56] (by unfold escC; simp)
     clear HPL HES
     have hand : bits .and .i32 8232 15 = 8 := by decide
     go_wp2_with fail
     refine (Tryz.utf8_DecodeRuneInString (s.extract i s.size) _ HU.out).mono ?_
     rintro e w3 ⟨rfl, hw⟩
     rw [G1.out, G2.out]
     have HB2 := Lib.hid (HB.out.trans (hw.mono HBB.out))
     have HBB2 : Hid (w.heap.size ≤ w3.heap.size) := Nat.le_trans HBB.out hw.size
     have HBUF2 : Hid (Buf w.heap.size l w3) := buf_old HBUF.out hw
     clear HB HBB HBUF hw
     have HB := HB2
     have HBB := HBB2
     have HBUF := HBUF2
     clear HB2 HBB2 HBUF2
     by_cases hfl : st < i
     ·have df : decide ((st : Int) < i) = true := decide_eq_true (by omega)
      go_wp2_with fail
      refine (HBUF.out.str (strIs_mid s st i) (by have := HLN.out; (try simp only [List.length_append, List.length_cons, List.length_nil]); omega) HBB.out).mono ?_
      rintro e v31 ⟨⟨vv, rfl⟩, hbuf, hw⟩
      have HB2 := Lib.hid (HB.out.trans (hw.mono HBS.out))
      have HBB2 : Hid (w.heap.size ≤ v31.heap.size) := Nat.le_trans HBB.out hw.size
      clear HB HBB HBUF
      have HB := HB2
      have HBB := HBB2
      have HBUF := Lib.hid hbuf
      clear HB2 HBB2 hbuf hw
      go_wp2_with fail
      refine (HBUF.out.str (StrIs.of [92, 117, 50, 48, 50]) (by have := HLN.out; (try simp only [List.length_append, List.length_cons, List.length_nil]); omega) HBB.out).mono ?_
      rintro e v29 ⟨⟨vv, rfl⟩, hbuf, hw⟩
      have HB2 := Lib.hid (HB.out.trans (hw.mono HBS.out))
      have HBB2 : Hid (w.heap.size ≤ v29.heap.size) := Nat.le_trans HBB.out hw.size
      clear HB HBB HBUF
      have HB := HB2
      have HBB := HBB2
      have HBUF := Lib.hid hbuf
      clear HB2 HBB2 hbuf hw
      go_wp2_with fail
      refine (HBUF.out.byte (56) (by omega) (by omega) (by have := HLN.out; (try simp only [List.length_append, List.length_cons, List.length_nil]); omega) HBB.out).mono ?_
      rintro e v30 ⟨rfl, hbuf, hw⟩
      have HB2 := Lib.hid (HB.out.trans (hw.mono HBS.out))
      have HBB2 : Hid (w.heap.size ≤ v30.heap.size) := Nat.le_trans HBB.out hw.size
      clear HB HBB HBUF
      have HB := HB2
      have HBB := HBB2
      have HBUF := Lib.hid hbuf
      clear HB2 HBB2 hbuf hw
      have HBUF2 : Hid (Buf w.heap.size (l ++ ((bytesOf s).drop st).take (i - st) ++ [92, 117, 50, 48, 50, 56]) v30) := by show Buf _ _ _; have := HBUF.out; simp only [List.append_assoc, List.cons_append, List.nil_append] at this ⊢; exact this
      clear HBUF
      have HBUF := HBUF2
      clear HBUF2
      go_wp2_with fail
      exact ⟨⟨i + n, i + n, f, _, by omega, by omega, by omega, rfl, rfl, HINV.out, HBUF.out, by show _ ≤ _; have := HLN.out; simp only [List.length_append, List.length_cons, List.length_nil]; omega, HB.out, HBB.out⟩, by simp [intOf] <;> omega⟩
     ·obtain rfl : st = i := by omega
      have df : decide ((st : Int) < st) = false := decide_eq_false (by omega)
      have HBUF2 : Hid (Buf w.heap.size (l ++ ((bytesOf s).drop st).take (st - st)) w3) := by show Buf _ _ _; rw [Nat.sub_self, List.take_zero, List.append_nil]; exact HBUF.out
      clear HBUF
      have HBUF := HBUF2
      clear HBUF2
      go_wp2_with fail
      refine (HBUF.out.str (StrIs.of [92, 117, 50, 48, 50]) (by have := HLN.out; (try simp only [List.length_append, List.length_cons, List.length_nil]); omega) HBB.out).mono ?_
      rintro e v29 ⟨⟨vv, rfl⟩, hbuf, hw⟩
      have HB2 := Lib.hid (HB.out.trans (hw.mono HBS.out))
      have HBB2 : Hid (w.heap.size ≤ v29.heap.size) := Nat.le_trans HBB.out hw.size
      clear HB HBB HBUF
      have HB := HB2
      have HBB := HBB2
      have HBUF := Lib.hid hbuf
      clear HB2 HBB2 hbuf hw
      go_wp2_with fail
      refine (HBUF.out.byte (56) (by omega) (by omega) (by have := HLN.out; (try simp only [List.length_append, List.length_cons, List.length_nil]); omega) HBB.out).mono ?_
      rintro e v30 ⟨rfl, hbuf, hw⟩
      have HB2 := Lib.hid (HB.out.trans (hw.mono HBS.out))
      have HBB2 : Hid (w.heap.size ≤ v30.heap.size) := Nat.le_trans HBB.out hw.size
      clear HB HBB HBUF
      have HB := HB2
      have HBB := HBB2
      have HBUF := Lib.hid hbuf
      clear HB2 HBB2 hbuf hw
      have HBUF2 : Hid (Buf w.heap.size (l ++ ((bytesOf s).drop st).take (st - st) ++ [92, 117, 50, 48, 50, 56]) v30) := by show Buf _ _ _; have := HBUF.out; simp only [List.append_assoc, List.cons_append, List.nil_append] at this ⊢; exact this
      clear HBUF
      have HBUF := HBUF2
      clear HBUF2
      go_wp2_with fail
      exact ⟨⟨st + n, st + n, f, _, by omega, by omega, by omega, rfl, rfl, HINV.out, HBUF.out, by show _ ≤ _; have := HLN.out; simp only [List.length_append, List.length_cons, List.length_nil]; omega, HB.out, HBB.out⟩, by simp [intOf] <;> omega⟩
    have f8232 : (c == 8232) = false := beq_eq_false_iff_ne.2 k8232
    by_cases k8233 : c = 8233
    ·subst k8233
     have HINV : Hid (EscInv s (l ++ ((bytesOf s).drop st).take (i - st) ++ [92, 117, 50, 48, 50, 57]) (i + n) (i + n) f) := HES.out [92, 117, 50, 48, 50, 57] (by unfold escC; simp)
     clear HPL HES
     have hand : bits .and .i32 8233 15 = 9 := by decide
     go_wp2_with fail
     refine (Tryz.utf8_DecodeRuneInString (s.extract i s.size) _ HU.out).mono ?_
     rintro e w3 ⟨rfl, hw⟩
     rw [G1.out, G2.out]
     have HB2 := Lib.hid (HB.out.trans (hw.mono HBB.out))
     have HBB2 : Hid (w.heap.size ≤ w3.heap.size) := Nat.le_trans HBB.out hw.size
     have HBUF2 : Hid (Buf w.heap.size l w3) := buf_old HBUF.out hw
     clear HB HBB HBUF hw
     have HB := HB2
     have HBB := HBB2
     have HBUF := HBUF2
     clear HB2 HBB2 HBUF2
     by_cases hfl : st < i
     ·have df : decide ((st : Int) < i) = true := decide_eq_true (by omega)
      go_wp2_with fail
      refine (HBUF.out.str (strIs_mid s st i) (by have := HLN.out; (try simp only [List.length_append, List.length_cons, List.length_nil]); omega) HBB.out).mono ?_
      rintro e v34 ⟨⟨vv, rfl⟩, hbuf, hw⟩
      have HB2 := Lib.hid (HB.out.trans (hw.mono HBS.out))
      have HBB2 : Hid (w.heap.size ≤ v34.heap.size) := Nat.le_trans HBB.out hw.size
      clear HB HBB HBUF
      have HB := HB2
      have HBB := HBB2
      have HBUF := Lib.hid hbuf
      clear HB2 HBB2 hbuf hw
      go_wp2_with fail
      refine (HBUF.out.str (StrIs.of [92, 117, 50, 48, 50]) (by have := HLN.out; (try simp only [List.length_append, List.length_cons, List.length_nil]); omega) HBB.out).mono ?_
      rintro e v32 ⟨⟨vv, rfl⟩, hbuf, hw⟩
      have HB2 := Lib.hid (HB.out.trans (hw.mono HBS.out))
      have HBB2 : Hid (w.heap.size ≤ v32.heap.size) := Nat.le_trans HBB.out hw.size
      clear HB HBB HBUF
      have HB := HB2
      have HBB := HBB2
      have HBUF := Lib.hid hbuf
      clear HB2 HBB2 hbuf hw
      go_wp2_with fail
      refine (HBUF.out.byte (57) (by omega) (by omega) (by have := HLN.out; (try simp only [List.length_append, List.length_cons, List.length_nil]); omega) HBB.out).mono ?_
      rintro e v33 ⟨rfl, hbuf, hw⟩
      have HB2 := Lib.hid (HB.out.trans (hw.mono HBS.out))
      have HBB2 : Hid (w.heap.size ≤ v33.heap.size) := Nat.le_trans HBB.out hw.size
      clear HB HBB HBUF
      have HB := HB2
      have HBB := HBB2
      have HBUF := Lib.hid hbuf
      clear HB2 HBB2 hbuf hw
      have HBUF2 : Hid (Buf w.heap.size (l ++ ((bytesOf s).drop st).take (i - st) ++ [92, 117, 50, 48, 50, 57]) v33) := by show Buf _ _ _; have := HBUF.out; simp only [List.append_assoc, List.cons_append, List.nil_append] at this ⊢; exact this
      clear HBUF
      have HBUF := HBUF2
      clear HBUF2
      go_wp2_with fail
      exact ⟨⟨i + n, i + n, f, _, by omega, by omega, by omega, rfl, rfl, HINV.out, HBUF.out, by show _ ≤ _; have := HLN.out; simp only [List.length_append, List.length_cons, List.length_nil]; omega, HB.out, HBB.out⟩, by simp [intOf] <;> omega⟩
     ·obtain rfl : st = i := by omega
      have df : decide ((st : Int) < st) = false := decide_eq_false (by omega)
      have HBUF2 : Hid (Buf w.heap.size (l ++ ((bytesOf s).drop st).take (st - st)) w3) := by show Buf _ _ _; rw [Nat.sub_self, List.take_zero, List.append_nil]; exact HBUF.out
      clear HBUF
      have HBUF := HBUF2
      clear HBUF2
      go_wp2_with fail
      refine (HBUF.out.str (StrIs.of [92, 117, 50, 48, 50]) (by have := HLN.out; (try simp only [List.length_append, List.length_cons, List.length_nil]); omega) HBB.out).mono ?_
      rintro e v32 ⟨⟨vv, rfl⟩, hbuf, hw⟩
      have HB2 := Lib.hid (HB.out.trans (hw.mono HBS.out))
      have HBB2 : Hid (w.heap.size ≤ v32.heap.size) := Nat.le_trans HBB.out hw.size
      clear HB HBB HBUF
      have HB := HB2
      have HBB := HBB2
      have HBUF := Lib.hid hbuf
      clear HB2 HBB2 hbuf hw
      go_wp2_with fail
      refine (HBUF.out.byte (57) (by omega) (by omega) (by have := HLN.out; (try simp only [List.length_append, List.length_cons, List.length_nil]); omega) HBB.out).mono ?_
      rintro e v33 ⟨rfl, hbuf, hw⟩
      have HB2 := Lib.hid (HB.out.trans (hw.mono HBS.out))
      have HBB2 : Hid (w.heap.size ≤ v33.heap.size) := Nat.le_trans HBB.out hw.size
      clear HB HBB HBUF
      have HB := HB2
      have HBB := HBB2
      have HBUF := Lib.hid hbuf
      clear HB2 HBB2 hbuf hw
      have HBUF2 : Hid (Buf w.heap.size (l ++ ((bytesOf s).drop st).take (st - st) ++ [92, 117, 50, 48, 50, 57]) v33) := by show Buf _ _ _; have := HBUF.out; simp only [List.append_assoc, List.cons_append, List.nil_append] at this ⊢; exact this
      clear HBUF
      have HBUF := HBUF2
      clear HBUF2
      go_wp2_with fail
      exact ⟨⟨st + n, st + n, f, _, by omega, by omega, by omega, rfl, rfl, HINV.out, HBUF.out, by show _ ≤ _; have := HLN.out; simp only [List.length_append, List.length_cons, List.length_nil]; omega, HB.out, HBB.out⟩, by simp [intOf] <;> omega⟩
    have f8233 : (c == 8233) = false := beq_eq_false_iff_ne.2 k8233
    have HINV : Hid (EscInv s l st (i + n) f) := HPL.out (by unfold escC; rw [if_neg (by omega), if_neg (by omega), if_neg (by omega), if_neg (by omega), if_neg (by omega), if_neg (by omega), if_neg (by simp <;> omega), if_neg (by omega)])
    clear HPL HES
    go_wp2_with fail
    refine (Tryz.utf8_DecodeRuneInString (s.extract i s.size) _ HU.out).mono ?_
    rintro e w3 ⟨rfl, hw⟩
    rw [G1.out, G2.out]
    have HB2 := Lib.hid (HB.out.trans (hw.mono HBB.out))
    have HBB2 : Hid (w.heap.size ≤ w3.heap.size) := Nat.le_trans HBB.out hw.size
    have HBUF2 : Hid (Buf w.heap.size l w3) := buf_old HBUF.out hw
    clear HB HBB HBUF hw
    have HB := HB2
    have HBB := HBB2
    have HBUF := HBUF2
    clear HB2 HBB2 HBUF2
    go_wp2_with fail
    exact ⟨⟨st, i + n, f, l, by omega, by omega, by omega, rfl, rfl, HINV.out, HBUF.out, by show _ ≤ _; have := HLN.out; rw [HRI.out] at this; omega, HB.out, HBB.out⟩, by simp [intOf] <;> omega⟩
  ·obtain rfl : i = s.size := by omega
   have hd' : decide ((s.size : Int) < s.size) = false := decide_eq_false (by omega)
   obtain ⟨f, rfl⟩ : ∃ m, f = m + 1 := ⟨f - 1, by omega⟩
   have ho := HINV.out.out
   obtain ⟨T, hT⟩ : ∃ T, 34 :: extStrL s true (s.size + 1) 0 = T := ⟨_, rfl⟩
   have hF : extStrF s true = T ++ [34] := by unfold extStrF; rw [← hT]
   rw [hT] at ho
   unfold extStrL at ho
   rw [if_neg (by omega), List.append_nil] at ho
   have HO := Lib.hid ho
   have HF := Lib.hid hF
   clear ho hT hF HINV
   by_cases hfl : st < s.size
   ·have df : decide ((st : Int) < s.size) = true := decide_eq_true (by omega)
    go_wp2_with fail
    refine (HBUF.out.str (strIs_mid s st s.size) (by have := HLN.out; (try simp only [List.length_append, List.length_cons, List.length_nil]); omega) HBB.out).mono ?_
    rintro e v26 ⟨⟨vv, rfl⟩, hbuf, hw⟩
    have HB2 := Lib.hid (HB.out.trans (hw.mono HBS.out))
    have HBB2 : Hid (w.heap.size ≤ v26.heap.size) := Nat.le_trans HBB.out hw.size
    clear HB HBB HBUF
    have HB := HB2
    have HBB := HBB2
    have HBUF := Lib.hid hbuf
    clear HB2 HBB2 hbuf hw
    go_wp2_with fail
    refine (HBUF.out.byte (34) (by omega) (by omega) (by have := HLN.out; (try simp only [List.length_append, List.length_cons, List.length_nil]); omega) HBB.out).mono ?_
    rintro e v27 ⟨rfl, hbuf, hw⟩
    have HB2 := Lib.hid (HB.out.trans (hw.mono HBS.out))
    have HBB2 : Hid (w.heap.size ≤ v27.heap.size) := Nat.le_trans HBB.out hw.size
    clear HB HBB HBUF
    have HB := HB2
    have HBB := HBB2
    have HBUF := Lib.hid hbuf
    clear HB2 HBB2 hbuf hw
    go_wp2_with fail
    refine HBUF.out.string.mono ?_
    rintro e v0 ⟨rfl, nn, rfl⟩
    go_wp2_with fail
    go_ret
    exact ⟨_, rfl, (StrIs.of _).cast (by (try rw [← List.append_assoc]); rw [HO.out, HF.out]), pw_below_drewN HB.out _⟩
   ·obtain rfl : st = s.size := by omega
    have df : decide ((s.size : Int) < s.size) = false := decide_eq_false (by omega)
    have ho2 := HO.out
    rw [Nat.sub_self, List.take_zero, List.append_nil] at ho2
    have HO2 := Lib.hid ho2
    clear ho2
    go_wp2_with fail
    refine (HBUF.out.byte (34) (by omega) (by omega) (by have := HLN.out; (try simp only [List.length_append, List.length_cons, List.length_nil]); omega) HBB.out).mono ?_
    rintro e v28 ⟨rfl, hbuf, hw⟩
    have HB2 := Lib.hid (HB.out.trans (hw.mono HBS.out))
    have HBB2 : Hid (w.heap.size ≤ v28.heap.size) := Nat.le_trans HBB.out hw.size
    clear HB HBB HBUF
    have HB := HB2
    have HBB := HBB2
    have HBUF := Lib.hid hbuf
    clear HB2 HBB2 hbuf hw
    go_wp2_with fail
    refine HBUF.out.string.mono ?_
    rintro e v0 ⟨rfl, nn, rfl⟩
    go_wp2_with fail
    go_ret
    exact ⟨_, rfl, (StrIs.of _).cast (by rw [HO2.out, HF.out]), pw_below_drewN HB.out _⟩
end Go.Proofs.YtkeakdjbidbegaaGreatDoor
