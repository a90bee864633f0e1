/- A part of the proof that laws.FnTextElement returns true at every input: Idh, Enc, Encode, B64s, Misc, Sort. -/
import Derived.Test.YtkeakdjbidbegaaGreatDoorJ
import Derived.Test.YtkeakdjbidbegaaGreatDoorA
import Derived.Test.YtkeakdjbidbegaaGreatDoorL
import Derived.Lib.BufferWrite
import Derived.BigQuiet
import Derived.Deep.MidRow
import Derived.Laws.EntriesVeiled
import Derived.Test.YtkeakdjbidbegaaGreatDoorB
import Derived.Test.YtkeakdjbidbegaaGreatDoorG
import Derived.Laws.IdiomStrings
set_option linter.unusedSimpArgs false
set_option linter.unusedVariables false
set_option maxRecDepth 100000
set_option maxHeartbeats 8000000
namespace Go.Proofs.YtkeakdjbidbegaaGreatDoor
open Go.RowKit
open Go.Proofs.YtkeakdjbidbegaaGreatDoorW.PrintWords
theorem hex_digit : ∀ n : Nat, n < 16 → (((Lib.Hx.digit n).toNat : Nat) : Int) = hexd n := by decide
theorem hex_encode : ∀ l : List Int, (∀ x ∈ l, 0 ≤ x ∧ x ≤ 255) → (Lib.Hx.encode (Lib.bytesOf l)).map (fun b => (b.toNat : Int)) = hexL l
 | [], _ => rfl
 | x :: r, h => by
  have ih := hex_encode r fun y hy => h y (List.mem_cons_of_mem _ hy)
  have hx := h x (List.mem_cons_self ..)
  have e1 : (UInt8.ofNat x.toNat).toNat = x.toNat := UInt8.toNat_ofNat_of_lt' (by show _ < 256; omega)
  show (Lib.Hx.encode (UInt8.ofNat x.toNat :: Lib.bytesOf r)).map _ = hexd (x / 16) :: hexd (x % 16) :: hexL r
  rw [Lib.Hx.encode_cons, List.map_cons, List.map_cons, ih, e1, hex_digit _ (by omega), hex_digit _ (by omega)]
  congr 1
  ·congr 1; omega
  ·congr 1; congr 1; omega
theorem idHex_calls (l : List Int) (hl : l.length = 12) (hr : ∀ x ∈ l, 0 ≤ x ∧ x ≤ 255) (w : World) : Calls Tryz.prog 74 #[idV l] w fun e w' => e = .returned (.string (strOfNums (hexL l))) ∧ Below w.heap.size w w' := by
 have hlen : (hexL l).length = 24 := by rw [hexL_length]; omega
 have henc := hex_encode l hr
 have hrg : ∀ i, i < 12 → 0 ≤ l.getD i 0 ∧ l.getD i 0 < 256 := fun i hi => by
  have := hr _ (List.getElem_mem (by omega : i < l.length))
  rw [List.getD_eq_getElem?_getD, List.getElem?_eq_getElem (by omega)]
  show 0 ≤ l[i] ∧ l[i] < 256
  omega
 obtain ⟨XS, hXS⟩ : ∃ q, hexL l = q := ⟨_, rfl⟩
 rw [hXS] at hlen henc ⊢
 clear hr hXS
 obtain ⟨x0, x1, x2, x3, x4, x5, x6, x7, x8, x9, x10, x11, rfl⟩ := twelve hl
 obtain ⟨W0, hW0⟩ : ∃ W, (w.alloc (.cells #[.int .u8 x0, .int .u8 x1, .int .u8 x2, .int .u8 x3, .int .u8 x4, .int .u8 x5, .int .u8 x6, .int .u8 x7, .int .u8 x8, .int .u8 x9, .int .u8 x10, .int .u8 x11] 107)).alloc (.cells #[.int .u8 0, .int .u8 0, .int .u8 0, .int .u8 0, .int .u8 0, .int .u8 0, .int .u8 0, .int .u8 0, .int .u8 0, .int .u8 0, .int .u8 0, .int .u8 0, .int .u8 0, .int .u8 0, .int .u8 0, .int .u8 0, .int .u8 0, .int .u8 0, .int .u8 0, .int .u8 0, .int .u8 0, .int .u8 0, .int .u8 0, .int .u8 0] 166) = W := ⟨_, rfl⟩
 have hrow : W0.rowIs (w.heap.size + 1) 166 24 (fun _ => .int .u8 0) := by
  rw [← hW0]
  have := World.rowIs_alloc (w.alloc (.cells #[.int .u8 x0, .int .u8 x1, .int .u8 x2, .int .u8 x3, .int .u8 x4, .int .u8 x5, .int .u8 x6, .int .u8 x7, .int .u8 x8, .int .u8 x9, .int .u8 x10, .int .u8 x11] 107)) #[.int .u8 0, .int .u8 0, .int .u8 0, .int .u8 0, .int .u8 0, .int .u8 0, .int .u8 0, .int .u8 0, .int .u8 0, .int .u8 0, .int .u8 0, .int .u8 0, .int .u8 0, .int .u8 0, .int .u8 0, .int .u8 0, .int .u8 0, .int .u8 0, .int .u8 0, .int .u8 0, .int .u8 0, .int .u8 0, .int .u8 0, .int .u8 0] 166 (fun _ => .int .u8 0) (by
   intro i hi
   have hi2 : i < 24 := hi
   have : i = 0 ∨ i = 1 ∨ i = 2 ∨ i = 3 ∨ i = 4 ∨ i = 5 ∨ i = 6 ∨ i = 7 ∨ i = 8 ∨ i = 9 ∨ i = 10 ∨ i = 11 ∨ i = 12 ∨ i = 13 ∨ i = 14 ∨ i = 15 ∨ i = 16 ∨ i = 17 ∨ i = 18 ∨ i = 19 ∨ i = 20 ∨ i = 21 ∨ i = 22 ∨ i = 23 := by omega
   rcases this with rfl | rfl | rfl | rfl | rfl | rfl | rfl | rfl | rfl | rfl | rfl | rfl | rfl | rfl | rfl | rfl | rfl | rfl | rfl | rfl | rfl | rfl | rfl | rfl <;> rfl)
  simpa using this
 have hsrc : ∀ i, i < 12 → W0.cell? ⟨w.heap.size, 0 + i, none⟩ = some (.int .u8 ([x0, x1, x2, x3, x4, x5, x6, x7, x8, x9, x10, x11].getD i 0)) := by
  intro i hi
  rw [← hW0]
  have : i = 0 ∨ i = 1 ∨ i = 2 ∨ i = 3 ∨ i = 4 ∨ i = 5 ∨ i = 6 ∨ i = 7 ∨ i = 8 ∨ i = 9 ∨ i = 10 ∨ i = 11 := by omega
  rcases this with rfl | rfl | rfl | rfl | rfl | rfl | rfl | rfl | rfl | rfl | rfl | rfl <;> simp [go_sem]
 have hB : Below w.heap.size w W0 := by rw [← hW0]; exact ((Below.refl _ _).alloc (Nat.le_refl _) _).alloc (by simp) _
 have HC : Hid (Calls Tryz.prog 121 #[.slice (some ⟨w.heap.size + 1, 0, none⟩) 24 24, .slice (some ⟨w.heap.size, 0, none⟩) 12 12] W0.drew fun e w' => (∃ v, e = .returned v) ∧ (∀ j, j < XS.length → w'.cell? ⟨w.heap.size + 1, 0 + j, none⟩ = some (.int .u8 (rn XS j))) ∧ Below w.heap.size w w') := by
  refine (Tryz.hex_Encode_tag 166 (w.heap.size + 1) 0 24 24 24 _ w.heap.size 0 12 12 [x0, x1, x2, x3, x4, x5, x6, x7, x8, x9, x10, x11] W0.drew rfl hrg hsrc hrow.drew (by omega) (by omega) (by omega) (by omega)).mono ?_
  rintro e w' ⟨rfl, hr', hg⟩
  refine ⟨⟨_, rfl⟩, fun j hj => ?_, hB.drew.trans ⟨hg.os, hg.tape, hg.output, hg.size, fun k hk => hg.block k (by have := hB.size; show k < W0.heap.size; omega) (by intro e; have := Option.some.inj e; omega)⟩⟩
  rw [Nat.zero_add]
  refine (hr'.cell (by omega)).trans ?_
  unfold Lib.Hx.row
  rw [if_pos (by omega), Nat.sub_zero]
  have e2 : (Lib.Hx.encode (Lib.bytesOf [x0, x1, x2, x3, x4, x5, x6, x7, x8, x9, x10, x11]))[j]?.map (fun b => (b.toNat : Int)) = XS[j]? := by rw [← henc, List.getElem?_map]
  rw [List.getElem?_eq_getElem hj] at e2
  obtain ⟨bb, hb1, hb2⟩ := Option.map_eq_some_iff.1 e2
  rw [hb1, rn_lt hj, ← hb2]
  rfl
 have HL := Lib.hid hlen
 clear hrow hsrc hB hrg henc hl hlen
 show Calls Tryz.prog 74 #[.agg #[.int .u8 x0, .int .u8 x1, .int .u8 x2, .int .u8 x3, .int .u8 x4, .int .u8 x5, .int .u8 x6, .int .u8 x7, .int .u8 x8, .int .u8 x9, .int .u8 x10, .int .u8 x11]] w _
 go_enter Tryz.func74, Tryz.ntmps74
 go_wp2_with fail
 go_region_with (go_at_call 121; refine HC.out.mono ?_; rintro e w2 ⟨⟨v, rfl⟩, hc, hw⟩; have HCC := Lib.hid hc; have HW := Lib.hid hw; clear hc hw; have cv : (convert 23 9 (.slice (some ⟨w.heap.size + 1, 0, none⟩) 24 24)).run Tryz.prog w2 = .ok (.string (strOfNums XS)) w2 := (by have := conv_byt w2 (w.heap.size + 1) 0 24 XS HCC.out; rwa [HL.out] at this))
 all_goals go_wp2_with fail
 all_goals go_ret
 all_goals exact ⟨rfl, HW.out⟩
def alpha : ByteArray := ⟨#[65, 66, 67, 68, 69, 70, 71, 72, 73, 74, 75, 76, 77, 78, 79, 80, 81, 82, 83, 84, 85, 86, 87, 88, 89, 90, 97, 98, 99, 100, 101, 102, 103, 104, 105, 106, 107, 108, 109, 110, 111, 112, 113, 114, 115, 116, 117, 118, 119, 120, 121, 122, 48, 49, 50, 51, 52, 53, 54, 55, 56, 57, 43, 47]⟩
theorem alpha_size : alpha.size = 64 := by decide
theorem encRow0_size : (Tryz.zeroCells208.setIfInBounds 320 (.int .i32 61)).size = 322 := by rw [Array.size_setIfInBounds]; kernel_rfl
theorem enc_types : Tryz.prog.underlying 23 = some (.slice 5) ∧ (Tryz.prog.info? 5).map (·.size) = some 1 := ⟨Tryz.underlying23, by kernel_rfl⟩
theorem alpha_c : ∀ k : Nat, (h : k < 64) → (((alpha[k]'h).toNat : Nat) : Int) = b64c k := by decide
theorem alpha_apart : ∀ k : Nat, k < 64 → ∀ j : Nat, j < 64 → k ≠ j → b64c k ≠ b64c j := by decide
theorem b64c_range : ∀ k : Nat, k < 64 → 43 ≤ b64c k ∧ b64c k ≤ 122 := by decide
structure EncAt (g i : Nat) (w : World) : Prop where
 lt : g < w.heap.size
 enc : ∀ k, k < 64 → w.cell? ⟨g, k, none⟩ = some (.int .u8 (b64c k))
 pad : w.cell? ⟨g, 320, none⟩ = some (.int .i32 61)
 rest : ∀ k, k < 64 → i ≤ k → w.cell? ⟨g, 64 + (b64c k).toNat, none⟩ = some (.int .u8 255)
 fr : ∀ o, w.frozen? ⟨g, o, none⟩ = false
theorem EncAt.below {g i : Nat} {w w' : World} (h : EncAt g i w) {B : Nat} (k : Below B w w') (hB : g < B) : EncAt g i w' :=
 ⟨Nat.lt_of_lt_of_le h.lt k.size, fun j hj => (k.cell (p := ⟨g, j, none⟩) hB).trans (h.enc j hj), (k.cell (p := ⟨g, 320, none⟩) hB).trans h.pad, fun j h1 h2 => (k.cell (p := ⟨g, 64 + (b64c j).toNat, none⟩) hB).trans (h.rest j h1 h2), fun o => (k.frozen (p := ⟨g, o, none⟩) hB).trans (h.fr o)⟩
theorem row_cell {w : World} {g : Nat} {row : List Value} {t : TypeId} (h : w.heap[g]? = some (.cells row.toArray t (0, 0))) {j : Nat} {v : Value} (hv : row[j]? = some v) : w.cell? ⟨g, j, none⟩ = some v :=
 cell_of_heap h (by rw [List.getElem?_toArray]; exact hv)
theorem below_setRow {B g : Nat} {w W : World} (h : Below B w W) (hg : B ≤ g) (r : Array Value) : Below B w (W.setRow g r) :=
 h.trans ⟨rfl, rfl, rfl, by simp [World.setRow], fun k hk => setRow_other W g k _ (by omega)⟩
theorem alpha_bt : ∀ k : Nat, k < 64 → bt alpha k = b64c k := fun k hk => by
 rw [← bt_at alpha k (by rw [alpha_size]; exact hk)]
 exact alpha_c k hk
theorem EncAt.store {g i q : Nat} {w : World} (h : EncAt g i w) (hi : i < 64) (hq : b64c i = q) (hr : 43 ≤ (q : Int) ∧ (q : Int) ≤ 122) (n : Nat) (v : Value) : EncAt g (i + 1) ((w.drewN n).setCell ⟨g, 64 + q, none⟩ v) := by
 have hd : ∀ a, (w.drewN n).cell? a = w.cell? a := fun a => by simp [go_sem]
 have ho : ∀ k, k ≠ 64 + q → ((w.drewN n).setCell ⟨g, 64 + q, none⟩ v).cell? ⟨g, k, none⟩ = w.cell? ⟨g, k, none⟩ := fun k hk => by
  exact (World.cell?_setCell_other (w := w.drewN n) (a := ⟨g, 64 + q, none⟩) (b := ⟨g, k, none⟩) (v := v) (by intro e; injection e with _ e2; omega)).trans (hd _)
 refine ⟨by simpa [World.setCell, go_sem] using h.lt, fun k hk => (ho k (by omega)).trans (h.enc k hk), (ho 320 (by omega)).trans h.pad, fun k hk hk2 => ?_, fun o => ?_⟩
 ·have hne := alpha_apart i hi k hk (by omega)
  have hrk := b64c_range k hk
  exact (ho _ (by omega)).trans (h.rest k hk (by omega))
 ·have := h.fr o
  simp [go_sem, this]
theorem encAt_rows {w : World} {g : Nat} {row0 row2 : List Value} {t : TypeId} (hg : w.heap[g]? = some (.cells row2.toArray t (0, 0))) (h0 : row0.length = 322) (hp : row0[320]? = some (.int .i32 61)) {D : List UInt8} (hD : D.length = 256) (hD2 : ∀ x ∈ D, x = 255)
  (h2 : row2 = (Lib.byteCells alpha.data.toList ++ row0.drop 64).take 64 ++ Lib.byteCells D ++ (Lib.byteCells alpha.data.toList ++ row0.drop 64).drop 320) : EncAt g 0 w := by
 have hal : (Lib.byteCells alpha.data.toList).length = 64 := by rw [Lib.byteCells_length]; decide
 have hdl : (Lib.byteCells D).length = 256 := by rw [Lib.byteCells_length]; exact hD
 have e1 : (Lib.byteCells alpha.data.toList ++ row0.drop 64).take 64 = Lib.byteCells alpha.data.toList := by rw [← hal]; exact List.take_left
 rw [e1] at h2
 have hlt : g < w.heap.size := by
  rcases Nat.lt_or_ge g w.heap.size with h | h
  ·exact h
  ·rw [Array.getElem?_eq_none h] at hg; cases hg
 refine ⟨hlt, fun k hk => row_cell hg ?_, row_cell hg ?_, fun k hk _ => row_cell hg ?_, fun o => ?_⟩
 ·rw [h2, List.append_assoc, List.getElem?_append_left (by omega)]
  unfold Lib.byteCells
  have hk2 : k < alpha.data.toList.length := by show k < 64; exact hk
  rw [List.getElem?_map, List.getElem?_eq_getElem hk2]
  exact congrArg (fun x => some (Value.int .u8 x)) (alpha_c k hk)
 ·rw [h2, List.getElem?_append_right (by rw [List.length_append]; omega), List.length_append, hal, hdl, List.getElem?_drop, List.getElem?_append_right (by omega), hal, List.getElem?_drop]
  exact hp
 ·have hr := b64c_range k hk
  have hj : (b64c k).toNat < D.length := by omega
  rw [h2, List.getElem?_append_left (by rw [List.length_append]; omega), List.getElem?_append_right (by omega), hal, Nat.add_sub_cancel_left]
  unfold Lib.byteCells
  rw [List.getElem?_map, List.getElem?_eq_getElem hj, hD2 _ (List.getElem_mem hj)]
  rfl
 ·unfold World.frozen?
  simp [hg]
theorem NewEncoding_calls (w : World) : Calls Tryz.prog 118 #[.string alpha] w fun e w' => e = .returned (.pointer (some ⟨w.heap.size, 0, none⟩)) ∧ EncAt w.heap.size 64 w' ∧ Below w.heap.size w w' := by
 have hs := alpha_size
 have hal := alpha_bt
 have hneq : ((64 : Int) != 64) = false := by decide
 obtain ⟨W0, hW0⟩ : ∃ W, w.alloc (.cells (Tryz.zeroCells208.setIfInBounds 320 (.int .i32 61)) 208) = W := ⟨_, rfl⟩
 have hg0 : W0.heap[w.heap.size]? = some (.cells (Tryz.zeroCells208.setIfInBounds 320 (.int .i32 61)) 208 (0, 0)) := by rw [← hW0]; show (w.heap.push _)[w.heap.size]? = _; rw [Array.getElem?_push, if_pos rfl]
 have hp320 : (Tryz.zeroCells208.setIfInBounds 320 (.int .i32 61)).toList[320]? = some (.int .i32 61) := by
  rw [Array.getElem?_toList, Array.getElem?_setIfInBounds_self, if_pos (by have := encRow0_size; rw [Array.size_setIfInBounds] at this; omega)]
 have hB0 : Below w.heap.size w W0 := by rw [← hW0]; exact (Below.refl _ _).alloc (Nat.le_refl _) _
 obtain ⟨row0, hrow0⟩ : ∃ r, Tryz.zeroCells208.setIfInBounds 320 (.int .i32 61) = r := ⟨_, rfl⟩
 have hr322 := encRow0_size
 rw [hrow0] at hg0 hp320 hr322
 have h1 := Lib.run_copy_row_string (P := Tryz.prog) W0 23 9 3 5 w.heap.size 0 64 64 alpha row0 208 enc_types.1 enc_types.2 hg0 (by rw [hs]; omega) (by rw [hs, hr322]; omega)
 obtain ⟨W1, hW1⟩ : ∃ W, W0.setRow w.heap.size (row0.toList.take 0 ++ Lib.byteCells alpha.data.toList ++ row0.toList.drop (0 + alpha.size)).toArray = W := ⟨_, rfl⟩
 rw [hW1, hs] at h1
 have hg1 : W1.heap[w.heap.size]? = some (.cells (Lib.byteCells alpha.data.toList ++ row0.toList.drop 64).toArray 208 (0, 0)) := by
  rw [← hW1, setRow_heap W0 _ _ _ _ _ hg0, hs]
  simp
 have hl1 : (Lib.byteCells alpha.data.toList ++ row0.toList.drop 64).toArray.size = 322 := by
  show (Lib.byteCells alpha.data.toList ++ row0.toList.drop 64).length = 322
  have hrl : row0.toList.length = 322 := by rw [Array.length_toList]; exact hr322
  rw [List.length_append, Lib.byteCells_length, List.length_drop, hrl]
  decide
 obtain ⟨D, hD⟩ : ∃ D : ByteArray, (⟨#[255, 255, 255, 255, 255, 255, 255, 255, 255, 255, 255, 255, 255, 255, 255, 255, 255, 255, 255, 255, 255, 255, 255, 255, 255, 255, 255, 255, 255, 255, 255, 255, 255, 255, 255, 255, 255, 255, 255, 255, 255, 255, 255, 255, 255, 255, 255, 255, 255, 255, 255, 255, 255, 255, 255, 255, 255, 255, 255, 255, 255, 255, 255, 255, 255, 255, 255, 255, 255, 255, 255, 255, 255, 255, 255, 255, 255, 255, 255, 255, 255, 255, 255, 255, 255, 255, 255, 255, 255, 255, 255, 255, 255, 255, 255, 255, 255, 255, 255, 255, 255, 255, 255, 255, 255, 255, 255, 255, 255, 255, 255, 255, 255, 255, 255, 255, 255, 255, 255, 255, 255, 255, 255, 255, 255, 255, 255, 255, 255, 255, 255, 255, 255, 255, 255, 255, 255, 255, 255, 255, 255, 255, 255, 255, 255, 255, 255, 255, 255, 255, 255, 255, 255, 255, 255, 255, 255, 255, 255, 255, 255, 255, 255, 255, 255, 255, 255, 255, 255, 255, 255, 255, 255, 255, 255, 255, 255, 255, 255, 255, 255, 255, 255, 255, 255, 255, 255, 255, 255, 255, 255, 255, 255, 255, 255, 255, 255, 255, 255, 255, 255, 255, 255, 255, 255, 255, 255, 255, 255, 255, 255, 255, 255, 255, 255, 255, 255, 255, 255, 255, 255, 255, 255, 255, 255, 255, 255, 255, 255, 255, 255, 255, 255, 255, 255, 255, 255, 255, 255, 255, 255, 255, 255, 255, 255, 255, 255, 255, 255, 255, 255, 255, 255, 255, 255, 255]⟩ : ByteArray) = D := ⟨_, rfl⟩
 have hDs : D.data.toList.length = 256 := by rw [← hD]; rfl
 have hDz : D.size = 256 := hDs
 have hDa : ∀ x ∈ D.data.toList, x = 255 := by rw [← hD]; exact fun x hx => by simpa using hx
 have h2 := Lib.run_copy_row_string (P := Tryz.prog) W1 23 9 3 5 w.heap.size 64 256 256 D _ 208 enc_types.1 enc_types.2 hg1 (by rw [hDz]; omega) (by rw [hDz, hl1]; omega)
 obtain ⟨W2, hW2⟩ : ∃ W, W1.setRow w.heap.size ((Lib.byteCells alpha.data.toList ++ row0.toList.drop 64).toArray.toList.take 64 ++ Lib.byteCells D.data.toList ++ (Lib.byteCells alpha.data.toList ++ row0.toList.drop 64).toArray.toList.drop (64 + D.size)).toArray = W := ⟨_, rfl⟩
 rw [hW2, hDz] at h2
 have HE : Hid (EncAt w.heap.size 0 W2) := encAt_rows (by rw [← hW2]; exact setRow_heap W1 _ _ _ _ _ hg1) (by rw [Array.length_toList]; exact hr322) hp320 hDs hDa (by rw [hDz])
 have HB : Hid (Below w.heap.size w W2) := by
  show Below _ _ _
  rw [← hW2, ← hW1]
  exact below_setRow (below_setRow hB0 (Nat.le_refl _) _) (Nat.le_refl _) _
 rw [← hD] at h2
 dsimp only at h2
 have HA := Lib.hid hal
 clear hal hp320 hg1 hl1 hDs hDz hDa hB0 hr322 hD hW1 hW2 hg0
 rw [← hrow0] at *
 clear hrow0
 generalize alpha = a at hs h1 h2 HA ⊢
 go_enter Tryz.func118, Tryz.ntmps118
 go_wp2_with fail
 have HAR := Lib.hid alpha_apart
 have HRG := Lib.hid b64c_range
 clear h1 h2 hW0
 go_loopw [4] (fun v wr => ∃ i : Nat, i ≤ 64 ∧ v = .int .i64 i ∧ Hid (EncAt w.heap.size i wr) ∧ Hid (Below w.heap.size w wr)) (fun v _ => 64 - (intOf v).toNat)
 case atStart => exact ⟨0, by omega, rfl, HE.out, HB.out⟩
 case round =>
  obtain ⟨i, hi, rfl, HEi, HBi⟩ := hrel
  by_cases hlt : i < 64
  ·have hd' : decide ((i : Int) < 64) = true := decide_eq_true (by omega)
   have hia : i < a.size := by omega
   have hat := bt_at a i hia
   rw [HA.out i hlt] at hat
   have hr := HRG.out i hlt
   obtain ⟨q, hq⟩ : ∃ q : Nat, b64c i = q := ⟨(b64c i).toNat, by omega⟩
   have hc := HEi.out.rest i hlt (Nat.le_refl _)
   have hf := HEi.out.fr (64 + q)
   have hlw := HEi.out.lt
   rw [hq] at hat hr hc
   rw [Int.toNat_natCast] at hc
   have HQ := Lib.hid hq
   clear hq
   have e10 : ((q : Int) == 10) = false := beq_eq_false_iff_ne.2 (by omega)
   have e13 : ((q : Int) == 13) = false := beq_eq_false_iff_ne.2 (by omega)
   have hq2 : q < 256 := by omega
   go_wp2_with fail
   go_quiet (fail)
   go_wp2_with fail
   go_region
   all_goals go_wp2_with fail
   refine ⟨⟨i + 1, by omega, rfl, HEi.out.store hlt HQ.out hr _ _, ((pw_below_drewN HBi.out _).setCell (p := ⟨w.heap.size, 64 + q, none⟩) (Nat.le_refl _) _)⟩, by simp [intOf] <;> omega⟩
  ·obtain rfl : i = 64 := by omega
   go_wp2_with fail
   go_ret
   exact ⟨rfl, HEi.out, HBi.out⟩
theorem b64_drop : ∀ (j : Nat) (l : List Int), 3 * j ≤ l.length → (b64L l).drop (4 * j) = b64L (l.drop (3 * j))
 | 0, l, _ => by simp
 | j + 1, l, h => by
  match l, h with
  | a :: b :: c :: r, h =>
   have ih := b64_drop j r (by simp at h; omega)
   rw [show 4 * (j + 1) = 4 * j + 4 by omega, show 3 * (j + 1) = 3 * j + 3 by omega]
   show (b64c _ :: b64c _ :: b64c _ :: b64c _ :: b64L r).drop (4 * j + 4) = b64L ((a :: b :: c :: r).drop (3 * j + 3))
   simp only [List.drop_succ_cons]
   exact ih
  | [], h => simp at h
  | [_], h => simp at h; omega
  | [_, _], h => simp at h; omega
theorem b64_length : ∀ l : List Int, (b64L l).length = (l.length + 2) / 3 * 4
 | [] => rfl
 | [_] => by unfold b64L; simp
 | [_, _] => by unfold b64L; simp
 | a :: b :: c :: r => by
  have ih := b64_length r
  show (b64c _ :: b64c _ :: b64c _ :: b64c _ :: b64L r).length = _
  simp only [List.length_cons, ih]
  omega
theorem b64_take (j : Nat) (l : List Int) (h : 3 * j ≤ l.length) (m : List Int) (hm : (b64L l).drop (4 * j) = m ++ b64L (l.drop (3 * j + 3))) (hm4 : m.length = 4) : (b64L l).take (4 * j) ++ m = (b64L l).take (4 * (j + 1)) := by
 have h4 : (m ++ b64L (l.drop (3 * j + 3))).take 4 = m := by rw [List.take_append_of_le_length (by omega), List.take_of_length_le (by omega)]
 rw [show 4 * (j + 1) = 4 * j + 4 by omega, List.take_add, hm, h4]
structure Out (B N : Nat) (xs : List Int) (w : World) : Prop where
 lt : B < w.heap.size
 le : xs.length ≤ N
 got : ∀ k, k < xs.length → w.cell? ⟨B, k, none⟩ = some (.int .u8 (rn xs k))
 rest : ∀ k, xs.length ≤ k → k < N → w.cell? ⟨B, k, none⟩ = some (.int .u8 0)
 fr : ∀ o, w.frozen? ⟨B, o, none⟩ = false
theorem Out.push {B N : Nat} {xs : List Int} {w : World} (h : Out B N xs w) (hl : xs.length < N) (x : Int) {p : Nat} (hp : p = xs.length) : Out B N (xs ++ [x]) (w.setCell ⟨B, p, none⟩ (.int .u8 x)) := by
 subst hp
 have ho : ∀ k, k ≠ xs.length → (w.setCell ⟨B, xs.length, none⟩ (.int .u8 x)).cell? ⟨B, k, none⟩ = w.cell? ⟨B, k, none⟩ := fun k hk =>
  World.cell?_setCell_other (w := w) (a := ⟨B, xs.length, none⟩) (b := ⟨B, k, none⟩) (v := .int .u8 x) (by intro e; injection e with _ e2; omega)
 refine ⟨by simpa [World.setCell] using h.lt, by simp; omega, fun k hk => ?_, fun k h1 h2 => ?_, fun o => ?_⟩
 ·rw [List.length_append] at hk
  by_cases hx : k < xs.length
  ·rw [rn_app_lt hx]
   exact (ho k (by omega)).trans (h.got k hx)
  ·obtain rfl : k = xs.length := by simp at hk; omega
   rw [rn_app_ge (Nat.le_refl _), Nat.sub_self]
   exact World.cell?_setCell_same (w := w) (a := ⟨B, xs.length, none⟩) (v := .int .u8 x) (h.rest _ (Nat.le_refl _) hl)
 ·rw [List.length_append] at h1
  exact (ho k (by simp at h1; omega)).trans (h.rest k (by simp at h1; omega) h2)
 ·have := h.fr o
  simp [go_sem, this]
theorem Out.drewN {B N : Nat} {xs : List Int} {w : World} (h : Out B N xs w) (n : Nat) : Out B N xs (w.drewN n) :=
 ⟨by simpa [go_sem] using h.lt, h.le, fun k hk => by simpa [go_sem] using h.got k hk, fun k a b => by simpa [go_sem] using h.rest k a b, fun o => by simpa [go_sem] using h.fr o⟩
theorem Out.cast {B N : Nat} {xs ys : List Int} {w : World} (h : Out B N xs w) (e : xs = ys) : Out B N ys w := e ▸ h
abbrev four (W : World) (B p : Nat) (y1 y2 y3 y4 : Int) : World := (((W.setCell ⟨B, p, none⟩ (.int .u8 y1)).setCell ⟨B, p + 1, none⟩ (.int .u8 y2)).setCell ⟨B, p + 2, none⟩ (.int .u8 y3)).setCell ⟨B, p + 3, none⟩ (.int .u8 y4)
theorem Out.four {B N : Nat} {xs : List Int} {w : World} (h : Out B N xs w) (hl : xs.length + 4 ≤ N) {p : Nat} (hp : p = xs.length) (y1 y2 y3 y4 : Int) : Out B N (xs ++ [y1, y2, y3, y4]) (four w B p y1 y2 y3 y4) := by
 have h1 := h.push (by omega) y1 hp
 have h2 := h1.push (by simp; omega) y2 (p := p + 1) (by simp; omega)
 have h3 := h2.push (by simp; omega) y3 (p := p + 2) (by simp; omega)
 have h4 := h3.push (by simp; omega) y4 (p := p + 3) (by simp; omega)
 exact h4.cast (by simp)
theorem four_keeps {B p : Nat} {b0 : Nat} {a w : World} (h : Keeps b0 [B] a w) (y1 y2 y3 y4 : Int) : Keeps b0 [B] a (four w B p y1 y2 y3 y4) :=
 (((h.setCell (p := ⟨B, p, none⟩) (.inl (by simp)) _).setCell (p := ⟨B, p + 1, none⟩) (.inl (by simp)) _).setCell (p := ⟨B, p + 2, none⟩) (.inl (by simp)) _).setCell (p := ⟨B, p + 3, none⟩) (.inl (by simp)) _
theorem or_u64 (i : Nat) (hi : i ≤ 60) (x y : Int) (h0 : 0 ≤ x) (hx : x % 2 ^ i = 0) (h1 : x < 1152921504606846976) (hy : 0 ≤ y) (hy1 : y < 2 ^ i) (hy2 : y < 1152921504606846976) : bits .or .u64 x y = x + y :=
 bits_join .u64 60 (by decide) (fun n h0 h1 => by simp only [IntKind.wrap, IntKind.bits, IntKind.signed]; simp; omega) i x y h0 hx h1 hy hy1 hy2
theorem mask63 (x : Int) (h0 : 0 ≤ x) (h1 : x < 18446744073709551616) : bits .and .u64 x 63 = x % 64 := mask_u64 6 (by decide) x h0 h1
def lenOf : Value → Nat
 | .slice _ m _ => m
 | _ => 0
theorem drop3 (l : List Int) (k : Nat) (h : k + 3 ≤ l.length) : l.drop k = rn l k :: rn l (k + 1) :: rn l (k + 2) :: l.drop (k + 3) := by
 rw [List.drop_eq_getElem_cons (by omega), List.drop_eq_getElem_cons (by omega : k + 1 < l.length), List.drop_eq_getElem_cons (by omega : k + 1 + 1 < l.length), rn_lt (by omega), rn_lt (by omega), rn_lt (by omega)]
theorem quad {a0 a1 a2 V : Int} (hV : a0 * 65536 + a1 * 256 + a2 = V) (h0 : 0 ≤ a0 ∧ a0 ≤ 255) (h1 : 0 ≤ a1 ∧ a1 ≤ 255) (h2 : 0 ≤ a2 ∧ a2 ≤ 255) : V / 262144 % 64 = a0 / 4 ∧ V / 4096 % 64 = a0 % 4 * 16 + a1 / 16 ∧ V / 64 % 64 = a1 % 16 * 4 + a2 / 64 ∧ V % 64 = a2 % 64 := by omega
theorem Encode_calls (g B N b o n c : Nat) (l : List Int) (w : World) (hE : EncAt g 64 w) (hO : Out B N [] w) (hN : N = (n + 2) / 3 * 4) (hl : l.length = n) (hB : Byt w b o l) (hr : ∀ x ∈ l, 0 ≤ x ∧ x ≤ 255) (hbB : b ≠ B) (hgB : g ≠ B) (hbw : b < w.heap.size) (hn : n ≤ 400) (hc : n ≤ c) (hmx : c ≤ maxLen) :
  Calls Tryz.prog 153 #[.pointer (some ⟨g, 0, none⟩), .slice (some ⟨B, 0, none⟩) N N, .slice (some ⟨b, o, none⟩) n c] w fun e w' => (∃ v, e = .returned v) ∧ Out B N (b64L l) w' ∧ Keeps w.heap.size [B] w w' := by
 by_cases hn0 : n = 0
 ·subst hn0
  obtain rfl : l = [] := List.eq_nil_of_length_eq_zero hl
  go_enter Tryz.func153, Tryz.ntmps153
  go_wp2_with fail
  refine bodyPost_ret (results_none rfl _ _ _) rfl ?_
  exact ⟨⟨_, rfl⟩, hO, Keeps.refl _ _ _⟩
 have HE : Hid (∀ W, Keeps w.heap.size [B] w W → EncAt g 64 W) := fun W k => ⟨Nat.lt_of_lt_of_le hE.lt k.size, fun j hj => (k.cell (p := ⟨g, j, none⟩) hE.lt (by simpa using hgB)).trans (hE.enc j hj), (k.cell (p := ⟨g, 320, none⟩) hE.lt (by simpa using hgB)).trans hE.pad, fun j a b => absurd a (by omega), fun o => (k.frozen (p := ⟨g, o, none⟩) hE.lt (by simpa using hgB)).trans (hE.fr o)⟩
 have HBY : Hid (∀ W, Keeps w.heap.size [B] w W → Byt W b o l) := fun W k j hj => (k.cell (p := ⟨b, o + j, none⟩) hbw (by simpa using hbB)).trans (hB j hj)
 have HO := Lib.hid hO
 have HL := Lib.hid hl
 have HNN := Lib.hid hN
 have HR : Hid (∀ k, 0 ≤ rn l k ∧ rn l k ≤ 255) := fun k => by
  by_cases hk : k < l.length
  ·rw [rn_lt hk]; exact hr _ (List.getElem_mem hk)
  ·unfold rn; rw [List.getD_eq_getElem?_getD, List.getElem?_eq_none (by omega)]; exact ⟨by decide, by decide⟩
 have hn1 : ((n : Int) == 0) = false := beq_eq_false_iff_ne.2 (by omega)
 have hglt := hE.lt
 obtain ⟨cs, hcl, hcr⟩ : ∃ cs : List Value, cs.length = 64 ∧ w.rangeAt g 0 cs := ⟨(List.range 64).map fun k : Nat => .int .u8 (b64c k), by simp, fun j v hv => by
  obtain ⟨hj, rfl⟩ := List.getElem?_eq_some_iff.1 hv
  have hj2 : j < 64 := by simpa using hj
  rw [Nat.zero_add, hE.enc j hj2]
  simp⟩
 have HCR := Lib.hid (And.intro hcl hcr)
 clear hcl hcr
 have hNl : N ≤ 1000 := by omega
 unfold maxLen at hmx
 clear hE hO hl hN hB hr
 go_enter Tryz.func153, Tryz.ntmps153
 go_wp2_with (refine wpList_load_mid (by rfl) 205 (.tmp 14) (by rfl) g 0 (by rfl) cs _ HCR.out.2 Tryz.underlying205 rfl (by rw [HCR.out.1]; kernel_rfl) ?_; generalize Value.agg cs.toArray = vv; go_simp)
 go_loopw [1, 2] (fun d s wr => ∃ (j p q Nr nr cr : Nat), d = .slice (some ⟨B, p, none⟩) Nr Nr ∧ s = .slice (some ⟨b, q, none⟩) nr cr ∧ nr ≤ cr ∧ cr ≤ c ∧ Nr ≤ 1000 ∧ nr ≤ 400 ∧ Hid (N = 4 * j + Nr ∧ n = 3 * j + nr ∧ Nr = (nr + 2) / 3 * 4) ∧ Hid ((p = 4 * j ∨ Nr = 0) ∧ (q = o + 3 * j ∨ cr = 0)) ∧ Hid (Out B N ((b64L l).take (4 * j)) wr) ∧ Hid (Keeps w.heap.size [B] w wr)) (fun _ s _ => lenOf s)
 case atStart => exact ⟨0, 0, o, N, n, c, rfl, rfl, hc, Nat.le_refl _, hNl, hn, ⟨by omega, by omega, HNN.out⟩, ⟨.inl rfl, .inl (by omega)⟩, HO.out.cast (by simp), Keeps.refl _ _ _⟩
 case round =>
  obtain ⟨j, p, q, Nr, nr, cr, rfl, rfl, hnc, hcc, hNr, hnr, HEQ, HPQ, HOj, HKj⟩ := hrel
  have HEj := Lib.hid (HE.out _ HKj.out)
  have HBj := Lib.hid (HBY.out _ HKj.out)
  have HP2 : Hid (0 < Nr → p = 4 * j) := fun h => by have := HPQ.out; omega
  have HQ2 : Hid (0 < cr → q = o + 3 * j) := fun h => by have := HPQ.out; omega
  have HLT : Hid ((b64L l).length = N ∧ ((b64L l).take (4 * j)).length = 4 * j) := by
   have h1 := b64_length l
   have h2 := HEQ.out
   have h3 := HNN.out
   have h4 := HL.out
   rw [h4] at h1
   exact ⟨by omega, by rw [List.length_take]; omega⟩
  have hglj := HEj.out.lt
  have hBlj := HOj.out.lt
  have hBg : ¬ B = g := fun h => hgB h.symm
  by_cases h3 : 3 ≤ nr
  ·have hd3 : decide ((3 : Int) ≤ nr) = true := decide_eq_true (by omega)
   have hN4 : 4 ≤ Nr := by have := HEQ.out; omega
   have hp := HP2.out (by omega)
   have hq := HQ2.out (by omega)
   have hjl : 3 * j + 3 ≤ l.length := by have := HEQ.out; have := HL.out; omega
   have r0 := HR.out (3 * j)
   have r1 := HR.out (3 * j + 1)
   have r2 := HR.out (3 * j + 2)
   have b0 : wr.cell? ⟨b, q, none⟩ = some (.int .u8 (rn l (3 * j))) := by rw [hq]; exact HBj.out (3 * j) (by omega)
   have b1 : wr.cell? ⟨b, q + 1, none⟩ = some (.int .u8 (rn l (3 * j + 1))) := by rw [hq]; exact HBj.out (3 * j + 1) (by omega)
   have b2 : wr.cell? ⟨b, q + 2, none⟩ = some (.int .u8 (rn l (3 * j + 2))) := by rw [hq]; exact HBj.out (3 * j + 2) (by omega)
   have HD : Hid ((b64L l).drop (4 * j) = [b64c (rn l (3 * j) / 4), b64c (rn l (3 * j) % 4 * 16 + rn l (3 * j + 1) / 16), b64c (rn l (3 * j + 1) % 16 * 4 + rn l (3 * j + 2) / 64), b64c (rn l (3 * j + 2) % 64)] ++ b64L (l.drop (3 * j + 3))) := by
    show _ = _
    rw [b64_drop j l (by omega), drop3 l _ hjl]
    rfl
   generalize rn l (3 * j) = a0 at r0 b0 HD
   generalize rn l (3 * j + 1) = a1 at r1 b1 HD
   generalize rn l (3 * j + 2) = a2 at r2 b2 HD
   have g1 : bits .or .u64 (a0 * 65536) (a1 * 256) = a0 * 65536 + a1 * 256 := or_u64 16 (by decide) _ _ (by omega) (by omega) (by omega) (by omega) (by omega) (by omega)
   have g2 : bits .or .u64 (a0 * 65536 + a1 * 256) a2 = a0 * 65536 + a1 * 256 + a2 := or_u64 8 (by decide) _ _ (by omega) (by omega) (by omega) (by omega) (by omega) (by omega)
   obtain ⟨V, hV⟩ : ∃ V, a0 * 65536 + a1 * 256 + a2 = V := ⟨_, rfl⟩
   obtain ⟨k1, k2, k3, k4⟩ := quad hV r0 r1 r2
   have hV0 : 0 ≤ V ∧ V < 16777216 := by omega
   rw [hV] at g2
   have m1 := mask63 (V / 262144) (by omega) (by omega)
   rw [k1] at m1
   have m2 := mask63 (V / 4096) (by omega) (by omega)
   rw [k2] at m2
   have m3 := mask63 (V / 64) (by omega) (by omega)
   rw [k3] at m3
   have m4 := mask63 (V) (by omega) (by omega)
   rw [k4] at m4
   obtain ⟨x1, hx1⟩ : ∃ x : Nat, a0 / 4 = (x : Int) := ⟨(a0 / 4).toNat, by omega⟩
   obtain ⟨x2, hx2⟩ : ∃ x : Nat, a0 % 4 * 16 + a1 / 16 = (x : Int) := ⟨(a0 % 4 * 16 + a1 / 16).toNat, by omega⟩
   obtain ⟨x3, hx3⟩ : ∃ x : Nat, a1 % 16 * 4 + a2 / 64 = (x : Int) := ⟨(a1 % 16 * 4 + a2 / 64).toNat, by omega⟩
   obtain ⟨x4, hx4⟩ : ∃ x : Nat, a2 % 64 = (x : Int) := ⟨(a2 % 64).toNat, by omega⟩
   rw [hx1] at m1 HD
   have l1 : x1 < 64 := by omega
   have t1 := HEj.out.enc x1 l1
   rw [hx2] at m2 HD
   have l2 : x2 < 64 := by omega
   have t2 := HEj.out.enc x2 l2
   rw [hx3] at m3 HD
   have l3 : x3 < 64 := by omega
   have t3 := HEj.out.enc x3 l3
   rw [hx4] at m4 HD
   have l4 : x4 < 64 := by omega
   have t4 := HEj.out.enc x4 l4
   clear hx1 hx2 hx3 hx4
   have HV := Lib.hid hV
   clear hV k1 k2 k3 k4 hp hq hjl
   have d0 : wr.cell? ⟨B, p, none⟩ = some (.int .u8 0) := by have h1 := HLT.out; have h2 := HEQ.out; have h3 := HP2.out (by omega); exact HOj.out.rest _ (by rw [h1.2]; omega) (by omega)
   have f0 := HOj.out.fr (p)
   have d1 : wr.cell? ⟨B, p + 1, none⟩ = some (.int .u8 0) := by have h1 := HLT.out; have h2 := HEQ.out; have h3 := HP2.out (by omega); exact HOj.out.rest _ (by rw [h1.2]; omega) (by omega)
   have f1 := HOj.out.fr (p + 1)
   have d2 : wr.cell? ⟨B, p + 2, none⟩ = some (.int .u8 0) := by have h1 := HLT.out; have h2 := HEQ.out; have h3 := HP2.out (by omega); exact HOj.out.rest _ (by rw [h1.2]; omega) (by omega)
   have f2 := HOj.out.fr (p + 2)
   have d3 : wr.cell? ⟨B, p + 3, none⟩ = some (.int .u8 0) := by have h1 := HLT.out; have h2 := HEQ.out; have h3 := HP2.out (by omega); exact HOj.out.rest _ (by rw [h1.2]; omega) (by omega)
   have f3 := HOj.out.fr (p + 3)
   have HST : Hid (∀ W, Out B N ((b64L l).take (4 * j)) W → Out B N ((b64L l).take (4 * (j + 1))) (four W B p (b64c x1) (b64c x2) (b64c x3) (b64c x4))) := fun W h => by
    have h1 := HLT.out
    have h2 := HEQ.out
    have h3 := HP2.out (by omega)
    exact (h.four (by rw [h1.2]; omega) (by rw [h1.2]; exact h3) _ _ _ _).cast (b64_take j l (by have := HL.out; omega) _ HD.out rfl)
   have hcc2 := hcc
   by_cases hzc : cr = 3
   ·obtain rfl : nr = 3 := by omega
    subst hzc
    obtain rfl : Nr = 4 := by have := HEQ.out; omega
    go_wp2_with fail
    go_quiet (fail)
    go_wp2_with fail
    exact ⟨⟨j + 1, p, q, 0, 0, 0, rfl, rfl, by omega, by omega, by omega, by omega, ⟨by have := HEQ.out; omega, by have := HEQ.out; omega, by have := HEQ.out; omega⟩, ⟨by have := HPQ.out; omega, by have := HPQ.out; omega⟩, HST.out _ (HOj.out.drewN nq), four_keeps (HKj.out.drewN nq) _ _ _ _⟩, by simp [lenOf] <;> omega⟩
   ·by_cases hzN : Nr = 4
    ·subst hzN
     go_wp2_with fail
     go_quiet (fail)
     go_wp2_with fail
     exact ⟨⟨j + 1, p, q + 3, 0, (nr - 3), (cr - 3), rfl, rfl, by omega, by omega, by omega, by omega, ⟨by have := HEQ.out; omega, by have := HEQ.out; omega, by have := HEQ.out; omega⟩, ⟨by have := HPQ.out; omega, by have := HPQ.out; omega⟩, HST.out _ (HOj.out.drewN nq), four_keeps (HKj.out.drewN nq) _ _ _ _⟩, by simp [lenOf] <;> omega⟩
    ·skip
     go_wp2_with fail
     go_quiet (fail)
     go_wp2_with fail
     exact ⟨⟨j + 1, p + 4, q + 3, (Nr - 4), (nr - 3), (cr - 3), rfl, rfl, by omega, by omega, by omega, by omega, ⟨by have := HEQ.out; omega, by have := HEQ.out; omega, by have := HEQ.out; omega⟩, ⟨by have := HPQ.out; omega, by have := HPQ.out; omega⟩, HST.out _ (HOj.out.drewN nq), four_keeps (HKj.out.drewN nq) _ _ _ _⟩, by simp [lenOf] <;> omega⟩
  ·have hd3 : decide ((3 : Int) ≤ nr) = false := decide_eq_false (by omega)
   have hpad := HEj.out.pad
   have r0 := HR.out (3 * j)
   have r1 := HR.out (3 * j + 1)
   rcases (show nr = 0 ∨ nr = 1 ∨ nr = 2 by omega) with rfl | rfl | rfl
   ·have HF : Hid (Out B N (b64L l) wr) := HOj.out.cast (List.take_of_length_le (by have h1 := HLT.out; have h2 := HEQ.out; omega))
    go_wp2_with fail
    refine bodyPost_ret (results_none rfl _ _ _) rfl ?_
    exact ⟨⟨_, rfl⟩, HF.out, HKj.out⟩
   ·obtain rfl : Nr = 4 := by have := HEQ.out; omega
    have hp := HP2.out (by omega)
    have hq := HQ2.out (by omega)
    have hjl : l.length = 3 * j + 1 := by have := HEQ.out; have := HL.out; omega
    have b0 : wr.cell? ⟨b, q, none⟩ = some (.int .u8 (rn l (3 * j))) := by rw [hq]; exact HBj.out (3 * j) (by omega)
    have HD : Hid ((b64L l).drop (4 * j) = [b64c (rn l (3 * j) / 4), b64c (rn l (3 * j) % 4 * 16), 61, 61]) := by
     show _ = _
     rw [b64_drop j l (by omega), show l.drop (3 * j) = [rn l (3 * j)] by rw [List.drop_eq_getElem_cons (by omega), rn_lt (by omega), List.drop_of_length_le (by omega)]]
     rfl
    generalize rn l (3 * j) = a0 at r0 b0 HD
    obtain ⟨k1, k2, k3, k4⟩ := quad (a0 := a0) (a1 := 0) (a2 := 0) (V := a0 * 65536) (by omega) r0 (by omega) (by omega)
    have m1 := mask63 (a0 * 65536 / 262144) (by omega) (by omega)
    rw [k1] at m1
    have m2 := mask63 (a0 * 65536 / 4096) (by omega) (by omega)
    rw [k2, show a0 % 4 * 16 + 0 / 16 = a0 % 4 * 16 by omega] at m2
    obtain ⟨x1, hx1⟩ : ∃ x : Nat, a0 / 4 = (x : Int) := ⟨(a0 / 4).toNat, by omega⟩
    obtain ⟨x2, hx2⟩ : ∃ x : Nat, a0 % 4 * 16 = (x : Int) := ⟨(a0 % 4 * 16).toNat, by omega⟩
    rw [hx1] at m1 HD
    rw [hx2] at m2 HD
    have l1 : x1 < 64 := by omega
    have l2 : x2 < 64 := by omega
    have t1 := HEj.out.enc x1 l1
    have t2 := HEj.out.enc x2 l2
    obtain ⟨V, hV⟩ : ∃ V, a0 * 65536 = V := ⟨_, rfl⟩
    rw [hV] at m1 m2
    have hV0 : 0 ≤ V ∧ V < 16777216 := by omega
    clear hx1 hx2 k1 k2 k3 k4 hp hq hjl r1
    have d0 : wr.cell? ⟨B, p, none⟩ = some (.int .u8 0) := by have h1 := HLT.out; have h2 := HEQ.out; have h3 := HP2.out (by omega); exact HOj.out.rest _ (by rw [h1.2]; omega) (by omega)
    have f0 := HOj.out.fr (p)
    have d1 : wr.cell? ⟨B, p + 1, none⟩ = some (.int .u8 0) := by have h1 := HLT.out; have h2 := HEQ.out; have h3 := HP2.out (by omega); exact HOj.out.rest _ (by rw [h1.2]; omega) (by omega)
    have f1 := HOj.out.fr (p + 1)
    have d2 : wr.cell? ⟨B, p + 2, none⟩ = some (.int .u8 0) := by have h1 := HLT.out; have h2 := HEQ.out; have h3 := HP2.out (by omega); exact HOj.out.rest _ (by rw [h1.2]; omega) (by omega)
    have f2 := HOj.out.fr (p + 2)
    have d3 : wr.cell? ⟨B, p + 3, none⟩ = some (.int .u8 0) := by have h1 := HLT.out; have h2 := HEQ.out; have h3 := HP2.out (by omega); exact HOj.out.rest _ (by rw [h1.2]; omega) (by omega)
    have f3 := HOj.out.fr (p + 3)
    have HST : Hid (∀ W, Out B N ((b64L l).take (4 * j)) W → Out B N (b64L l) (four W B p (b64c x1) (b64c x2) 61 61)) := fun W h => by
     have h1 := HLT.out
     have h2 := HEQ.out
     have h3 := HP2.out (by omega)
     exact (h.four (by rw [h1.2]; omega) (by rw [h1.2]; exact h3) _ _ _ _).cast (by rw [← HD.out]; exact List.take_append_drop _ _)
    go_wp2_with fail
    first | go_end0 | refine bodyPost_ret (results_none rfl _ _ _) rfl ?_
    exact ⟨⟨_, rfl⟩, HST.out _ HOj.out, four_keeps HKj.out _ _ _ _⟩
   ·obtain rfl : Nr = 4 := by have := HEQ.out; omega
    have hp := HP2.out (by omega)
    have hq := HQ2.out (by omega)
    have hjl : l.length = 3 * j + 2 := by have := HEQ.out; have := HL.out; omega
    have b0 : wr.cell? ⟨b, q, none⟩ = some (.int .u8 (rn l (3 * j))) := by rw [hq]; exact HBj.out (3 * j) (by omega)
    have b1 : wr.cell? ⟨b, q + 1, none⟩ = some (.int .u8 (rn l (3 * j + 1))) := by rw [hq]; exact HBj.out (3 * j + 1) (by omega)
    have HD : Hid ((b64L l).drop (4 * j) = [b64c (rn l (3 * j) / 4), b64c (rn l (3 * j) % 4 * 16 + rn l (3 * j + 1) / 16), b64c (rn l (3 * j + 1) % 16 * 4), 61]) := by
     show _ = _
     rw [b64_drop j l (by omega), show l.drop (3 * j) = [rn l (3 * j), rn l (3 * j + 1)] by rw [List.drop_eq_getElem_cons (by omega), List.drop_eq_getElem_cons (by omega : 3 * j + 1 < l.length), rn_lt (by omega), rn_lt (by omega), List.drop_of_length_le (by omega)]]
     rfl
    generalize rn l (3 * j) = a0 at r0 b0 HD
    generalize rn l (3 * j + 1) = a1 at r1 b1 HD
    obtain ⟨k1, k2, k3, k4⟩ := quad (a0 := a0) (a1 := a1) (a2 := 0) (V := a0 * 65536 + a1 * 256) (by omega) r0 r1 (by omega)
    have g1 : bits .or .u64 (a0 * 65536) (a1 * 256) = a0 * 65536 + a1 * 256 := or_u64 16 (by decide) _ _ (by omega) (by omega) (by omega) (by omega) (by omega) (by omega)
    obtain ⟨V, hV⟩ : ∃ V, a0 * 65536 + a1 * 256 = V := ⟨_, rfl⟩
    have hV0 : 0 ≤ V ∧ V < 16777216 := by omega
    rw [hV] at g1 k1 k2 k3
    have m1 := mask63 (V / 262144) (by omega) (by omega)
    rw [k1] at m1
    have m2 := mask63 (V / 4096) (by omega) (by omega)
    rw [k2] at m2
    have m3 := mask63 (V / 64) (by omega) (by omega)
    rw [k3, show a1 % 16 * 4 + 0 / 64 = a1 % 16 * 4 by omega] at m3
    obtain ⟨x1, hx1⟩ : ∃ x : Nat, a0 / 4 = (x : Int) := ⟨(a0 / 4).toNat, by omega⟩
    obtain ⟨x2, hx2⟩ : ∃ x : Nat, a0 % 4 * 16 + a1 / 16 = (x : Int) := ⟨(a0 % 4 * 16 + a1 / 16).toNat, by omega⟩
    obtain ⟨x3, hx3⟩ : ∃ x : Nat, a1 % 16 * 4 = (x : Int) := ⟨(a1 % 16 * 4).toNat, by omega⟩
    rw [hx1] at m1 HD
    rw [hx2] at m2 HD
    rw [hx3] at m3 HD
    have l1 : x1 < 64 := by omega
    have l2 : x2 < 64 := by omega
    have l3 : x3 < 64 := by omega
    have t1 := HEj.out.enc x1 l1
    have t2 := HEj.out.enc x2 l2
    have t3 := HEj.out.enc x3 l3
    have HV := Lib.hid hV
    clear hV hx1 hx2 hx3 k1 k2 k3 k4 hp hq hjl
    have d0 : wr.cell? ⟨B, p, none⟩ = some (.int .u8 0) := by have h1 := HLT.out; have h2 := HEQ.out; have h3 := HP2.out (by omega); exact HOj.out.rest _ (by rw [h1.2]; omega) (by omega)
    have f0 := HOj.out.fr (p)
    have d1 : wr.cell? ⟨B, p + 1, none⟩ = some (.int .u8 0) := by have h1 := HLT.out; have h2 := HEQ.out; have h3 := HP2.out (by omega); exact HOj.out.rest _ (by rw [h1.2]; omega) (by omega)
    have f1 := HOj.out.fr (p + 1)
    have d2 : wr.cell? ⟨B, p + 2, none⟩ = some (.int .u8 0) := by have h1 := HLT.out; have h2 := HEQ.out; have h3 := HP2.out (by omega); exact HOj.out.rest _ (by rw [h1.2]; omega) (by omega)
    have f2 := HOj.out.fr (p + 2)
    have d3 : wr.cell? ⟨B, p + 3, none⟩ = some (.int .u8 0) := by have h1 := HLT.out; have h2 := HEQ.out; have h3 := HP2.out (by omega); exact HOj.out.rest _ (by rw [h1.2]; omega) (by omega)
    have f3 := HOj.out.fr (p + 3)
    have HST : Hid (∀ W, Out B N ((b64L l).take (4 * j)) W → Out B N (b64L l) (four W B p (b64c x1) (b64c x2) (b64c x3) 61)) := fun W h => by
     have h1 := HLT.out
     have h2 := HEQ.out
     have h3 := HP2.out (by omega)
     exact (h.four (by rw [h1.2]; omega) (by rw [h1.2]; exact h3) _ _ _ _).cast (by rw [← HD.out]; exact List.take_append_drop _ _)
    go_wp2_with fail
    go_quiet (fail)
    go_wp2_with fail
    first | go_end0 | refine bodyPost_ret (results_none rfl _ _ _) rfl ?_
    exact ⟨⟨_, rfl⟩, HST.out _ (HOj.out.drewN nq), four_keeps (HKj.out.drewN nq) _ _ _ _⟩
theorem made_bytes (N : Nat) (hN : N ≤ 1000) : ∀ W : World, (Instr.makeSlice 23 (.int .i64 N) (.int .i64 N)).run Tryz.prog W = .ok (.slice (some ⟨W.heap.size, 0, none⟩) N N) (W.alloc (.cells (madeCells #[.int .u8 0] N) 5)) := by
 intro W
 obtain ⟨i, hi, hzz⟩ := Option.map_eq_some_iff.1 info_u8
 simp only [Prod.mk.injEq] at hzz
 obtain ⟨hz, hs, hb⟩ := hzz
 have := run_make (P := Tryz.prog) W 23 5 i (.int .u8 0) Tryz.underlying23 hi hz .i64 .i64 N N (by omega) (by omega) (by rw [hb]; omega) (by omega)
 rw [hs, Nat.mul_one] at this
 exact this
theorem made_out (w : World) (N : Nat) : Out w.heap.size N [] (w.alloc (.cells (madeCells #[.int .u8 0] N) 5)) := by
 have h := World.rowIs_made w (.int .u8 0) N 5
 exact ⟨h.lt, Nat.zero_le _, fun k hk => absurd hk (Nat.not_lt_zero _), fun k _ hk => h.cell hk, fun o => h.frozen o⟩
theorem EncodedLen_calls (g n : Nat) (w : World) (hn : n ≤ 400) (hE : EncAt g 64 w) : Calls Tryz.prog 152 #[.pointer (some ⟨g, 0, none⟩), .int .i64 n] w fun e w' => e = .returned (.int .i64 ((n + 2) / 3 * 4 : Nat)) ∧ w' = w := by
 have hp := hE.pad
 go_enter Tryz.func152, Tryz.ntmps152
 go_wp2_with fail
 go_ret
 exact ⟨by simp <;> omega, rfl⟩
theorem EncodeToString_calls (g b o n c : Nat) (l : List Int) (w : World) (hE : EncAt g 64 w) (hl : l.length = n) (hB : Byt w b o l) (hr : ∀ x ∈ l, 0 ≤ x ∧ x ≤ 255) (hbw : b < w.heap.size) (hn : n ≤ 400) (hc : n ≤ c) (hmx : c ≤ maxLen) :
  Calls Tryz.prog 119 #[.pointer (some ⟨g, 0, none⟩), .slice (some ⟨b, o, none⟩) n c] w fun e w' => e = .returned (.string (strOfNums (b64L l))) ∧ Below w.heap.size w w' := by
 have HL := Lib.hid (EncodedLen_calls g n w hn hE)
 obtain ⟨N, hN⟩ : ∃ N, (n + 2) / 3 * 4 = N := ⟨_, rfl⟩
 rw [hN] at HL
 have hN0 : N ≤ 1000 := by omega
 have hmk := made_bytes N hN0 w
 have hb1 : Below w.heap.size w (w.alloc (.cells (madeCells #[.int .u8 0] N) 5)) := (Below.refl _ _).alloc (Nat.le_refl _) _
 have hlen : (b64L l).length = N := by rw [b64_length, hl]; exact hN
 have HC := Lib.hid (Encode_calls g w.heap.size N b o n c l _ (hE.below hb1 hE.lt) (made_out w N) hN.symm hl (hB.below hb1 hbw) hr (by omega) (by have := hE.lt; omega) (by simp; omega) hn hc hmx)
 have HB := Lib.hid hb1
 have hnn : (0 : Int) ≤ N := by omega
 clear hE hB hr hb1 hN hl
 obtain ⟨W1, hW1⟩ : ∃ W, w.alloc (.cells (madeCells #[.int .u8 0] N) 5) = W := ⟨_, rfl⟩
 rw [hW1] at HC HB hmk
 go_enter Tryz.func119, Tryz.ntmps119
 go_wp2_with fail
 refine HL.out.mono ?_
 rintro e w9 ⟨rfl, rfl⟩
 go_wp2_with fail
 refine HC.out.mono ?_
 rintro e w2 ⟨⟨vv, rfl⟩, ho, hk⟩
 have hcv : (convert 23 9 (.slice (some ⟨w9.heap.size, 0, none⟩) N N)).run Tryz.prog w2 = .ok (.string (strOfNums (b64L l))) w2 := by
  have := conv_byt w2 w9.heap.size 0 N (b64L l) (fun j hj => by rw [Nat.zero_add]; exact ho.got j hj)
  rwa [hlen] at this
 have HW : Hid (Below w9.heap.size w9 w2) := HB.out.trans (hk.below HB.out.size (by intro s hs; simp at hs; omega))
 clear ho hk
 go_wp2_with fail
 go_ret
 exact ⟨rfl, HW.out⟩
theorem zzBase64_calls (b o n c : Nat) (l : List Int) (w : World) (hl : l.length = n) (hB : Byt w b o l) (hr : ∀ x ∈ l, 0 ≤ x ∧ x ≤ 255) (hbw : b < w.heap.size) (hn : n ≤ 400) (hc : n ≤ c) (hmx : c ≤ maxLen) :
  Calls Tryz.prog 71 #[.slice (some ⟨b, o, none⟩) n c] w fun e w' => e = .returned (.string (strOfNums (b64L l))) ∧ Below w.heap.size w w' := by
 have HN := Lib.hid (NewEncoding_calls w)
 have HC : Hid (∀ W, Below w.heap.size w W → EncAt w.heap.size 64 W → Calls Tryz.prog 119 #[.pointer (some ⟨w.heap.size, 0, none⟩), .slice (some ⟨b, o, none⟩) n c] W fun e w' => e = .returned (.string (strOfNums (b64L l))) ∧ Below W.heap.size W w') :=
  fun W hW hE => EncodeToString_calls w.heap.size b o n c l W hE hl (hB.below hW hbw) hr (Nat.lt_of_lt_of_le hbw hW.size) hn hc hmx
 clear hB hr hl
 go_enter Tryz.func71, Tryz.ntmps71
 go_wp2_with fail
 refine HN.out.mono ?_
 rintro e w1 ⟨rfl, he, hw⟩
 have HW := Lib.hid hw
 have HE := Lib.hid he
 clear he hw
 go_wp2_with fail
 refine (HC.out _ HW.out HE.out).mono ?_
 rintro e w2 ⟨rfl, hw⟩
 have HW2 := Lib.hid (HW.out.trans (hw.mono HW.out.size))
 clear hw
 go_wp2_with fail
 go_ret
 exact ⟨rfl, HW2.out⟩
theorem zzHex2_calls (b : Int) (h0 : 0 ≤ b) (h1 : b ≤ 255) (w : World) :
  Calls Tryz.prog 72 #[.int .u8 b] w fun e w' => ∃ u, e = .returned (.string u) ∧ StrIs u [hexd (b / 16), hexd (b % 16)] ∧ Below w.heap.size w w' := by
 have a0 : 0 ≤ b / 16 := by omega
 have a1 : b / 16 < 16 := by omega
 have a2 : 0 ≤ b % 16 := by omega
 have a3 : b % 16 < 16 := by omega
 have hc := fun (x y : Int) => lit_str2_drew w x y
 go_enter Tryz.func72, Tryz.ntmps72
 go_wp2
 go_region
 go_wp2
 go_ret
 exact ⟨_, rfl, ⟨by rw [← hexc (b / 16) (by omega) a0, ← hexc (b % 16) (by omega) a2]⟩, ((Below.refl _ _).alloc (Nat.le_refl _) _).drew⟩
end Go.Proofs.YtkeakdjbidbegaaGreatDoor
namespace Go.Proofs.YtkeakdjbidbegaaGreatDoor
open Go.RowKit Go.Proofs
open Go.Proofs.YtkeakdjbidbegaaGreatDoorW.PrintWords
def encR (x : Int) : Value := .int .i32 x
def ltR (a b : Int) : Bool := decide (a < b)
theorem swoR : Go.Sort.SWO ltR := ⟨fun x => by simp [ltR], fun x y z h1 h2 => by simp only [ltR, decide_eq_true_eq] at *; omega, fun x y z h1 h2 => by simp only [ltR, decide_eq_false_iff_not] at *; omega⟩
theorem runes_ascii (s : ByteArray) (h : ∀ j, j < s.size → bt s j < 128) : ∀ (f i : Nat) (acc : Array Value), i + f = s.size → Conv.runesFrom s f i acc = acc ++ (((bytesOf s).drop i).map encR).toArray
 | 0, i, acc, hi => by
  rw [List.drop_of_length_le (by rw [bytesOf_length]; omega)]
  simp [Conv.runesFrom]
 | f + 1, i, acc, hi => by
  have hlt : i < s.size := by omega
  have hat := bt_at s i hlt
  have hl := h i hlt
  have hd : Utf8.decode s i = ((s[i]'hlt).toNat, 1) := decode_ascii s i hlt (by omega)
  have hbl : i < (bytesOf s).length := by rw [bytesOf_length]; exact hlt
  unfold Conv.runesFrom
  rw [if_pos hlt, hd]
  show Conv.runesFrom s f (i + 1) (acc.push (.int .i32 (((s[i]'hlt).toNat : Nat) : Int))) = _
  rw [runes_ascii s h f (i + 1) _ (by omega), hat, List.drop_eq_getElem_cons hbl, ← rn_lt hbl, rn_bytes]
  simp [encR]
theorem runesBytes_ascii : ∀ (l : List Int) (r : ByteArray), (∀ x ∈ l, 0 ≤ x ∧ x < 128) → l.foldl (fun r n => r ++ Utf8.encode n) r = r ++ strOfNums l
 | [], r, _ => by
  apply WideShapes.bytes_inj
  rw [ByteArray.data_append, Array.toList_append, strOfNums_data]
  simp
 | x :: l, r, h => by
  have hx := h x (List.mem_cons_self ..)
  have he : Utf8.encode x = strOfNums [x] := by
   have hv : Utf8.valid x = true := by
    unfold Utf8.valid
    simp only [Bool.or_eq_true, Bool.and_eq_true, decide_eq_true_eq]
    omega
   unfold Utf8.encode
   simp only [hv, if_true]
   rw [if_pos (by omega)]
   rfl
  rw [List.foldl_cons, runesBytes_ascii l _ fun y hy => h y (List.mem_cons_of_mem _ hy), he]
  apply WideShapes.bytes_inj
  simp only [ByteArray.data_append, Array.toList_append, strOfNums_data, List.map_cons, List.append_assoc, List.map_nil]
  rfl
theorem sorted_same {d d' : Array Int} (hp : Go.Sort.PermIn 0 d.size d d') (hs : Go.Sort.SortedIn ltR 0 d.size d') (hd : ∀ i j, i < j → j < d.size → d[i]! ≤ d[j]!) : d' = d := by
 obtain ⟨h1, _, h3⟩ := hp
 have e1 : (d.extract 0 d.size).toList = d.toList := by simp
 have e2 : (d'.extract 0 d.size).toList = d'.toList := by rw [← h1]; simp
 rw [e1, e2] at h3
 have p1 : d'.toList.Pairwise (· ≤ ·) := by
  rw [List.pairwise_iff_getElem]
  intro i j hi hj hij
  have hi2 : i < d'.size := by simpa using hi
  have hj2 : j < d'.size := by simpa using hj
  have := hs i j (Nat.zero_le _) hij (by omega)
  simp only [ltR, decide_eq_false_iff_not] at this
  rw [getElem!_pos d' j hj2, getElem!_pos d' i hi2] at this
  simp only [Array.getElem_toList]
  omega
 have p2 : d.toList.Pairwise (· ≤ ·) := by
  rw [List.pairwise_iff_getElem]
  intro i j hi hj hij
  have hi2 : i < d.size := by simpa using hi
  have hj2 : j < d.size := by simpa using hj
  have := hd i j hij hj2
  rw [getElem!_pos d j hj2, getElem!_pos d i hi2] at this
  simp only [Array.getElem_toList]
  exact this
 exact Array.toList_inj.1 (h3.eq_of_pairwise (fun a b _ _ h h' => Int.le_antisymm h h') p1 p2)
theorem reaches_of {name : String} {f : Nat} (h1 : ∀ rv w, (method (Tryz.prog.types.size + Made.depth) 175 rv name).run Tryz.prog w = .ok (f, rv) w) (h2 : ∀ args w, (callFunc f args).run Tryz.prog w = .ok (.enter f args) w) (rv : Value) : Reaches Tryz.prog 175 rv name f := ⟨fun w => h1 rv w, h2⟩
theorem reach_len (rv : Value) : Reaches Tryz.prog 175 rv "Len" 249 := reaches_of (fun rv w => by kernel_rfl) (fun args w => by kernel_rfl) rv
theorem reach_less (rv : Value) : Reaches Tryz.prog 175 rv "Less" 250 := reaches_of (fun rv w => by kernel_rfl) (fun args w => by kernel_rfl) rv
theorem reach_swap (rv : Value) : Reaches Tryz.prog 175 rv "Swap" 251 := reaches_of (fun rv w => by kernel_rfl) (fun args w => by kernel_rfl) rv
theorem sort_len (A : Option Addr) (n c : Nat) (w : World) : LenM Tryz.prog 249 (.slice A n c) n w := by
 unfold LenM
 go_enter Tryz.func249, Tryz.ntmps249
 go_wp2
 go_ret
 exact ⟨rfl, 0, rfl⟩
theorem holds_cell {W : World} {B n : Nat} {dk : Array Int} (h : Go.Sort.Holds encR W B 0 dk) (hn : dk.size = n) {i : Nat} (hi : i < n) : W.cell? ⟨B, i, none⟩ = some (.int .i32 dk[i]!) ∧ W.frozen? ⟨B, i, none⟩ = false := by
 have := h i (by omega)
 rwa [Nat.zero_add] at this
theorem less_calls (B n c : Nat) (W : World) (dk : Array Int) (h : Go.Sort.Holds encR W B 0 dk) (hn : dk.size = n) (hnc : n ≤ c) (hc : c ≤ maxLen) (i j : Nat) (hi : i < n) (hj : j < n) :
  Calls Tryz.prog 250 #[.slice (some ⟨B, 0, none⟩) n c, .int .i64 i, .int .i64 j] W fun e w' => e = .returned (.bool (ltR dk[i]! dk[j]!)) ∧ ∃ q, w' = W.drewN q := by
 have h1 := (holds_cell h hn hi).1
 have h2 := (holds_cell h hn hj).1
 unfold maxLen at hc
 have i0 : (0 : Int) ≤ i := by omega
 have i1 : (i : Int) < n := by omega
 have j0 : (0 : Int) ≤ j := by omega
 have j1 : (j : Int) < n := by omega
 generalize dk[i]! = x at h1 ⊢
 generalize dk[j]! = y at h2 ⊢
 clear h hn
 go_enter Tryz.func250, Tryz.ntmps250
 go_wp2_with fail
 go_quiet (fail)
 go_wp2_with fail
 go_ret
 exact ⟨rfl, nq, rfl⟩
theorem sort_swap (B n c : Nat) (hnc : n ≤ c) (hc : c ≤ maxLen) : SwapM Tryz.prog 251 (.slice (some ⟨B, 0, none⟩) n c) encR B 0 n := by
 intro W dk h hn i j hi hj
 obtain ⟨h1, f1⟩ := holds_cell h hn hi
 obtain ⟨h2, f2⟩ := holds_cell h hn hj
 rw [Nat.zero_add, Nat.zero_add]
 unfold maxLen at hc
 have i0 : (0 : Int) ≤ i := by omega
 have i1 : (i : Int) < n := by omega
 have j0 : (0 : Int) ≤ j := by omega
 have j1 : (j : Int) < n := by omega
 unfold encR
 generalize dk[i]! = x at h1 ⊢
 generalize dk[j]! = y at h2 ⊢
 clear h hn
 go_enter Tryz.func251, Tryz.ntmps251
 go_wp2_with fail
 by_cases hij : i = j
 ·subst hij
  obtain rfl : x = y := by have := h1.symm.trans h2; injection this with h; injection h
  clear h2 f2
  go_region
  all_goals go_wp2_with fail
  all_goals go_end0
  all_goals first | exact ⟨rfl, 1, rfl⟩ | exact ⟨rfl, 0, rfl⟩
 ·go_region
  all_goals go_wp2_with fail
  all_goals go_end0
  all_goals first | exact ⟨rfl, 1, rfl⟩ | exact ⟨rfl, 0, rfl⟩
theorem sort_less (B n c : Nat) (w : World) (d : Array Int) (h : Go.Sort.Holds encR w B 0 d) (hd : d.size = n) (hB : B < w.heap.size) (hnc : n ≤ c) (hc : c ≤ maxLen) : LessM Tryz.prog 250 (.slice (some ⟨B, 0, none⟩) n c) encR ltR B 0 n w := by
 intro m os dk hdk i j hi hj
 refine less_calls B n c _ dk ?_ hdk hnc hc i j hi hj
 exact Go.Sort.holds_grow encR _ os B 0 dk (by simpa using hB) (Go.Sort.holds_putRow encR _ B 0 d dk (Go.Sort.holds_ahead encR w m B 0 d h) (by omega))
theorem sort_rising (B n c : Nat) (w : World) (d : Array Int) (h : Go.Sort.Holds encR w B 0 d) (hd : d.size = n) (hB : B < w.heap.size) (hnc : n ≤ c) (hc : c ≤ maxLen) (hn : n ≤ 400) (hr : ∀ i j, i < j → j < d.size → d[i]! ≤ d[j]!) :
  Calls Tryz.prog 126 #[.iface 175 (.slice (some ⟨B, 0, none⟩) n c)] w fun e w' => (∃ v, e = .returned v) ∧ Below w.heap.size w w' := by
 by_cases h2 : n ≤ 1
 ·refine (Tryz.sort_Sort_tiny (α := Int) 175 _ _ (reach_len _) n h2 w (sort_len _ n c w)).mono ?_
  rintro e w' ⟨rfl, q, rfl⟩
  exact ⟨⟨_, rfl⟩, pw_below_drewN (Below.refl _ _) q⟩
 ·subst hd
  refine (Tryz.sort_Sort_sorted 175 _ _ _ _ (reach_len _) (reach_less _) (reach_swap _) encR ltR swoR B 0 d (by omega) (by omega) w (sort_len _ d.size c w) (sort_less B d.size c w d h rfl hB hnc hc) (sort_swap B d.size c hnc hc) h hB).mono ?_
  rintro e w' ⟨rfl, d', q, os, hp, hs, rfl⟩
  obtain rfl := sorted_same hp hs hr
  rw [Go.Sort.putRow_self encR _ B 0 d' (Go.Sort.holds_ahead encR w q B 0 d' h)]
  exact ⟨⟨_, rfl⟩, ⟨rfl, rfl, rfl, by simp, fun k hk => Go.Sort.heap_grow_old _ _ (by simpa using hk)⟩⟩
theorem sortString_calls (s : ByteArray) (hs : s.size ≤ 300) (hr : ∀ j, j < s.size → 97 ≤ bt s j ∧ bt s j ≤ 122 ∧ (0 < j → bt s (j - 1) ≤ bt s j)) (w : World) :
  Calls Tryz.prog 79 #[.string s] w fun e w' => e = .returned (.string s) ∧ Below w.heap.size w w' := by
 have hrun : Conv.runesFrom s s.size 0 #[] = ((bytesOf s).map encR).toArray := by
  rw [runes_ascii s (fun j hj => by have := (hr j hj).2.1; omega) s.size 0 #[] (by omega)]
  simp
 have hlen : ((bytesOf s).map encR).toArray.size = s.size := by simp [bytesOf_length]
 obtain ⟨C, hC⟩ : ∃ C, grownCap w s.size 0 21 = C := ⟨_, rfl⟩
 have hCge : s.size ≤ C := by rw [← hC]; exact grownCap_ge w s.size 0 21
 have hcv := run_runes_of_string (P := Tryz.prog) w 9 174 21 s Tryz.underlying9 Tryz.underlying174 Tryz.underlying21 (by rw [hrun, hlen]; omega)
 rw [hrun, hlen, hC] at hcv
 have hCm : C ≤ maxLen := by rw [← hC]; exact grownCap_le_maxLen w s.size 0 _ (by unfold maxLen; omega)
 obtain ⟨W1, hW1⟩ : ∃ W, w.drew.alloc (.cells (((bytesOf s).map encR).toArray ++ Array.replicate (C - s.size) (.int .i32 0)) 21) = W := ⟨_, rfl⟩
 have hB1 : Below w.heap.size w W1 := by rw [← hW1]; exact (Below.refl _ _).drew.alloc (Nat.le_refl _) _
 have hlt : w.heap.size < W1.heap.size := by rw [← hW1]; simp [go_sem]
 have hheap : W1.heap[w.heap.size]? = some (.cells (((bytesOf s).map encR).toArray ++ Array.replicate (C - s.size) (.int .i32 0)) 21 (0, 0)) := by
  rw [← hW1]
  show (w.heap.push _)[w.heap.size]? = _
  rw [Array.getElem?_push, if_pos rfl]
 have hbl := bytesOf_length s
 have hcell : ∀ j, j < s.size → W1.cell? ⟨w.heap.size, j, none⟩ = some (.int .i32 (rn (bytesOf s) j)) := fun j hj => by
  unfold World.cell?
  simp only [hheap]
  rw [if_neg (by simp), Array.getElem?_append_left (by omega), List.getElem?_toArray, List.getElem?_map, List.getElem?_eq_getElem (by omega), rn_lt (by omega)]
  rfl
 have hfr : ∀ o, W1.frozen? ⟨w.heap.size, o, none⟩ = false := fun o => by unfold World.frozen?; simp [hheap]
 have hget : ∀ j, j < s.size → (bytesOf s).toArray[j]! = rn (bytesOf s) j := fun j hj => by
  rw [getElem!_pos _ j (by simpa [hbl] using hj), rn_lt (by omega)]
  simp
 have hH : Go.Sort.Holds encR W1 w.heap.size 0 (bytesOf s).toArray := fun j hj => by
  have hj2 : j < s.size := by simpa [hbl] using hj
  rw [Nat.zero_add, hget j hj2]
  exact ⟨hcell j hj2, hfr j⟩
 have hrise : ∀ i j, i < j → j < (bytesOf s).toArray.size → (bytesOf s).toArray[i]! ≤ (bytesOf s).toArray[j]! := by
  have key : ∀ k i, i + k < s.size → bt s i ≤ bt s (i + k) := by
   intro k
   induction k with
   | zero => intro i _; exact Int.le_refl _
   | succ k ih =>
    intro i hi
    have h1 := ih i (by omega)
    have h2 := (hr (i + k + 1) (by omega)).2.2 (by omega)
    rw [Nat.add_sub_cancel] at h2
    have : i + (k + 1) = i + k + 1 := by omega
    rw [this]
    omega
  intro i j hij hj
  have hj2 : j < s.size := by simpa [hbl] using hj
  rw [hget i (by omega), hget j hj2, rn_bytes, rn_bytes]
  have := key (j - i) i (by omega)
  rwa [show i + (j - i) = j by omega] at this
 have HC := Lib.hid (sort_rising w.heap.size s.size C W1 (bytesOf s).toArray hH (by simp [hbl]) hlt hCge hCm (by omega) hrise)
 have HB := Lib.hid hB1
 have HCE := Lib.hid hcell
 have hback : strOfNums (bytesOf s) = s := (strIs_bytes s).out.symm
 have HBK : Hid (∀ W, Below W1.heap.size W1 W → (convert 174 9 (.slice (some ⟨w.heap.size, 0, none⟩) s.size C)).run Tryz.prog W = .ok (.string s) W) := fun W hW => by
  rw [run_convert_runes W 174 9 21 ⟨w.heap.size, 0, none⟩ s.size C (bytesOf s) (by omega) Tryz.underlying174 Tryz.underlying21 Tryz.underlying9 (fun j hj => by
   have e1 : (⟨w.heap.size, 0, none⟩ : Addr).add j = ⟨w.heap.size, j, none⟩ := by unfold Addr.add; split <;> simp_all
   rw [e1]
   exact (hW.cell (p := ⟨w.heap.size, j, none⟩) hlt).trans (hcell j (by omega)))]
  rw [List.take_of_length_le (by omega)]
  have := runesBytes_ascii (bytesOf s) ByteArray.empty (fun x hx => by
   obtain ⟨k, hk, rfl⟩ := List.getElem_of_mem hx
   have h3 := hr k (by omega)
   rw [← rn_lt hk, rn_bytes]
   omega)
  unfold runesBytes
  rw [this, hback]
  (try congr 1) <;> (try congr 1) <;> (try (apply WideShapes.bytes_inj; simp))
 rw [hW1] at hcv
 clear hrun hlen hC hCge hCm hB1 hheap hbl hcell hfr hget hH hrise hback hr hW1
 go_enter Tryz.func79, Tryz.ntmps79
 go_wp2_with fail
 refine HC.out.mono ?_
 rintro e w2 ⟨⟨v, rfl⟩, hw⟩
 have cv2 := HBK.out w2 hw
 have HW : Hid (Below w.heap.size w w2) := HB.out.trans (hw.mono HB.out.size)
 clear hw
 go_wp2_with fail
 go_ret
 exact ⟨rfl, HW.out⟩
end Go.Proofs.YtkeakdjbidbegaaGreatDoor
