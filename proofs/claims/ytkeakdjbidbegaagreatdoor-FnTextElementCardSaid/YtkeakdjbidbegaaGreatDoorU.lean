/- A part of the proof that laws.FnTextElement returns true at every input: Vstr, Elem. -/
import Derived.Test.YtkeakdjbidbegaaGreatDoorK
import Derived.Test.YtkeakdjbidbegaaGreatDoorP
import Derived.Deep.Cut
import Derived.Deep.CutRange
import Derived.Deep.CutBlock
import Derived.Deep.DeepCutAuto
set_option linter.unusedSimpArgs false
set_option linter.unusedVariables false
set_option maxRecDepth 100000
set_option maxHeartbeats 8000000
namespace Go.Proofs.YtkeakdjbidbegaaGreatDoor
open Go.RowKit
open Go.Proofs.YtkeakdjbidbegaaGreatDoorW.PrintWords
theorem StringN_3 {A : Option Addr} {m c : Nat} {l : List Int} {n : Int} {w : World} (hOK : ∀ W, Below w.heap.size w W → Calls Tryz.prog 66 #[.agg #[.int .u8 3, .slice A m c]] W (OkAns (.slice A m c) W)) (hS : ∀ W, Below w.heap.size w W → Calls Tryz.prog 67 #[.slice A m c, .int .i64 n] W (StrN l n W)) :
  Calls Tryz.prog 36 #[.agg #[.int .u8 3, .slice A m c], .int .i64 n] w (StrN l n w) := by
 have HB1 : Hid (Below w.heap.size w (w.alloc (.cells #[.int .u8 3, .slice A m c] 67))) := (Below.refl _ _).alloc (Nat.le_refl _) _
 have HOK := Lib.hid hOK
 have HS := Lib.hid hS
 clear hOK hS
 go_enter Tryz.func36, Tryz.ntmps36
 go_wp2_with fail
 refine (HOK.out _ HB1.out).mono ?_
 rintro e w2 ⟨rfl, hw⟩
 have HB2 := Lib.hid (HB1.out.trans (hw.mono HB1.out.size))
 clear hw
 go_wp2_with fail
 refine (HS.out _ HB2.out).mono ?_
 rintro e w3 ⟨u, rfl, hu, hw⟩
 obtain ⟨tb, htb⟩ : ∃ tb, decide (0 ≤ n ∧ n < (l.length : Int)) = tb := ⟨_, rfl⟩
 rw [htb]
 have HTB := Lib.hid htb
 clear htb
 have HU := Lib.hid hu
 have HB3 := Lib.hid (HB2.out.trans (hw.mono HB2.out.size))
 clear hu hw
 go_wp2_with fail
 go_ret2
 exact ⟨_, by rw [HTB.out]; rfl, HU.out, HB3.out⟩
theorem StringN_4 {A : Option Addr} {m c : Nat} {l : List Int} {n : Int} {w : World} (hOK : ∀ W, Below w.heap.size w W → Calls Tryz.prog 37 #[.agg #[.int .u8 4, .slice A m c]] W (OkAns (.slice A m c) W)) (hS : ∀ W, Below w.heap.size w W → Calls Tryz.prog 38 #[.slice A m c, .int .i64 n] W (StrN l n W)) :
  Calls Tryz.prog 36 #[.agg #[.int .u8 4, .slice A m c], .int .i64 n] w (StrN l n w) := by
 have HB1 : Hid (Below w.heap.size w (w.alloc (.cells #[.int .u8 4, .slice A m c] 67))) := (Below.refl _ _).alloc (Nat.le_refl _) _
 have HOK := Lib.hid hOK
 have HS := Lib.hid hS
 clear hOK hS
 go_enter Tryz.func36, Tryz.ntmps36
 go_wp2_with fail
 refine (HOK.out _ HB1.out).mono ?_
 rintro e w2 ⟨rfl, hw⟩
 have HB2 := Lib.hid (HB1.out.trans (hw.mono HB1.out.size))
 clear hw
 go_wp2_with fail
 refine (HS.out _ HB2.out).mono ?_
 rintro e w3 ⟨u, rfl, hu, hw⟩
 obtain ⟨tb, htb⟩ : ∃ tb, decide (0 ≤ n ∧ n < (l.length : Int)) = tb := ⟨_, rfl⟩
 rw [htb]
 have HTB := Lib.hid htb
 clear htb
 have HU := Lib.hid hu
 have HB3 := Lib.hid (HB2.out.trans (hw.mono HB2.out.size))
 clear hu hw
 go_wp2_with fail
 go_ret2
 exact ⟨_, by rw [HTB.out]; rfl, HU.out, HB3.out⟩
theorem StrN.all {l : List Int} {w : World} {e : Ending} {w' : World} (h : StrN l (-1) w e w') : ∃ u, e = .returned (.tuple #[.string u, .bool false]) ∧ StrIs u l ∧ Below w.heap.size w w' := by
 obtain ⟨u, he, hu, hw⟩ := h
 exact ⟨u, by rw [he]; rfl, by rwa [if_pos (by decide)] at hu, hw⟩
theorem ValString_calls {K : Int} {A : Option Addr} {m c : Nat} {l : List Int} {w : World} (hS : ∀ W, Below w.heap.size w W → Calls Tryz.prog 36 #[.agg #[.int .u8 K, .slice A m c], .int .i64 (-1)] W (StrN l (-1) W)) :
  Calls Tryz.prog 39 #[.agg #[.int .u8 K, .slice A m c]] w (TxtIs l w) := by
 have HB1 : Hid (Below w.heap.size w (w.alloc (.cells #[.int .u8 K, .slice A m c] 67))) := (Below.refl _ _).alloc (Nat.le_refl _) _
 have HS := Lib.hid hS
 clear hS
 go_enter Tryz.func39, Tryz.ntmps39
 go_wp2_with fail
 refine (HS.out _ HB1.out).mono ?_
 rintro e w3 h
 obtain ⟨u, rfl, hu, hw⟩ := h.all
 have HU := Lib.hid hu
 have HB3 := Lib.hid (HB1.out.trans (hw.mono HB1.out.size))
 clear hu hw h
 go_wp2_with fail
 go_ret
 exact ⟨⟨_, rfl, HU.out⟩, HB3.out⟩
theorem ElemString_calls {A : Option Addr} {m c : Nat} {l : List Int} {w : World} (hS : Calls Tryz.prog 16 #[.slice A m c, .int .i64 (-1)] w (StrN l (-1) w)) :
  Calls Tryz.prog 17 #[.slice A m c] w (TxtIs l w) := by
 have HS := Lib.hid hS
 clear hS
 go_enter Tryz.func17, Tryz.ntmps17
 go_wp2_with fail
 refine HS.out.mono ?_
 rintro e w3 h
 obtain ⟨u, rfl, hu, hw⟩ := h.all
 have HU := Lib.hid hu
 have HB3 := Lib.hid hw
 clear hu hw h
 go_wp2_with fail
 go_ret
 exact ⟨⟨_, rfl, HU.out⟩, HB3.out⟩
theorem ElementText_calls {A : Option Addr} {m c : Nat} {l : List Int} {w : World} (hS : Calls Tryz.prog 16 #[.slice A m c, .int .i64 (-1)] w (StrN l (-1) w)) :
  Calls Tryz.prog 9 #[.slice A m c] w (TxtIs l w) := by
 have HS := Lib.hid (ElemString_calls hS)
 clear hS
 go_enter Tryz.func9, Tryz.ntmps9
 go_wp2_with fail
 refine HS.out.mono ?_
 rintro e w3 ⟨⟨u, rfl, hu⟩, hw⟩
 have HU := Lib.hid hu
 have HB3 := Lib.hid hw
 clear hu hw
 go_wp2_with fail
 go_ret
 exact ⟨⟨_, rfl, HU.out⟩, HB3.out⟩
theorem ElementTextN_calls {A : Option Addr} {m c : Nat} {l : List Int} {n : Int} {w : World} (hS : Calls Tryz.prog 16 #[.slice A m c, .int .i64 n] w (StrN l n w)) :
  Calls Tryz.prog 8 #[.slice A m c, .int .i64 n] w (StrN l n w) := by
 have HS := Lib.hid hS
 clear hS
 go_enter Tryz.func8, Tryz.ntmps8
 go_wp2_with fail
 refine HS.out.mono ?_
 rintro e w3 ⟨u, rfl, hu, hw⟩
 obtain ⟨tb, htb⟩ : ∃ tb, decide (0 ≤ n ∧ n < (l.length : Int)) = tb := ⟨_, rfl⟩
 rw [htb]
 have HTB := Lib.hid htb
 clear htb
 have HU := Lib.hid hu
 have HB3 := Lib.hid hw
 clear hu hw
 go_wp2_with fail
 go_ret2
 exact ⟨_, by rw [HTB.out]; rfl, HU.out, HB3.out⟩
theorem mem_short {name : ByteArray} {s : List Int} {n : Nat} (hN : utf8F name = true) (h1 : 1 ≤ n) (hn : n ≤ name.size) : cutL (memL name s) n = 34 :: cutL (bytesOf name) (n - 1) ∧ n < (memL name s).length := by
 have hl := bytesOf_length name
 have e : memL name s = [34] ++ (bytesOf name ++ ([34, 58, 32] ++ s)) := by unfold memL; simp
 rw [e]
 refine ⟨?_, by simp only [List.length_append, List.length_cons, List.length_nil, hl]; omega⟩
 have hu := utf8_U8 hN
 have hne : bytesOf name ≠ [] := fun h => by rw [h] at hl; simp at hl; omega
 obtain ⟨_, _, _, _, _, _, h5, _⟩ := hu.first hne
 rw [cutL_right (by simpa using h1) (.inr (by rw [rn_app_lt (by omega)]; exact h5)), cutL_left (by simp only [List.length_singleton]; omega)]
 rfl
theorem mem_mid {name : ByteArray} {s : List Int} {j : Nat} (hj : j ≤ 2) : cutL (memL name s) (name.size + 1 + j) = 34 :: (bytesOf name ++ [34, 58, 32].take j) ∧ name.size + 1 + j < (memL name s).length := by
 have hl := bytesOf_length name
 have e : memL name s = (34 :: (bytesOf name ++ [34, 58, 32].take j)) ++ ([34, 58, 32].drop j ++ s) := by
  unfold memL
  have : ([34, 58, 32] : List Int) = [34, 58, 32].take j ++ [34, 58, 32].drop j := (List.take_append_drop j _).symm
  rw [List.cons_append, List.append_assoc]
  congr 1
  rw [List.append_assoc]
  congr 1
  rw [← List.append_assoc, ← this]
 have hd : ([34, 58, 32].drop j ++ s : List Int) = [] ∨ rn ([34, 58, 32].drop j ++ s) 0 / 64 ≠ 2 := by
  have h3 : j = 0 ∨ j = 1 ∨ j = 2 := by omega
  rcases h3 with rfl | rfl | rfl
  ·exact .inr (by show (34 : Int) / 64 ≠ 2; decide)
  ·exact .inr (by show (58 : Int) / 64 ≠ 2; decide)
  ·exact .inr (by show (32 : Int) / 64 ≠ 2; decide)
 have hlen : (34 :: (bytesOf name ++ [34, 58, 32].take j) : List Int).length = name.size + 1 + j := by
  simp only [List.length_append, List.length_cons, List.length_take, hl, List.length_nil]; omega
 refine ⟨?_, ?_⟩
 ·rw [e, cutL_right (by omega) hd, hlen, Nat.sub_self, cutL_zero, List.append_nil]
 ·rw [e, List.length_append, hlen]
  have : 0 < ([34, 58, 32].drop j ++ s : List Int).length := by rw [List.length_append, List.length_drop]; simp; omega
  omega
theorem mem_split (name : ByteArray) (s : List Int) : memL name s = (34 :: (bytesOf name ++ [34, 58, 32])) ++ s := by unfold memL; simp
theorem mem_len (name : ByteArray) : (34 :: (bytesOf name ++ [34, 58, 32]) : List Int).length = name.size + 4 := by simp [bytesOf_length]
theorem mem_full {name : ByteArray} {s : List Int} (hs : Own8 s) : cutL (memL name s) (name.size + 4) = 34 :: (bytesOf name ++ [34, 58, 32]) ∧ name.size + 4 < (memL name s).length := by
 have hp := hs.pos
 rw [mem_split]
 refine ⟨?_, by rw [List.length_append, mem_len]; omega⟩
 rw [cutL_right (by rw [mem_len]; omega) hs.start, mem_len, Nat.sub_self, cutL_zero, List.append_nil]
theorem mem_in {name : ByteArray} {s : List Int} (hs : Own8 s) (M : Nat) : cutL (memL name s) (name.size + 4 + M) = (34 :: (bytesOf name ++ [34, 58, 32])) ++ cutL s M ∧ ((name.size + 4 + M < (memL name s).length) ↔ M < s.length) := by
 rw [mem_split]
 refine ⟨?_, by rw [List.length_append, mem_len]; omega⟩
 rw [cutL_right (by rw [mem_len]; omega) hs.start, mem_len, Nat.add_sub_cancel_left]
theorem conv_elem (W : World) (b o C : Nat) (xs : List Int) (h : Byt W b o xs) : (convert 41 9 (.slice (some ⟨b, o, none⟩) xs.length C)).run Tryz.prog W = .ok (.string (strOfNums xs)) W :=
 run_convert_bytes_arg W 41 5 Tryz.underlying41 Tryz.underlying5 b o xs.length C xs rfl (fun i hi => h i hi) 9 Tryz.underlying9
theorem byt_reads {w : World} {b o : Nat} {l : List Int} (h : Byt w b o l) (hl : l.length ≤ 1000000) : ReadsInt w .u8 (some ⟨b, o, none⟩) l.length l := by
 refine ⟨rfl, by omega, fun h0 => ⟨_, rfl, fun j hj => ?_⟩⟩
 have e : (⟨b, o, none⟩ : Addr).add j = ⟨b, o + j, none⟩ := by
  unfold Addr.add
  split
  ·rename_i h; rw [h]; rfl
  ·rfl
 rw [e, h j hj]
 rfl
theorem strn_of {l : List Int} {n : Nat} {u : ByteArray} {w w' : World} (hu : StrIs u (cutL l n)) (hl : n < l.length) (hb : Below w.heap.size w w') : StrN l n w (.returned (.tuple #[.string u, .bool true])) w' :=
 ⟨u, by rw [decide_eq_true (⟨by omega, by omega⟩ : (0 : Int) ≤ n ∧ (n : Int) < l.length)], by rwa [if_neg (by omega)], hb⟩
theorem strn_any {l : List Int} {n : Nat} {u : ByteArray} {tb : Bool} {w w' : World} (hu : StrIs u (cutL l n)) (ht : decide (n < l.length) = tb) (hb : Below w.heap.size w w') : StrN l n w (.returned (.tuple #[.string u, .bool tb])) w' :=
 ⟨u, by rw [← ht]; congr 4; simp, by rwa [if_neg (by omega)], hb⟩
theorem strn_neg {l : List Int} {u : ByteArray} {w w' : World} (hu : StrIs u l) (hb : Below w.heap.size w w') : StrN l (-1) w (.returned (.tuple #[.string u, .bool false])) w' :=
 ⟨u, rfl, by rwa [if_pos (by decide)], hb⟩
theorem elem_env {b o c nl L : Nat} {K : Int} {name : ByteArray} {vb : List Int} {w : World} (hB : Byt w b o (K :: (bytesOf name ++ 0 :: vb))) (hvb : vb.length = L) (hbw : b < w.heap.size) (hN : NameOk name) (hns : name.size = nl) (hm : nl + 2 + L ≤ c) (hmx : c ≤ maxLen) (hml : L ≤ 800000000) : nl ≤ 300 ∧ 1 ≤ nl ∧ w.cell? ⟨b, o, none⟩ = some (.int .u8 K) ∧ Hid (Byt w b (o + 1) (bytesOf name)) ∧ Hid (∀ W, Below w.heap.size w W → Calls Tryz.prog 27 #[.slice (some ⟨b, o + 1, none⟩) (nl + 1 + L) (c - 1), .int .u8 0] W fun e w' => e = .returned (.int .i64 nl) ∧ w' = W) ∧ Hid (NameOk name) ∧ Hid (name.size = nl) ∧ Hid ((bytesOf name).length = nl) ∧ Hid (∀ x ∈ bytesOf name, 0 ≤ x ∧ x ≤ 255) ∧ (((nl + 2 + L : Nat) : Int) == 0) = false ∧ 1 < c ∧ (c = 1) = False ∧ decide ((nl : Int) ≤ 0) = false ∧ decide (nl ≤ 0) = false ∧ IntKind.i64.wrap ((nl : Int) + 1) = (nl : Int) + 1 ∧ nl + 1 ≤ c ∧ Hid (∀ W, Below w.heap.size w W → ReadsInt W .u8 (some ⟨b, o + 1, none⟩) (bytesOf name).length (bytesOf name)) ∧ Hid (b < w.heap.size) ∧ Hid (Bld w.heap.size w.heap.size [] (w.alloc (.cells #[.pointer none, .slice none 0 0] 58))) ∧ Hid (Below w.heap.size w (w.alloc (.cells #[.pointer none, .slice none 0 0] 58))) := by
 have hbl := bytesOf_length name
 rw [hns] at hbl
 have hpb := plain_bytes hN.2.2.2.1
 have hnl : nl ≤ 300 := by rw [← hns]; exact hN.2.1
 have hnl0 : 1 ≤ nl := by rw [← hns]; exact hN.1
 have q0 : w.cell? ⟨b, o, none⟩ = some (.int .u8 K) := hB 0 (by simp)
 have HKB : Hid (Byt w b (o + 1) (bytesOf name)) := by
  have h : Byt w b (o + 1) (bytesOf name ++ 0 :: vb) := hB.right (l := [K])
  exact h.left
 have HIX : Hid (∀ W, Below w.heap.size w W → Calls Tryz.prog 27 #[.slice (some ⟨b, o + 1, none⟩) (nl + 1 + L) (c - 1), .int .u8 0] W fun e w' => e = .returned (.int .i64 nl) ∧ w' = W) := fun W hW => by
  have h1 : Byt W b (o + 1) (bytesOf name ++ 0 :: vb) := (hB.below hW hbw).right (l := [K])
  have h := IndexZero_calls b (o + 1) (nl + 1 + L) (c - 1) (bytesOf name) vb W h1 hpb (by omega)
  rwa [hbl] at h
 unfold maxLen at hmx
 have HNN := Lib.hid hN
 have HNS := Lib.hid hns
 have HBL := Lib.hid hbl
 have HBr : Hid (∀ x ∈ bytesOf name, 0 ≤ x ∧ x ≤ 255) := bytes_range name
 have d1 : (((nl + 2 + L : Nat) : Int) == 0) = false := beq_eq_false_iff_ne.2 (by omega)
 have hcn : 1 < c := by omega
 have hcn2 : (c = 1) = False := by simp; omega
 have hd0 : decide ((nl : Int) ≤ 0) = false := decide_eq_false (by omega)
 have hd0b : decide (nl ≤ 0) = false := decide_eq_false (by omega)
 have hwk : IntKind.i64.wrap ((nl : Int) + 1) = (nl : Int) + 1 := by rw [IntKind.wrap_i64]; omega
 have hnc : nl + 1 ≤ c := by omega
 have hRD : Hid (∀ W, Below w.heap.size w W → ReadsInt W .u8 (some ⟨b, o + 1, none⟩) (bytesOf name).length (bytesOf name)) := fun W hW => byt_reads (HKB.out.below hW hbw) (by omega)
 have HBW : Hid (b < w.heap.size) := hbw
 have hBf : Hid (Bld w.heap.size w.heap.size [] (w.alloc (.cells #[.pointer none, .slice none 0 0] 58))) := Bld.fresh w
 have hBa : Hid (Below w.heap.size w (w.alloc (.cells #[.pointer none, .slice none 0 0] 58))) := (Below.refl _ _).alloc (Nat.le_refl _) _
 exact ⟨hnl, hnl0, q0, HKB, HIX, HNN, HNS, HBL, HBr, d1, hcn, hcn2, hd0, hd0b, hwk, hnc, hRD, HBW, hBf, hBa⟩
theorem ElemN_0 {b o c nl L : Nat} {K : Int} {name : ByteArray} {vb X : List Int} {w : World} (hB : Byt w b o (K :: (bytesOf name ++ 0 :: vb))) (hvb : vb.length = L) (hbw : b < w.heap.size) (hN : NameOk name) (hns : name.size = nl) (hm : nl + 2 + L ≤ c) (hmx : c ≤ maxLen) (hml : L ≤ 800000000) : Calls Tryz.prog 16 #[.slice (some ⟨b, o, none⟩) (nl + 2 + L) c, .int .i64 0] w (StrN (memL name X) 0 w) := by
 obtain ⟨hnl, hnl0, q0, HKB, HIX, HNN, HNS, HBL, HBr, d1, hcn, hcn2, hd0, hd0b, hwk, hnc, hRD, HBW, hBf, hBa⟩ := elem_env hB hvb hbw hN hns hm hmx hml
 unfold maxLen at hmx
 clear hB hvb hN hns
 go_enter Tryz.func16, Tryz.ntmps16
 go_wp2_with fail
 go_ret2
 exact strn_of (n := 0) ((StrIs.of []).cast (cutL_zero _).symm) (by simp [memL]) (Below.refl _ _)
theorem ElemN_1 {b o c nl L : Nat} {K : Int} {name : ByteArray} {vb X : List Int} {w : World} (hB : Byt w b o (K :: (bytesOf name ++ 0 :: vb))) (hvb : vb.length = L) (hbw : b < w.heap.size) (hN : NameOk name) (hns : name.size = nl) (hm : nl + 2 + L ≤ c) (hmx : c ≤ maxLen) (hml : L ≤ 800000000) : Calls Tryz.prog 16 #[.slice (some ⟨b, o, none⟩) (nl + 2 + L) c, .int .i64 1] w (StrN (memL name X) 1 w) := by
 obtain ⟨hnl, hnl0, q0, HKB, HIX, HNN, HNS, HBL, HBr, d1, hcn, hcn2, hd0, hd0b, hwk, hnc, hRD, HBW, hBf, hBa⟩ := elem_env hB hvb hbw hN hns hm hmx hml
 unfold maxLen at hmx
 clear hB hvb hN hns
 have HM : Hid (cutL (memL name X) 1 = [34] ∧ 1 < (memL name X).length) := by
  have h := mem_short (s := X) (n := 1) HNN.out.2.2.1 (Nat.le_refl _) HNN.out.1
  exact ⟨by rw [h.1]; show 34 :: cutL _ 0 = _; rw [cutL_zero], h.2⟩
 go_enter Tryz.func16, Tryz.ntmps16
 go_wp2_with fail
 go_ret2
 exact strn_of (n := 1) ((StrIs.of [34]).cast HM.out.1.symm) HM.out.2 (Below.refl _ _)
theorem ElemN_short {b o c nl L : Nat} {K : Int} {name : ByteArray} {vb X : List Int} {w : World} (hB : Byt w b o (K :: (bytesOf name ++ 0 :: vb))) (hvb : vb.length = L) (hbw : b < w.heap.size) (hN : NameOk name) (hns : name.size = nl) (hm : nl + 2 + L ≤ c) (hmx : c ≤ maxLen) (hml : L ≤ 800000000) (n : Nat) (h2 : 2 ≤ n) (hn : n ≤ nl) : Calls Tryz.prog 16 #[.slice (some ⟨b, o, none⟩) (nl + 2 + L) c, .int .i64 n] w (StrN (memL name X) n w) := by
 obtain ⟨hnl, hnl0, q0, HKB, HIX, HNN, HNS, HBL, HBr, d1, hcn, hcn2, hd0, hd0b, hwk, hnc, hRD, HBW, hBf, hBa⟩ := elem_env hB hvb hbw hN hns hm hmx hml
 unfold maxLen at hmx
 clear hB hvb hN hns
 have hn65 : n ≤ 65535 := by omega
 have g0 : ((n : Int) == 0) = false := beq_eq_false_iff_ne.2 (by omega)
 have g1 : ((n : Int) == 1) = false := beq_eq_false_iff_ne.2 (by omega)
 have hwa : wrap64 ((n : Int) - 1) = (n : Int) - 1 := wrap64_id _ (by omega) (by omega)
 have hwb : wrap64 ((n : Int) - 1 - 3) = (n : Int) - 1 - 3 := wrap64_id _ (by omega) (by omega)
 have g2 : decide ((n : Int) < 0) = false := decide_eq_false (by omega)
 have g2b : decide (n < 0) = false := decide_eq_false (by omega)
 have g3 : decide ((nl : Int) ≤ (n : Int) - 1 - 3) = false := decide_eq_false (by omega)
 have g4 : decide ((nl : Int) < n) = false := decide_eq_false (by omega)
 have g4b : decide (nl < n) = false := decide_eq_false (by omega)
 obtain ⟨N1, hN1⟩ : ∃ N1 : Nat, n = N1 + 1 := ⟨n - 1, by omega⟩
 have g5 : (n : Int) - 1 = (N1 : Int) := by omega
 have hN65 : N1 ≤ 300 := by omega
 have HM : Hid (cutL (memL name X) n = 34 :: cutL (bytesOf name) N1 ∧ n < (memL name X).length) := by
  have h := mem_short (s := X) (n := n) HNN.out.2.2.1 (by omega) (by rw [HNS.out]; exact hn)
  rw [show n - 1 = N1 by omega] at h
  exact h
 have HLN : Hid ((cutL (bytesOf name) N1).length ≤ 300) := Nat.le_trans (cutL_length _ _) hN65
 have HCV : Hid (∀ W, Below w.heap.size w W → ∀ C, (convert 41 9 (.slice (some ⟨b, o + 1, none⟩) nl C)).run Tryz.prog W = .ok (.string name) W) := fun W hW C => by
  have := conv_elem W b (o + 1) C (bytesOf name) (HKB.out.below hW HBW.out)
  rwa [HBL.out, str_back] at this
 have HTR : Hid (∀ W, Calls Tryz.prog 33 #[.string name, .int .i64 N1] W fun e w' => ∃ u', e = .returned (.string u') ∧ StrIs u' (cutL (bytesOf name) N1) ∧ w' = W) := fun W => Truncate_calls name (bytesOf name) N1 (strIs_bytes name) HBr.out (by have := HBL.out; omega) (by omega) W
 clear hN1 hN65
 go_enter Tryz.func16, Tryz.ntmps16
 go_wp2_with fail
 refine (HIX.out _ (Below.refl _ _)).mono ?_
 rintro e w1 ⟨rfl, hw1⟩
 have hwe := hw1.symm
 subst hwe
 clear hw1
 go_wp2_with fail
 refine (hBf.out.byte 34 (by decide) (by decide) (by simp) (by simp)).mono ?_
 rintro e w2 ⟨rfl, hb2, hw2⟩
 have HBL2 : Hid (Bld w.heap.size w.heap.size [34] w2) := hb2
 have HB2 := Lib.hid (hBa.out.trans hw2)
 have hs2 : w.heap.size ≤ w2.heap.size := by have h := hw2.size; simp at h; omega
 clear hb2 hw2
 go_wp2_with fail
 refine (HBL2.out.len).mono ?_
 rintro e w3 ⟨rfl, hw3⟩
 have hwe := hw3.symm
 subst hwe
 clear hw3
 have cv := HCV.out _ HB2.out (c - 1)
 go_wp2_with fail
 refine (HTR.out _).mono ?_
 rintro e w4 ⟨u', rfl, hu', hw4⟩
 have hwe := hw4.symm
 subst hwe
 have HU := Lib.hid hu'
 clear hu' hw4
 go_wp2_with fail
 refine (HBL2.out.str (HU.out) (by have := HLN.out; first | (simp; done) | (simp; omega)) HB2.out.size).mono ?_
 rintro e w3 ⟨rfl, hb3, hw3⟩
 have HBL3 := Lib.hid hb3
 have HB3 := Lib.hid (HB2.out.trans hw3)
 clear hb3 hw3
 go_wp2_with fail
 refine (HBL3.out.string HB3.out.size).mono ?_
 rintro e w4 ⟨rfl, hw4⟩
 have HB4 := Lib.hid (HB3.out.trans hw4)
 clear hw4
 go_wp2_with fail
 go_ret2
 exact strn_of ((StrIs.of _).cast (by have h := HM.out.1; rw [h]; first | done | rfl)) HM.out.2 HB4.out
theorem ElemN_mid {b o c nl L : Nat} {K : Int} {name : ByteArray} {vb X : List Int} {w : World} (hB : Byt w b o (K :: (bytesOf name ++ 0 :: vb))) (hvb : vb.length = L) (hbw : b < w.heap.size) (hN : NameOk name) (hns : name.size = nl) (hm : nl + 2 + L ≤ c) (hmx : c ≤ maxLen) (hml : L ≤ 800000000) (n j : Nat) (hj : j ≤ 2) (hn : n = nl + 1 + j) : Calls Tryz.prog 16 #[.slice (some ⟨b, o, none⟩) (nl + 2 + L) c, .int .i64 n] w (StrN (memL name X) n w) := by
 obtain ⟨hnl, hnl0, q0, HKB, HIX, HNN, HNS, HBL, HBr, d1, hcn, hcn2, hd0, hd0b, hwk, hnc, hRD, HBW, hBf, hBa⟩ := elem_env hB hvb hbw hN hns hm hmx hml
 unfold maxLen at hmx
 clear hB hvb hN hns
 have hn65 : n ≤ 65535 := by omega
 have g0 : ((n : Int) == 0) = false := beq_eq_false_iff_ne.2 (by omega)
 have g1 : ((n : Int) == 1) = false := beq_eq_false_iff_ne.2 (by omega)
 have hwa : wrap64 ((n : Int) - 1) = (n : Int) - 1 := wrap64_id _ (by omega) (by omega)
 have hwb : wrap64 ((n : Int) - 1 - 3) = (n : Int) - 1 - 3 := wrap64_id _ (by omega) (by omega)
 have g2 : decide ((n : Int) < 0) = false := decide_eq_false (by omega)
 have g2b : decide (n < 0) = false := decide_eq_false (by omega)
 have g3 : decide ((nl : Int) ≤ (n : Int) - 1 - 3) = false := decide_eq_false (by omega)
 have g4 : decide ((nl : Int) < n) = true := decide_eq_true (by omega)
 have g4b : decide (nl < n) = true := decide_eq_true (by omega)
 have g5 : (n : Int) - nl - 1 = (j : Int) := by omega
 have HM : Hid (cutL (memL name X) n = 34 :: (bytesOf name ++ [34, 58, 32].take j) ∧ n < (memL name X).length) := by
  have h := mem_mid (name := name) (s := X) hj
  rw [HNS.out, ← hn] at h
  exact h
 have HLB : Hid (([34, 58, 32] : List Int).take j = [34, 58, 32].take j) := rfl
 have hj3 : j ≤ 3 := by omega
 clear hn
 have HWR : Hid (∀ W l, Bld w.heap.size w.heap.size l W → Below w.heap.size w W → l.length ≤ 1000 → Calls Tryz.prog 30 #[.pointer (some ⟨w.heap.size, 0, none⟩), .slice (some ⟨b, o + 1, none⟩) nl (c - 1)] W fun e w' => e = .returned (.tuple #[.int .i64 nl, .nilIface]) ∧ Bld w.heap.size w.heap.size (l ++ bytesOf name) w' ∧ Below w.heap.size W w') := fun W l h hW hl => by
  have hb := HBL.out
  have := h.write (hRD.out W hW) HBr.out (c := c - 1) (by omega) (fun ad ha => by cases ha; exact HBW.out) (by omega) hW.size
  rwa [hb] at this
 go_enter Tryz.func16, Tryz.ntmps16
 go_wp2_with fail
 refine (HIX.out _ (Below.refl _ _)).mono ?_
 rintro e w1 ⟨rfl, hw1⟩
 have hwe := hw1.symm
 subst hwe
 clear hw1
 go_wp2_with fail
 refine (hBf.out.byte 34 (by decide) (by decide) (by simp) (by simp)).mono ?_
 rintro e w2 ⟨rfl, hb2, hw2⟩
 have HBL2 : Hid (Bld w.heap.size w.heap.size [34] w2) := hb2
 have HB2 := Lib.hid (hBa.out.trans hw2)
 have hs2 : w.heap.size ≤ w2.heap.size := by have h := hw2.size; simp at h; omega
 clear hb2 hw2
 go_wp2_with fail
 refine (HBL2.out.len).mono ?_
 rintro e w3 ⟨rfl, hw3⟩
 have hwe := hw3.symm
 subst hwe
 clear hw3
 go_wp2_with fail
 refine (HWR.out _ _ HBL2.out HB2.out (by simp)).mono ?_
 rintro e w3 ⟨rfl, hb3, hw3⟩
 have HBL3 := Lib.hid hb3
 have HB3 := Lib.hid (HB2.out.trans hw3)
 clear hb3 hw3
 trace_state
 go_wp2_with fail
 refine (HBL3.out.str (strIs_pre (StrIs.of [34, 58, 32]) j) (by have := HBL.out; first | (simp; done) | (simp; omega)) HB3.out.size).mono ?_
 rintro e w4 ⟨rfl, hb4, hw4⟩
 have HBL4 := Lib.hid hb4
 have HB4 := Lib.hid (HB3.out.trans hw4)
 clear hb4 hw4
 go_wp2_with fail
 refine (HBL4.out.string HB4.out.size).mono ?_
 rintro e w5 ⟨rfl, hw5⟩
 have HB5 := Lib.hid (HB4.out.trans hw5)
 clear hw5
 go_wp2_with fail
 go_ret2
 exact strn_of ((StrIs.of _).cast (by have h := HM.out.1; rw [h]; first | done | simp)) HM.out.2 HB5.out
theorem ElemN_full {b o c nl L : Nat} {K : Int} {name : ByteArray} {vb X : List Int} {w : World} (hB : Byt w b o (K :: (bytesOf name ++ 0 :: vb))) (hvb : vb.length = L) (hbw : b < w.heap.size) (hN : NameOk name) (hns : name.size = nl) (hm : nl + 2 + L ≤ c) (hmx : c ≤ maxLen) (hml : L ≤ 800000000) (hX : Own8 X) (n : Nat) (hn : n = nl + 4) : Calls Tryz.prog 16 #[.slice (some ⟨b, o, none⟩) (nl + 2 + L) c, .int .i64 n] w (StrN (memL name X) n w) := by
 obtain ⟨hnl, hnl0, q0, HKB, HIX, HNN, HNS, HBL, HBr, d1, hcn, hcn2, hd0, hd0b, hwk, hnc, hRD, HBW, hBf, hBa⟩ := elem_env hB hvb hbw hN hns hm hmx hml
 unfold maxLen at hmx
 clear hB hvb hN hns
 have hn65 : n ≤ 65535 := by omega
 have g0 : ((n : Int) == 0) = false := beq_eq_false_iff_ne.2 (by omega)
 have g1 : ((n : Int) == 1) = false := beq_eq_false_iff_ne.2 (by omega)
 have hwa : wrap64 ((n : Int) - 1) = (n : Int) - 1 := wrap64_id _ (by omega) (by omega)
 have hwb : wrap64 ((n : Int) - 1 - 3) = (n : Int) - 1 - 3 := wrap64_id _ (by omega) (by omega)
 have g2 : decide ((n : Int) < 0) = false := decide_eq_false (by omega)
 have g2b : decide (n < 0) = false := decide_eq_false (by omega)
 have g3 : decide ((nl : Int) ≤ (n : Int) - 1 - 3) = true := decide_eq_true (by omega)
 have g4 : decide ((n : Int) ≤ (nl : Int) + 4) = true := decide_eq_true (by omega)
 have g6 : decide ((0 : Int) < (n : Int)) = true := decide_eq_true (by omega)
 have g6b : decide (0 < n) = true := decide_eq_true (by omega)
 have HM : Hid (cutL (memL name X) n = 34 :: (bytesOf name ++ [34, 58, 32]) ∧ n < (memL name X).length) := by
  have h := mem_full (name := name) hX
  rw [HNS.out, ← hn] at h
  exact h
 have HN4 := Lib.hid hn
 clear hn
 have HWR : Hid (∀ W l, Bld w.heap.size w.heap.size l W → Below w.heap.size w W → l.length ≤ 1000 → Calls Tryz.prog 30 #[.pointer (some ⟨w.heap.size, 0, none⟩), .slice (some ⟨b, o + 1, none⟩) nl (c - 1)] W fun e w' => e = .returned (.tuple #[.int .i64 nl, .nilIface]) ∧ Bld w.heap.size w.heap.size (l ++ bytesOf name) w' ∧ Below w.heap.size W w') := fun W l h hW hl => by
  have hb := HBL.out
  have := h.write (hRD.out W hW) HBr.out (c := c - 1) (by omega) (fun ad ha => by cases ha; exact HBW.out) (by omega) hW.size
  rwa [hb] at this
 go_enter Tryz.func16, Tryz.ntmps16
 go_wp2_with fail
 refine (HIX.out _ (Below.refl _ _)).mono ?_
 rintro e w1 ⟨rfl, hw1⟩
 have hwe := hw1.symm
 subst hwe
 clear hw1
 go_wp2_with fail
 refine (hBf.out.byte 34 (by decide) (by decide) (by simp) (by simp)).mono ?_
 rintro e w2 ⟨rfl, hb2, hw2⟩
 have HBL2 : Hid (Bld w.heap.size w.heap.size [34] w2) := hb2
 have HB2 := Lib.hid (hBa.out.trans hw2)
 have hs2 : w.heap.size ≤ w2.heap.size := by have h := hw2.size; simp at h; omega
 clear hb2 hw2
 go_wp2_with fail
 refine (HBL2.out.len).mono ?_
 rintro e w3 ⟨rfl, hw3⟩
 have hwe := hw3.symm
 subst hwe
 clear hw3
 go_wp2_with fail
 refine (HWR.out _ _ HBL2.out HB2.out (by simp)).mono ?_
 rintro e w3 ⟨rfl, hb3, hw3⟩
 have HBL3 := Lib.hid hb3
 have HB3 := Lib.hid (HB2.out.trans hw3)
 clear hb3 hw3
 go_wp2_with fail
 refine (HBL3.out.str (StrIs.of [34, 58, 32]) (by have := HBL.out; first | (simp; done) | (simp; omega)) HB3.out.size).mono ?_
 rintro e w4 ⟨rfl, hb4, hw4⟩
 have HBL4 := Lib.hid hb4
 have HB4 := Lib.hid (HB3.out.trans hw4)
 clear hb4 hw4
 have HLL : Hid (∀ W, Bld w.heap.size w.heap.size ([34] ++ bytesOf name ++ [34, 58, 32]) W → Calls Tryz.prog 29 #[.pointer (some ⟨w.heap.size, 0, none⟩)] W fun e w' => e = .returned (.int .i64 n) ∧ w' = W) := fun W h => by
  have h2 := h.len
  rw [show ([34] ++ bytesOf name ++ [34, 58, 32] : List Int).length = n by have := HBL.out; have := HN4.out; simp; omega] at h2
  exact h2
 go_wp2_with fail
 refine (HLL.out _ HBL4.out).mono ?_
 rintro e w6 ⟨rfl, hw6⟩
 have hwe := hw6.symm
 subst hwe
 clear hw6
 go_wp2_with fail
 refine (HBL4.out.string HB4.out.size).mono ?_
 rintro e w5 ⟨rfl, hw5⟩
 have HB5 := Lib.hid (HB4.out.trans hw5)
 clear hw5
 go_wp2_with fail
 go_ret2
 exact strn_of ((StrIs.of _).cast (by have h := HM.out.1; rw [h]; first | done | simp)) HM.out.2 HB5.out
theorem ElemN_all {b o c nl L : Nat} {K : Int} {name : ByteArray} {vb X : List Int} {w : World} (hB : Byt w b o (K :: (bytesOf name ++ 0 :: vb))) (hvb : vb.length = L) (hbw : b < w.heap.size) (hN : NameOk name) (hns : name.size = nl) (hm : nl + 2 + L ≤ c) (hmx : c ≤ maxLen) (hml : L ≤ 800000000) {o' : Nat} (hX : Own8 X) (hXl : X.length ≤ 90000000) (hco : (c = nl + 2 ∧ o' = o) ∨ (c ≠ nl + 2 ∧ o' = o + (nl + 2)))
  (hV : ∀ W, Below w.heap.size w W → Calls Tryz.prog 108 #[.slice (some ⟨b, o', none⟩) L (c - (nl + 2)), .int .u8 K] W (LenAns L W))
  (hSV : ∀ W, Below w.heap.size w W → Calls Tryz.prog 35 #[(.agg #[.int .u8 K, .slice (some ⟨b, o', none⟩) L (c - (nl + 2))])] W fun e w' => (∃ s, e = .returned (.tuple #[.string s, .bool (K == 2)])) ∧ Below W.heap.size W w')
  (hAO : ∀ W, Below w.heap.size w W → Calls Tryz.prog 37 #[(.agg #[.int .u8 K, .slice (some ⟨b, o', none⟩) L (c - (nl + 2))])] W fun e w' => (∃ v, e = .returned (.tuple #[v, .bool (K == 4)]) ∧ (K = 4 → v = .slice (some ⟨b, o', none⟩) L (c - (nl + 2)))) ∧ Below W.heap.size W w')
  (hS : ∀ W, Below w.heap.size w W → ∀ n' : Int, n' = -1 ∨ (1 ≤ n' ∧ n' ≤ 65535) → Calls Tryz.prog 36 #[(.agg #[.int .u8 K, .slice (some ⟨b, o', none⟩) L (c - (nl + 2))]), .int .i64 n'] W (StrN X n' W))
  (hAS : K = 4 → ∀ W, Below w.heap.size w W → ∀ n' : Int, n' = -1 ∨ (1 ≤ n' ∧ n' ≤ 65535) → Calls Tryz.prog 38 #[.slice (some ⟨b, o', none⟩) L (c - (nl + 2)), .int .i64 n'] W (StrN X n' W)) : Calls Tryz.prog 16 #[.slice (some ⟨b, o, none⟩) (nl + 2 + L) c, .int .i64 (-1)] w (StrN (memL name X) (-1) w) := by
 obtain ⟨hnl, hnl0, q0, HKB, HIX, HNN, HNS, HBL, HBr, d1, hcn, hcn2, hd0, hd0b, hwk, hnc, hRD, HBW, hBf, hBa⟩ := elem_env hB hvb hbw hN hns hm hmx hml
 unfold maxLen at hmx
 clear hB hvb hN hns
 have HV := Lib.hid hV
 have HSV := Lib.hid hSV
 have HAO := Lib.hid hAO
 have HS := Lib.hid hS
 have HAS := Lib.hid hAS
 have HXO := Lib.hid hX
 have HCO := Lib.hid hco
 have HXR : Hid (∀ z ∈ X, 0 ≤ z ∧ z ≤ 255) := hX.u8.range
 have HXL := Lib.hid hXl
 have HBWs : Hid (b < w.heap.size) := hbw
 have hmL : nl + 2 ≤ c := by omega
 have hwk2 : IntKind.i64.wrap ((nl : Int) + 2) = (nl : Int) + 2 := by rw [IntKind.wrap_i64]; omega
 have hwl2 : (nl : Int) + 2 ≤ (nl : Int) + 2 + L := by omega
 have HRV : Hid (∀ W, Below w.heap.size w W → Calls Tryz.prog 34 #[.slice (some ⟨b, o', none⟩) L (c - (nl + 2)), .int .u8 K] W fun e w' => ∃ R : Value, e = .returned (.tuple #[.agg #[.int .u8 K, .slice (some ⟨b, o', none⟩) L (c - (nl + 2))], R, .bool true]) ∧ Below W.heap.size W w') := fun W hW =>
  (ReadValue_calls b o' L (c - (nl + 2)) L K W (hV _ (hW.alloc hW.size _)) (Nat.le_refl _) (by omega) (by unfold maxLen; omega) (by omega)).mono fun e w' ⟨A, he, _, hb⟩ => ⟨_, he, hb⟩
 clear hV hSV hAO hS hAS hX hXl hco
 have HWR : Hid (∀ W l, Bld w.heap.size w.heap.size l W → Below w.heap.size w W → l.length ≤ 1000 → Calls Tryz.prog 30 #[.pointer (some ⟨w.heap.size, 0, none⟩), .slice (some ⟨b, o + 1, none⟩) nl (c - 1)] W fun e w' => e = .returned (.tuple #[.int .i64 nl, .nilIface]) ∧ Bld w.heap.size w.heap.size (l ++ bytesOf name) w' ∧ Below w.heap.size W w') := fun W l h hW hl => by
  have hb := HBL.out
  have := h.write (hRD.out W hW) HBr.out (c := c - 1) (by omega) (fun ad ha => by cases ha; exact HBW.out) (by omega) hW.size
  rwa [hb] at this
 go_enter Tryz.func16, Tryz.ntmps16
 go_wp2_with fail
 refine (HIX.out _ (Below.refl _ _)).mono ?_
 rintro e w1 ⟨rfl, hw1⟩
 have hwe := hw1.symm
 subst hwe
 clear hw1
 go_wp2_with fail
 refine (hBf.out.byte 34 (by decide) (by decide) (by simp) (by simp)).mono ?_
 rintro e w2 ⟨rfl, hb2, hw2⟩
 have HBL2 : Hid (Bld w.heap.size w.heap.size [34] w2) := hb2
 have HB2 := Lib.hid (hBa.out.trans hw2)
 have hs2 : w.heap.size ≤ w2.heap.size := by have h := hw2.size; simp at h; omega
 clear hb2 hw2
 go_wp2_with fail
 refine (HWR.out _ _ HBL2.out HB2.out (by simp)).mono ?_
 rintro e w3 ⟨rfl, hb3, hw3⟩
 have HBL3 := Lib.hid hb3
 have HB3 := Lib.hid (HB2.out.trans hw3)
 clear hb3 hw3
 go_wp2_with fail
 refine (HBL3.out.str (StrIs.of [34, 58, 32]) (by have := HBL.out; first | (simp; done) | (simp; omega)) HB3.out.size).mono ?_
 rintro e w4 ⟨rfl, hb4, hw4⟩
 have HBL4 := Lib.hid hb4
 have HB4 := Lib.hid (HB3.out.trans hw4)
 clear hb4 hw4
 have HLX : Hid ((-1 : Int) = -1 ∨ (1 ≤ (-1 : Int) ∧ (-1 : Int) ≤ 65535)) := .inl rfl
 go_upto_region 28 with fail
 go_cut [11, 13] from 14 to 135 (fun s11 s13 wx => ∃ B, s11 = .pointer (some ⟨B, 0, none⟩) ∧ s13 = .bool true ∧ wx.cell? ⟨B, 0, none⟩ = some (.int .u8 K) ∧ wx.cell? ⟨B, 1, none⟩ = some (.slice (some ⟨b, o', none⟩) L (c - (nl + 2))) ∧ B < wx.heap.size ∧ Hid (Bld w.heap.size w.heap.size ([34] ++ bytesOf name ++ [34, 58, 32]) wx) ∧ Hid (Below w.heap.size w wx))
 case first =>
  rcases HCO.out with ⟨hc1, hc2⟩ | ⟨hc1, hc2⟩
  ·have hcx : (c = nl + 2) = True := eq_true hc1
   subst hc2
   have hc0 : c - (nl + 2) = 0 := by omega
   rw [hc0] at HRV
   have hle : c ≤ nl + 2 := by omega
   clear hc0
   clear hc1 HV HSV HAO HS HAS HCO
   go_wp2_with fail
   refine (HRV.out _ HB4.out).mono ?_
   rintro e w7 ⟨R, rfl, hw7⟩
   have HBL7 := Lib.hid (HBL4.out.old hw7)
   have HB7 := Lib.hid (HB4.out.trans (hw7.mono HB4.out.size))
   clear hw7
   go_wp2_with fail
   go_meet
   exact ⟨w7.heap.size, rfl, rfl, by simp [go_sem], by first | (simp [go_sem]; done) | (simp [go_sem]; omega), by simp, HBL7.out.old ((Below.refl _ _).alloc (Nat.le_refl _) _), HB7.out.alloc HB7.out.size _⟩
  ·have hcx : (c = nl + 2) = False := eq_false hc1
   subst hc2
   have hcn3 : nl + 2 < c := by omega
   clear hc1 HV HSV HAO HS HAS HCO
   go_wp2_with fail
   refine (HRV.out _ HB4.out).mono ?_
   rintro e w7 ⟨R, rfl, hw7⟩
   have HBL7 := Lib.hid (HBL4.out.old hw7)
   have HB7 := Lib.hid (HB4.out.trans (hw7.mono HB4.out.size))
   clear hw7
   go_wp2_with fail
   go_meet
   exact ⟨w7.heap.size, rfl, rfl, by simp [go_sem], by first | (simp [go_sem]; done) | (simp [go_sem]; omega), by simp, HBL7.out.old ((Below.refl _ _).alloc (Nat.le_refl _) _), HB7.out.alloc HB7.out.size _⟩
 obtain ⟨B, rfl, rfl, b0, b1, hBlt, HBL8, HB8⟩ := hcut
 clear HRV HCO HV
 go_wp2_with fail
 refine (HSV.out _ HB8.out).mono ?_
 rintro e w9 ⟨⟨s9, rfl⟩, hw9⟩
 have HBL9 := Lib.hid (HBL8.out.old hw9)
 have HB9 := Lib.hid (HB8.out.trans (hw9.mono HB8.out.size))
 have e0 := (hw9.cell (p := ⟨B, 0, none⟩) hBlt).trans b0
 have e1 := (hw9.cell (p := ⟨B, 1, none⟩) hBlt).trans b1
 have hBlt9 : B < w9.heap.size := Nat.lt_of_lt_of_le hBlt hw9.size
 clear hw9 b0 b1 hBlt HBL8 HB8 HSV
 go_upto_if 100 with fail
 go_cut [14, 15] from 16 to 135 (fun s14 s15 wx => ∃ u tb, s14 = .string u ∧ s15 = .bool tb ∧ Hid (StrIs u (if (-1 : Int) < 0 then X else cutL X ((-1 : Int)).toNat)) ∧ Hid (decide (0 ≤ (-1 : Int) ∧ (-1 : Int) < (X.length : Int)) = tb) ∧ Hid (Bld w.heap.size w.heap.size ([34] ++ bytesOf name ++ [34, 58, 32]) wx) ∧ Hid (Below w.heap.size w wx))
 case first =>
  by_cases k2 : K = 2
  ·have dk : (K == 2) = true := beq_iff_eq.2 k2
   clear k2 HAO HAS
   go_wp2_with fail
   refine (HS.out _ HB9.out (-1 : Int) (by first | exact HLX.out | exact .inl rfl)).mono ?_
   rintro e w10 ⟨u, rfl, hu, hw10⟩
   obtain ⟨tb, htb⟩ : ∃ tb, decide (0 ≤ (-1 : Int) ∧ (-1 : Int) < (X.length : Int)) = tb := ⟨_, rfl⟩
   rw [htb]
   have HTB := Lib.hid htb
   have HU := Lib.hid hu
   have HBL10 := Lib.hid (HBL9.out.old hw10)
   have HB10 := Lib.hid (HB9.out.trans (hw10.mono HB9.out.size))
   clear htb hu hw10
   go_wp2_with fail
   go_meet
   exact ⟨u, tb, rfl, rfl, HU.out, HTB.out, HBL10.out, HB10.out⟩
  ·have dk : (K == 2) = false := beq_eq_false_iff_ne.2 k2
   by_cases k4 : K = 4
   ·have dk4 : (K == 4) = true := beq_iff_eq.2 k4
    have HK4 := Lib.hid k4
    clear k2 k4
    go_wp2_with fail
    refine (HAO.out _ HB9.out).mono ?_
    rintro e w10 ⟨⟨v, rfl, hv⟩, hw10⟩
    obtain rfl := hv HK4.out
    have HBL10 := Lib.hid (HBL9.out.old hw10)
    have HB10 := Lib.hid (HB9.out.trans (hw10.mono HB9.out.size))
    clear hv hw10
    go_wp2_with fail
    refine (HAS.out HK4.out _ HB10.out (-1 : Int) (by first | exact HLX.out | exact .inl rfl)).mono ?_
    rintro e w11 ⟨u, rfl, hu, hw11⟩
    obtain ⟨tb, htb⟩ : ∃ tb, decide (0 ≤ (-1 : Int) ∧ (-1 : Int) < (X.length : Int)) = tb := ⟨_, rfl⟩
    rw [htb]
    have HTB := Lib.hid htb
    have HU := Lib.hid hu
    have HBL11 := Lib.hid (HBL10.out.old hw11)
    have HB11 := Lib.hid (HB10.out.trans (hw11.mono HB10.out.size))
    clear htb hu hw11
    go_wp2_with fail
    go_meet
    exact ⟨u, tb, rfl, rfl, HU.out, HTB.out, HBL11.out, HB11.out⟩
   ·have dk4 : (K == 4) = false := beq_eq_false_iff_ne.2 k4
    clear k2 k4 HAS
    go_wp2_with fail
    refine (HAO.out _ HB9.out).mono ?_
    rintro e w10 ⟨⟨v, rfl, _⟩, hw10⟩
    have HBL10 := Lib.hid (HBL9.out.old hw10)
    have HB10 := Lib.hid (HB9.out.trans (hw10.mono HB9.out.size))
    have i0 := (hw10.cell (p := ⟨B, 0, none⟩) hBlt9).trans e0
    have i1 := (hw10.cell (p := ⟨B, 1, none⟩) hBlt9).trans e1
    have HVS := Lib.hid (ValString_calls (w := w10) (K := K) (A := some ⟨b, o', none⟩) (m := L) (c := c - (nl + 2)) (l := X) fun W hW => HS.out W (HB10.out.trans (hW.mono HB10.out.size)) (-1) (.inl rfl))
    clear hw10 e0 e1
    go_wp2_with fail
    refine HVS.out.mono ?_
    rintro e w11 ⟨⟨u, rfl, hu⟩, hw11⟩
    have HU := Lib.hid hu
    have husz : u.size = X.length := hu.size
    have HBL11 := Lib.hid (HBL10.out.old hw11)
    have HB11 := Lib.hid (HB10.out.trans (hw11.mono HB10.out.size))
    clear hu hw11 HVS
    go_wp2_with fail
    go_meet
    exact ⟨u, false, rfl, rfl, HU.out.cast (by rw [if_pos (by decide)]), decide_eq_false (by omega), HBL11.out, HB11.out⟩
 obtain ⟨u, tb, rfl, rfl, HU, HTB, HBL12, HB12⟩ := hcut
 clear HS HAO HAS e0 e1 HBL9 HB9 hBlt9
 have hul : u.size ≤ 90000000 := by
  rw [HU.out.size]
  split
  ·exact HXL.out
  ·have := cutL_length X ((-1 : Int)).toNat; have := HLX.out; omega
 go_wp2_with fail
 refine (HBL12.out.str HU.out (by rw [← HU.out.size]; have := HBL.out; simp; omega) HB12.out.size).mono ?_
 rintro e w13 ⟨rfl, hb13, hw13⟩
 have HBL13 := Lib.hid hb13
 have HB13 := Lib.hid (HB12.out.trans hw13)
 clear hb13 hw13
 go_wp2_with fail
 refine (HBL13.out.string HB13.out.size).mono ?_
 rintro e w14 ⟨rfl, hw14⟩
 have HB14 := Lib.hid (HB13.out.trans hw14)
 clear hw14
 go_wp2_with fail
 go_ret2
 have htf : tb = false := by rw [← HTB.out]; exact decide_eq_false (by omega)
 subst htf
 refine strn_neg ((StrIs.of _).cast ?_) HB14.out
 unfold memL
 simp
theorem ElemN_long {b o c nl L : Nat} {K : Int} {name : ByteArray} {vb X : List Int} {w : World} (hB : Byt w b o (K :: (bytesOf name ++ 0 :: vb))) (hvb : vb.length = L) (hbw : b < w.heap.size) (hN : NameOk name) (hns : name.size = nl) (hm : nl + 2 + L ≤ c) (hmx : c ≤ maxLen) (hml : L ≤ 800000000) {o' : Nat} (hX : Own8 X) (hXl : X.length ≤ 90000000) (hco : (c = nl + 2 ∧ o' = o) ∨ (c ≠ nl + 2 ∧ o' = o + (nl + 2)))
  (hV : ∀ W, Below w.heap.size w W → Calls Tryz.prog 108 #[.slice (some ⟨b, o', none⟩) L (c - (nl + 2)), .int .u8 K] W (LenAns L W))
  (hSV : ∀ W, Below w.heap.size w W → Calls Tryz.prog 35 #[(.agg #[.int .u8 K, .slice (some ⟨b, o', none⟩) L (c - (nl + 2))])] W fun e w' => (∃ s, e = .returned (.tuple #[.string s, .bool (K == 2)])) ∧ Below W.heap.size W w')
  (hAO : ∀ W, Below w.heap.size w W → Calls Tryz.prog 37 #[(.agg #[.int .u8 K, .slice (some ⟨b, o', none⟩) L (c - (nl + 2))])] W fun e w' => (∃ v, e = .returned (.tuple #[v, .bool (K == 4)]) ∧ (K = 4 → v = .slice (some ⟨b, o', none⟩) L (c - (nl + 2)))) ∧ Below W.heap.size W w')
  (hS : ∀ W, Below w.heap.size w W → ∀ n' : Int, n' = -1 ∨ (1 ≤ n' ∧ n' ≤ 65535) → Calls Tryz.prog 36 #[(.agg #[.int .u8 K, .slice (some ⟨b, o', none⟩) L (c - (nl + 2))]), .int .i64 n'] W (StrN X n' W))
  (hAS : K = 4 → ∀ W, Below w.heap.size w W → ∀ n' : Int, n' = -1 ∨ (1 ≤ n' ∧ n' ≤ 65535) → Calls Tryz.prog 38 #[.slice (some ⟨b, o', none⟩) L (c - (nl + 2)), .int .i64 n'] W (StrN X n' W)) (n M : Nat) (hM : 1 ≤ M) (hM2 : M ≤ 65535) (hn : n = nl + 4 + M) (hn65 : n ≤ 65535) : Calls Tryz.prog 16 #[.slice (some ⟨b, o, none⟩) (nl + 2 + L) c, .int .i64 n] w (StrN (memL name X) n w) := by
 obtain ⟨hnl, hnl0, q0, HKB, HIX, HNN, HNS, HBL, HBr, d1, hcn, hcn2, hd0, hd0b, hwk, hnc, hRD, HBW, hBf, hBa⟩ := elem_env hB hvb hbw hN hns hm hmx hml
 unfold maxLen at hmx
 clear hB hvb hN hns
 have g0 : ((n : Int) == 0) = false := beq_eq_false_iff_ne.2 (by omega)
 have g1 : ((n : Int) == 1) = false := beq_eq_false_iff_ne.2 (by omega)
 have hwa : wrap64 ((n : Int) - 1) = (n : Int) - 1 := wrap64_id _ (by omega) (by omega)
 have hwb : wrap64 ((n : Int) - 1 - 3) = (n : Int) - 1 - 3 := wrap64_id _ (by omega) (by omega)
 have g2 : decide ((n : Int) < 0) = false := decide_eq_false (by omega)
 have g2b : decide (n < 0) = false := decide_eq_false (by omega)
 have g3 : decide ((nl : Int) ≤ (n : Int) - 1 - 3) = true := decide_eq_true (by omega)
 have g6 : decide ((0 : Int) < (n : Int)) = true := decide_eq_true (by omega)
 have g6b : decide (0 < n) = true := decide_eq_true (by omega)
 obtain ⟨p, hp⟩ : ∃ p : Nat, nl + 4 = p := ⟨_, rfl⟩
 have g4 : decide ((n : Int) ≤ (p : Int)) = false := decide_eq_false (by omega)
 have g4b : decide (n ≤ p) = false := decide_eq_false (by omega)
 have g7 : (n : Int) - p = (M : Int) := by omega
 have hwc : wrap64 ((n : Int) - p) = (n : Int) - p := wrap64_id _ (by omega) (by omega)
 have g8 : decide ((0 : Int) < (M : Int)) = true := decide_eq_true (by omega)
 have g8b : decide (0 < M) = true := decide_eq_true (by omega)
 have HN4 : Hid (n = nl + 4 + M) := hn
 have HP4 := Lib.hid hp
 have hlp : p ≤ 400 := by omega
 have HLL : Hid (∀ W, Bld w.heap.size w.heap.size ([34] ++ bytesOf name ++ [34, 58, 32]) W → Calls Tryz.prog 29 #[.pointer (some ⟨w.heap.size, 0, none⟩)] W fun e w' => e = .returned (.int .i64 p) ∧ w' = W) := fun W h => by
  have h2 := h.len
  rw [show ([34] ++ bytesOf name ++ [34, 58, 32] : List Int).length = p by have := HBL.out; simp; omega] at h2
  exact h2
 clear hn hp
 have HV := Lib.hid hV
 have HSV := Lib.hid hSV
 have HAO := Lib.hid hAO
 have HS := Lib.hid hS
 have HAS := Lib.hid hAS
 have HXO := Lib.hid hX
 have HCO := Lib.hid hco
 have HXR : Hid (∀ z ∈ X, 0 ≤ z ∧ z ≤ 255) := hX.u8.range
 have HXL := Lib.hid hXl
 have HBWs : Hid (b < w.heap.size) := hbw
 have hmL : nl + 2 ≤ c := by omega
 have hwk2 : IntKind.i64.wrap ((nl : Int) + 2) = (nl : Int) + 2 := by rw [IntKind.wrap_i64]; omega
 have hwl2 : (nl : Int) + 2 ≤ (nl : Int) + 2 + L := by omega
 have HRV : Hid (∀ W, Below w.heap.size w W → Calls Tryz.prog 34 #[.slice (some ⟨b, o', none⟩) L (c - (nl + 2)), .int .u8 K] W fun e w' => ∃ R : Value, e = .returned (.tuple #[.agg #[.int .u8 K, .slice (some ⟨b, o', none⟩) L (c - (nl + 2))], R, .bool true]) ∧ Below W.heap.size W w') := fun W hW =>
  (ReadValue_calls b o' L (c - (nl + 2)) L K W (hV _ (hW.alloc hW.size _)) (Nat.le_refl _) (by omega) (by unfold maxLen; omega) (by omega)).mono fun e w' ⟨A, he, _, hb⟩ => ⟨_, he, hb⟩
 clear hV hSV hAO hS hAS hX hXl hco
 have HWR : Hid (∀ W l, Bld w.heap.size w.heap.size l W → Below w.heap.size w W → l.length ≤ 1000 → Calls Tryz.prog 30 #[.pointer (some ⟨w.heap.size, 0, none⟩), .slice (some ⟨b, o + 1, none⟩) nl (c - 1)] W fun e w' => e = .returned (.tuple #[.int .i64 nl, .nilIface]) ∧ Bld w.heap.size w.heap.size (l ++ bytesOf name) w' ∧ Below w.heap.size W w') := fun W l h hW hl => by
  have hb := HBL.out
  have := h.write (hRD.out W hW) HBr.out (c := c - 1) (by omega) (fun ad ha => by cases ha; exact HBW.out) (by omega) hW.size
  rwa [hb] at this
 go_enter Tryz.func16, Tryz.ntmps16
 go_wp2_with fail
 refine (HIX.out _ (Below.refl _ _)).mono ?_
 rintro e w1 ⟨rfl, hw1⟩
 have hwe := hw1.symm
 subst hwe
 clear hw1
 go_wp2_with fail
 refine (hBf.out.byte 34 (by decide) (by decide) (by simp) (by simp)).mono ?_
 rintro e w2 ⟨rfl, hb2, hw2⟩
 have HBL2 : Hid (Bld w.heap.size w.heap.size [34] w2) := hb2
 have HB2 := Lib.hid (hBa.out.trans hw2)
 have hs2 : w.heap.size ≤ w2.heap.size := by have h := hw2.size; simp at h; omega
 clear hb2 hw2
 go_wp2_with fail
 refine (HBL2.out.len).mono ?_
 rintro e w3 ⟨rfl, hw3⟩
 have hwe := hw3.symm
 subst hwe
 clear hw3
 go_wp2_with fail
 refine (HWR.out _ _ HBL2.out HB2.out (by simp)).mono ?_
 rintro e w3 ⟨rfl, hb3, hw3⟩
 have HBL3 := Lib.hid hb3
 have HB3 := Lib.hid (HB2.out.trans hw3)
 clear hb3 hw3
 go_wp2_with fail
 refine (HBL3.out.str (StrIs.of [34, 58, 32]) (by have := HBL.out; first | (simp; done) | (simp; omega)) HB3.out.size).mono ?_
 rintro e w4 ⟨rfl, hb4, hw4⟩
 have HBL4 := Lib.hid hb4
 have HB4 := Lib.hid (HB3.out.trans hw4)
 clear hb4 hw4
 go_wp2_with fail
 refine (HLL.out _ HBL4.out).mono ?_
 rintro e w6 ⟨rfl, hw6⟩
 have hwe := hw6.symm
 subst hwe
 clear hw6
 go_wp2_with fail
 refine (HLL.out _ HBL4.out).mono ?_
 rintro e w6 ⟨rfl, hw6⟩
 have hwe := hw6.symm
 subst hwe
 clear hw6
 have HLX : Hid ((M : Int) = -1 ∨ (1 ≤ (M : Int) ∧ (M : Int) ≤ 65535)) := .inr ⟨by omega, by omega⟩
 go_upto_region 28 with fail
 go_cut [11, 13] from 14 to 135 (fun s11 s13 wx => ∃ B, s11 = .pointer (some ⟨B, 0, none⟩) ∧ s13 = .bool true ∧ wx.cell? ⟨B, 0, none⟩ = some (.int .u8 K) ∧ wx.cell? ⟨B, 1, none⟩ = some (.slice (some ⟨b, o', none⟩) L (c - (nl + 2))) ∧ B < wx.heap.size ∧ Hid (Bld w.heap.size w.heap.size ([34] ++ bytesOf name ++ [34, 58, 32]) wx) ∧ Hid (Below w.heap.size w wx))
 case first =>
  rcases HCO.out with ⟨hc1, hc2⟩ | ⟨hc1, hc2⟩
  ·have hcx : (c = nl + 2) = True := eq_true hc1
   subst hc2
   have hc0 : c - (nl + 2) = 0 := by omega
   rw [hc0] at HRV
   have hle : c ≤ nl + 2 := by omega
   clear hc0
   clear hc1 HV HSV HAO HS HAS HCO
   go_wp2_with fail
   refine (HRV.out _ HB4.out).mono ?_
   rintro e w7 ⟨R, rfl, hw7⟩
   have HBL7 := Lib.hid (HBL4.out.old hw7)
   have HB7 := Lib.hid (HB4.out.trans (hw7.mono HB4.out.size))
   clear hw7
   go_wp2_with fail
   go_meet
   exact ⟨w7.heap.size, rfl, rfl, by simp [go_sem], by first | (simp [go_sem]; done) | (simp [go_sem]; omega), by simp, HBL7.out.old ((Below.refl _ _).alloc (Nat.le_refl _) _), HB7.out.alloc HB7.out.size _⟩
  ·have hcx : (c = nl + 2) = False := eq_false hc1
   subst hc2
   have hcn3 : nl + 2 < c := by omega
   clear hc1 HV HSV HAO HS HAS HCO
   go_wp2_with fail
   refine (HRV.out _ HB4.out).mono ?_
   rintro e w7 ⟨R, rfl, hw7⟩
   have HBL7 := Lib.hid (HBL4.out.old hw7)
   have HB7 := Lib.hid (HB4.out.trans (hw7.mono HB4.out.size))
   clear hw7
   go_wp2_with fail
   go_meet
   exact ⟨w7.heap.size, rfl, rfl, by simp [go_sem], by first | (simp [go_sem]; done) | (simp [go_sem]; omega), by simp, HBL7.out.old ((Below.refl _ _).alloc (Nat.le_refl _) _), HB7.out.alloc HB7.out.size _⟩
 obtain ⟨B, rfl, rfl, b0, b1, hBlt, HBL8, HB8⟩ := hcut
 clear HRV HCO HV
 go_wp2_with fail
 refine (HSV.out _ HB8.out).mono ?_
 rintro e w9 ⟨⟨s9, rfl⟩, hw9⟩
 have HBL9 := Lib.hid (HBL8.out.old hw9)
 have HB9 := Lib.hid (HB8.out.trans (hw9.mono HB8.out.size))
 have e0 := (hw9.cell (p := ⟨B, 0, none⟩) hBlt).trans b0
 have e1 := (hw9.cell (p := ⟨B, 1, none⟩) hBlt).trans b1
 have hBlt9 : B < w9.heap.size := Nat.lt_of_lt_of_le hBlt hw9.size
 clear hw9 b0 b1 hBlt HBL8 HB8 HSV
 go_upto_if 100 with fail
 go_cut [14, 15] from 16 to 135 (fun s14 s15 wx => ∃ u tb, s14 = .string u ∧ s15 = .bool tb ∧ Hid (StrIs u (if (M : Int) < 0 then X else cutL X ((M : Int)).toNat)) ∧ Hid (decide (0 ≤ (M : Int) ∧ (M : Int) < (X.length : Int)) = tb) ∧ Hid (Bld w.heap.size w.heap.size ([34] ++ bytesOf name ++ [34, 58, 32]) wx) ∧ Hid (Below w.heap.size w wx))
 case first =>
  by_cases k2 : K = 2
  ·have dk : (K == 2) = true := beq_iff_eq.2 k2
   clear k2 HAO HAS
   go_wp2_with fail
   refine (HS.out _ HB9.out (M : Int) (by first | exact HLX.out | exact .inl rfl)).mono ?_
   rintro e w10 ⟨u, rfl, hu, hw10⟩
   obtain ⟨tb, htb⟩ : ∃ tb, decide (0 ≤ (M : Int) ∧ (M : Int) < (X.length : Int)) = tb := ⟨_, rfl⟩
   rw [htb]
   have HTB := Lib.hid htb
   have HU := Lib.hid hu
   have HBL10 := Lib.hid (HBL9.out.old hw10)
   have HB10 := Lib.hid (HB9.out.trans (hw10.mono HB9.out.size))
   clear htb hu hw10
   go_wp2_with fail
   go_meet
   exact ⟨u, tb, rfl, rfl, HU.out, HTB.out, HBL10.out, HB10.out⟩
  ·have dk : (K == 2) = false := beq_eq_false_iff_ne.2 k2
   by_cases k4 : K = 4
   ·have dk4 : (K == 4) = true := beq_iff_eq.2 k4
    have HK4 := Lib.hid k4
    clear k2 k4
    go_wp2_with fail
    refine (HAO.out _ HB9.out).mono ?_
    rintro e w10 ⟨⟨v, rfl, hv⟩, hw10⟩
    obtain rfl := hv HK4.out
    have HBL10 := Lib.hid (HBL9.out.old hw10)
    have HB10 := Lib.hid (HB9.out.trans (hw10.mono HB9.out.size))
    clear hv hw10
    go_wp2_with fail
    refine (HAS.out HK4.out _ HB10.out (M : Int) (by first | exact HLX.out | exact .inl rfl)).mono ?_
    rintro e w11 ⟨u, rfl, hu, hw11⟩
    obtain ⟨tb, htb⟩ : ∃ tb, decide (0 ≤ (M : Int) ∧ (M : Int) < (X.length : Int)) = tb := ⟨_, rfl⟩
    rw [htb]
    have HTB := Lib.hid htb
    have HU := Lib.hid hu
    have HBL11 := Lib.hid (HBL10.out.old hw11)
    have HB11 := Lib.hid (HB10.out.trans (hw11.mono HB10.out.size))
    clear htb hu hw11
    go_wp2_with fail
    go_meet
    exact ⟨u, tb, rfl, rfl, HU.out, HTB.out, HBL11.out, HB11.out⟩
   ·have dk4 : (K == 4) = false := beq_eq_false_iff_ne.2 k4
    clear k2 k4 HAS
    go_wp2_with fail
    refine (HAO.out _ HB9.out).mono ?_
    rintro e w10 ⟨⟨v, rfl, _⟩, hw10⟩
    have HBL10 := Lib.hid (HBL9.out.old hw10)
    have HB10 := Lib.hid (HB9.out.trans (hw10.mono HB9.out.size))
    have i0 := (hw10.cell (p := ⟨B, 0, none⟩) hBlt9).trans e0
    have i1 := (hw10.cell (p := ⟨B, 1, none⟩) hBlt9).trans e1
    have HVS := Lib.hid (ValString_calls (w := w10) (K := K) (A := some ⟨b, o', none⟩) (m := L) (c := c - (nl + 2)) (l := X) fun W hW => HS.out W (HB10.out.trans (hW.mono HB10.out.size)) (-1) (.inl rfl))
    clear hw10 e0 e1
    go_wp2_with fail
    refine HVS.out.mono ?_
    rintro e w11 ⟨⟨u, rfl, hu⟩, hw11⟩
    have HU := Lib.hid hu
    have husz : u.size = X.length := hu.size
    have HBL11 := Lib.hid (HBL10.out.old hw11)
    have HB11 := Lib.hid (HB10.out.trans (hw11.mono HB10.out.size))
    clear hu hw11 HVS
    by_cases hlt : M < X.length
    ·have t1 : decide ((M : Int) < (u.size : Int)) = true := decide_eq_true (by omega)
     have t1b : decide (M < u.size) = true := decide_eq_true (by omega)
     have HD : Hid (decide (0 ≤ (M : Int) ∧ (M : Int) < (X.length : Int)) = true) := decide_eq_true ⟨by omega, by omega⟩
     have HTR : Hid (∀ W, Calls Tryz.prog 33 #[.string u, .int .i64 M] W fun e w' => ∃ u', e = .returned (.string u') ∧ StrIs u' (cutL X M) ∧ w' = W) := fun W => Truncate_calls u X M HU.out HXR.out (by have := HXL.out; omega) hM2 W
     clear hlt husz
     go_wp2_with fail
     refine (HTR.out _).mono ?_
     rintro e w12 ⟨u', rfl, hu', hw12⟩
     have hwe := hw12.symm
     subst hwe
     have HU' := Lib.hid hu'
     clear hu' hw12
     go_wp2_with fail
     go_meet
     exact ⟨u', true, rfl, rfl, HU'.out.cast (by rw [if_neg (by omega)]; rfl), HD.out, HBL11.out, HB11.out⟩
    ·have t1 : decide ((M : Int) < (u.size : Int)) = false := decide_eq_false (by omega)
     have t1b : decide (M < u.size) = false := decide_eq_false (by omega)
     have HD : Hid (decide (0 ≤ (M : Int) ∧ (M : Int) < (X.length : Int)) = false) := decide_eq_false (by omega)
     have HCA : Hid (cutL X M = X) := cutL_all (by omega)
     clear hlt husz
     go_wp2_with fail
     go_meet
     exact ⟨u, false, rfl, rfl, HU.out.cast (by rw [if_neg (by omega)]; exact HCA.out.symm), HD.out, HBL11.out, HB11.out⟩
 obtain ⟨u, tb, rfl, rfl, HU, HTB, HBL12, HB12⟩ := hcut
 clear HS HAO HAS e0 e1 HBL9 HB9 hBlt9
 have hul : u.size ≤ 90000000 := by
  rw [HU.out.size]
  split
  ·exact HXL.out
  ·have := cutL_length X ((M : Int)).toNat; have := HLX.out; omega
 go_wp2_with fail
 refine (HBL12.out.str HU.out (by rw [← HU.out.size]; have := HBL.out; simp; omega) HB12.out.size).mono ?_
 rintro e w13 ⟨rfl, hb13, hw13⟩
 have HBL13 := Lib.hid hb13
 have HB13 := Lib.hid (HB12.out.trans hw13)
 clear hb13 hw13
 go_wp2_with fail
 refine (HBL13.out.string HB13.out.size).mono ?_
 rintro e w14 ⟨rfl, hw14⟩
 have HB14 := Lib.hid (HB13.out.trans hw14)
 clear hw14
 go_wp2_with fail
 go_ret2
 have hmi := mem_in (name := name) HXO.out M
 rw [HNS.out, ← HN4.out] at hmi
 refine strn_any ((StrIs.of _).cast ?_) ?_ HB14.out
 ·rw [hmi.1]
  simp
 ·rw [← HTB.out]
  refine decide_eq_decide.2 ?_
  rw [hmi.2]
  omega
end Go.Proofs.YtkeakdjbidbegaaGreatDoor
