/- A part of the proof that laws.FnTextElement returns true at every input: Eval. -/
import Derived.Test.YtkeakdjbidbegaaGreatDoorJ
import Derived.Deep.Cut
import Derived.Deep.CutRange
import Derived.Deep.CutBlock
import Derived.Deep.DeepCutAuto
set_option linter.unusedSimpArgs false
set_option linter.unusedVariables false
set_option maxRecDepth 100000
set_option maxHeartbeats 8000000
namespace Go.Proofs.YtkeakdjbidbegaaGreatDoor
open Go.RowKit
open Go.Proofs.YtkeakdjbidbegaaGreatDoorW.PrintWords
theorem ValueErr_calls (b o c nl L : Nat) (K : Int) (name : ByteArray) (vb : List Int) (w : World) (hB : Byt w b o (K :: (bytesOf name ++ 0 :: vb))) (hvb : vb.length = L) (hbw : b < w.heap.size) (hp : plainF name = true) (hns : name.size = nl) (hnl : nl ≤ 300)
    (hm : nl + 2 + L < c) (hmx : c ≤ maxLen) (hml : L ≤ 800000000)
    (hV : ∀ W, Below w.heap.size w W → Calls Tryz.prog 108 #[.slice (some ⟨b, o + (nl + 2), none⟩) L (c - (nl + 2)), .int .u8 K] W (LenAns L W)) :
    Calls Tryz.prog 139 #[.slice (some ⟨b, o, none⟩) (nl + 2 + L) c] w fun e w' => e = .returned (.tuple #[.agg #[.int .u8 K, .slice (some ⟨b, o + (nl + 2), none⟩) L (c - (nl + 2))], .nilIface]) ∧ Below w.heap.size w w' := by
  have hbl := bytesOf_length name
  rw [hns] at hbl
  have hpb := plain_bytes hp
  have q0 : w.cell? ⟨b, o, none⟩ = some (.int .u8 K) := hB 0 (by simp)
  have HRV : Hid (∀ W, Below w.heap.size w W → Calls Tryz.prog 34 #[.slice (some ⟨b, o + (nl + 2), none⟩) L (c - (nl + 2)), .int .u8 K] W fun e w' => ∃ A, e = .returned (.tuple #[.agg #[.int .u8 K, .slice (some ⟨b, o + (nl + 2), none⟩) L (c - (nl + 2))], .slice A (L - L) (c - (nl + 2) - L), .bool true]) ∧ RestAt b (o + (nl + 2) + L) (c - (nl + 2) - L) A ∧ Below W.heap.size W w') := fun W hW =>
    ReadValue_calls b (o + (nl + 2)) L (c - (nl + 2)) L K W (hV _ (hW.alloc hW.size _)) (Nat.le_refl _) (by omega) (by omega) (by omega)
  have HQ : Hid (∀ W, Below w.heap.size w W → W.cell? ⟨b, o, none⟩ = some (.int .u8 K)) := fun W hW => (hW.cell (p := ⟨b, o, none⟩) hbw).trans q0
  have HIX : Hid (∀ W, Below w.heap.size w W → Calls Tryz.prog 27 #[.slice (some ⟨b, o + 1, none⟩) (nl + 1 + L) (c - 1), .int .u8 0] W fun e w' => e = .returned (.int .i64 nl) ∧ w' = W) := fun W hW => by
    have h1 : Byt W b (o + 1) (bytesOf name ++ 0 :: vb) := fun j hj => by
      have h := hB.below hW hbw (j + 1) (by simp at hj ⊢; omega)
      rw [show o + (j + 1) = o + 1 + j by omega] at h
      exact h
    have h := IndexZero_calls b (o + 1) (nl + 1 + L) (c - 1) (bytesOf name) vb W h1 hpb (by omega)
    rwa [hbl] at h
  unfold maxLen at hmx
  have hBw : Hid (Below w.heap.size w (w.alloc (.cells #[.int .u8 0, .slice none 0 0] 67))) := (Below.refl _ _).alloc (Nat.le_refl _) _
  obtain ⟨W1, hW1⟩ : ∃ W, w.alloc (.cells #[.int .u8 0, .slice none 0 0] 67) = W := ⟨_, rfl⟩
  have hs1 : W1.heap.size = w.heap.size + 1 := by rw [← hW1]; simp
  have c0 : W1.cell? ⟨w.heap.size, 0, none⟩ = some (.int .u8 0) := by rw [← hW1]; simp [go_sem]
  have c1 : W1.cell? ⟨w.heap.size, 1, none⟩ = some (.slice none 0 0) := by rw [← hW1]; simp [go_sem]
  have f0 : W1.frozen? ⟨w.heap.size, 0, none⟩ = false := by rw [← hW1]; simp [go_sem]
  have f1 : W1.frozen? ⟨w.heap.size, 1, none⟩ = false := by rw [← hW1]; simp [go_sem]
  rw [hW1] at hBw
  have q1 := HQ.out _ hBw.out
  clear hB hpb hp hbl hns hV hvb
  have d1 : (((nl + 2 + L : Nat) : Int) == 0) = false := beq_eq_false_iff_ne.2 (by omega)
  have hcn : nl + 2 < c := by omega
  have hcn2 : (c = nl + 2) = False := by simp; omega
  have hnL : nl ≤ nl + L := by omega
  have hwk : IntKind.i64.wrap ((nl : Int) + 2) = (nl : Int) + 2 := by rw [IntKind.wrap_i64]; omega
  have hwl : (nl : Int) + 2 ≤ (nl : Int) + 2 + L := by omega
  have d2 : ((nl : Int) == -1) = false := beq_eq_false_iff_ne.2 (by omega)
  go_enter Tryz.func139, Tryz.ntmps139
  go_wp2_with fail
  refine (HIX.out _ hBw.out).mono ?_
  rintro e w1 ⟨rfl, hw1⟩
  subst hw1
  clear hW1
  go_upto_region 6 with fail
  go_cut [5, 7] from 8 to 39 (fun s5 s7 wx => ∃ B, s5 = .pointer (some ⟨B, 0, none⟩) ∧ s7 = .bool true ∧ w.heap.size < B ∧ wx.cell? ⟨B, 0, none⟩ = some (.int .u8 K) ∧ wx.cell? ⟨B, 1, none⟩ = some (.slice (some ⟨b, o + (nl + 2), none⟩) L (c - (nl + 2))) ∧ Hid (Below w.heap.size w wx) ∧ Hid (Below (w.heap.size + 1) w1 wx))
  case first =>
    have HK : Hid (∀ C : Obj, C = .cells #[.int .u8 0, .slice none 0 0] 67 → ∀ W2, Below ((w1.alloc C).drew).heap.size ((w1.alloc C).drew) W2 → W2.cell? ⟨w.heap.size + 1, 0, none⟩ = some (.int .u8 0) ∧ W2.cell? ⟨w.heap.size + 1, 1, none⟩ = some (.slice none 0 0) ∧ W2.frozen? ⟨w.heap.size + 1, 0, none⟩ = false ∧ W2.frozen? ⟨w.heap.size + 1, 1, none⟩ = false) := by
      rintro C rfl W2 h
      refine ⟨(h.cell (p := ⟨w.heap.size + 1, 0, none⟩) (by simp [hs1])).trans (by simp [go_sem, ← hs1]), (h.cell (p := ⟨w.heap.size + 1, 1, none⟩) (by simp [hs1])).trans (by simp [go_sem, ← hs1]), (h.frozen (p := ⟨w.heap.size + 1, 0, none⟩) (by simp [hs1])).trans (by simp [go_sem, ← hs1]), (h.frozen (p := ⟨w.heap.size + 1, 1, none⟩) (by simp [hs1])).trans (by simp [go_sem, ← hs1])⟩
    go_region_with (go_at_call 34; (refine (HRV.out _ (by first | exact hBw.out | exact hBw.out.drew | exact (hBw.out.alloc hBw.out.size _).drew)).mono ?_; rintro e w2 ⟨A, rfl, hA, hw2⟩; (first | (with_reducible (have kk := HK.out _ rfl w2 hw2); obtain ⟨k0, k1, e0, e1⟩ := kk) | skip); have HB2 : Hid (Below (w.heap.size + 1) w1 w2) := (by first | exact (Below.refl _ _).drew.trans (hw2.mono (Nat.le_of_eq hs1.symm)) | exact ((Below.refl _ _).alloc (Nat.le_of_eq hs1.symm) _).drew.trans (hw2.mono (by simp [hs1]))); clear hA hw2))
    all_goals have hs2 := HB2.out.size
    all_goals go_wp2_with fail
    all_goals go_meet
    all_goals first
      | exact ⟨w2.heap.size, rfl, rfl, by omega, by simp [go_sem], by simp [go_sem], (hBw.out.trans (HB2.out.mono (by omega))).alloc (by omega) _, HB2.out.alloc (by omega) _⟩
      | (refine ⟨w.heap.size + 1, rfl, rfl, by omega, by simp [go_sem, k0, k1, e0, e1], by simp [go_sem, k0, k1, e0, e1], ?_, ?_⟩
         · exact (((hBw.out.trans (HB2.out.mono (by omega))).setCell (by show _ ≤ w.heap.size + 1; omega) _).setCell (by show _ ≤ w.heap.size + 1; omega) _)
         · exact ((HB2.out.setCell (by show _ ≤ w.heap.size + 1; omega) _).setCell (by show _ ≤ w.heap.size + 1; omega) _))
  obtain ⟨B, rfl, rfl, hBl, b0, b1, HBA, HBB⟩ := hcut
  have a0 := (HBB.out.cell (p := ⟨w.heap.size, 0, none⟩) (by simp)).trans c0
  have a1 := (HBB.out.cell (p := ⟨w.heap.size, 1, none⟩) (by simp)).trans c1
  have z0 := (HBB.out.frozen (p := ⟨w.heap.size, 0, none⟩) (by simp)).trans f0
  have z1 := (HBB.out.frozen (p := ⟨w.heap.size, 1, none⟩) (by simp)).trans f1
  have hne : (w.heap.size = B) = False := by simp; omega
  clear c0 c1 f0 f1 q1
  go_wp2_with fail
  exact bodyPost_ret (v := .tuple #[.agg #[.int .u8 K, .slice (some ⟨b, o + (nl + 2), none⟩) L (c - (nl + 2))], .nilIface]) (by simp [results, Tryz.results139, go_sem, a0, a1, z0, z1]) rfl ⟨rfl, (HBA.out.setCell (Nat.le_refl _) _).setCell (Nat.le_refl _) _⟩
theorem EValue_calls (b o c nl L : Nat) (K : Int) (name : ByteArray) (vb : List Int) (w : World) (hB : Byt w b o (K :: (bytesOf name ++ 0 :: vb))) (hvb : vb.length = L) (hbw : b < w.heap.size) (hp : plainF name = true) (hns : name.size = nl) (hnl : nl ≤ 300)
  (hm : nl + 2 + L < c) (hmx : c ≤ maxLen) (hml : L ≤ 800000000)
  (hV : ∀ W, Below w.heap.size w W → Calls Tryz.prog 108 #[.slice (some ⟨b, o + (nl + 2), none⟩) L (c - (nl + 2)), .int .u8 K] W (LenAns L W)) :
  Calls Tryz.prog 93 #[.slice (some ⟨b, o, none⟩) (nl + 2 + L) c] w fun e w' => e = .returned (.agg #[.int .u8 K, .slice (some ⟨b, o + (nl + 2), none⟩) L (c - (nl + 2))]) ∧ Below w.heap.size w w' := by
 have HVE : Hid (∀ W, Below w.heap.size w W → Calls Tryz.prog 139 #[.slice (some ⟨b, o, none⟩) (nl + 2 + L) c] W fun e w' => e = .returned (.tuple #[.agg #[.int .u8 K, .slice (some ⟨b, o + (nl + 2), none⟩) L (c - (nl + 2))], .nilIface]) ∧ Below W.heap.size W w') := fun W hW =>
  ValueErr_calls b o c nl L K name vb W (hB.below hW hbw) hvb (Nat.lt_of_lt_of_le hbw hW.size) hp hns hnl hm hmx hml fun W2 h2 => hV W2 (hW.trans (h2.mono hW.size))
 clear hB hvb hbw hp hns hnl hm hmx hml hV
 have hBw : Hid (Below w.heap.size w (w.alloc (.cells #[.int .u8 0, .slice none 0 0] 67))) := (Below.refl _ _).alloc (Nat.le_refl _) _
 obtain ⟨W1, hW1⟩ : ∃ W, w.alloc (.cells #[.int .u8 0, .slice none 0 0] 67) = W := ⟨_, rfl⟩
 have hs1 : W1.heap.size = w.heap.size + 1 := by rw [← hW1]; simp
 have c0 : W1.cell? ⟨w.heap.size, 0, none⟩ = some (.int .u8 0) := by rw [← hW1]; simp [go_sem]
 have c1 : W1.cell? ⟨w.heap.size, 1, none⟩ = some (.slice none 0 0) := by rw [← hW1]; simp [go_sem]
 have f0 : W1.frozen? ⟨w.heap.size, 0, none⟩ = false := by rw [← hW1]; simp [go_sem]
 have f1 : W1.frozen? ⟨w.heap.size, 1, none⟩ = false := by rw [← hW1]; simp [go_sem]
 rw [hW1] at hBw
 go_enter Tryz.func93, Tryz.ntmps93
 go_wp2_with fail
 refine (HVE.out _ hBw.out).mono ?_
 rintro e w2 ⟨rfl, hw2⟩
 have a0 := (hw2.cell (p := ⟨w.heap.size, 0, none⟩) (by simp [hs1])).trans c0
 have a1 := (hw2.cell (p := ⟨w.heap.size, 1, none⟩) (by simp [hs1])).trans c1
 have z0 := (hw2.frozen (p := ⟨w.heap.size, 0, none⟩) (by simp [hs1])).trans f0
 have z1 := (hw2.frozen (p := ⟨w.heap.size, 1, none⟩) (by simp [hs1])).trans f1
 have HB2 := Lib.hid (hBw.out.trans (hw2.mono hBw.out.size))
 have hs2 : w.heap.size < w2.heap.size := by have := hw2.size; omega
 have hne : (w.heap.size = w2.heap.size) = False := by simp; omega
 have hne2 : (w2.heap.size = w.heap.size) = False := by simp; omega
 clear c0 c1 f0 f1 hw2 hW1
 go_wp2_with fail
 exact bodyPost_ret (v := .agg #[.int .u8 K, .slice (some ⟨b, o + (nl + 2), none⟩) L (c - (nl + 2))]) (by simp [results, Tryz.results93, go_sem, a0, a1, z0, z1, hne, hne2, hs2, World.cell?_alloc_past, World.frozen?_alloc_past]) rfl ⟨rfl, ((HB2.out.setCell (Nat.le_refl _) _).setCell (Nat.le_refl _) _).alloc (by simp; omega) _⟩
end Go.Proofs.YtkeakdjbidbegaaGreatDoor
