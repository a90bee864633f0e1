/- A part of the proof that laws.FnTextElement returns true at every input: Ext, U8, U8b. -/
import Derived.Test.YtkeakdjbidbegaaGreatDoorA
set_option linter.unusedSimpArgs false
set_option linter.unusedVariables false
set_option maxRecDepth 100000
set_option maxHeartbeats 8000000
namespace Go.Proofs.YtkeakdjbidbegaaGreatDoor
open Go.RowKit
open Go.Proofs.YtkeakdjbidbegaaGreatDoorW.PrintWords
theorem runeF_chr (b : Nat → Int) (sz : Nat) (hb : ∀ j, 0 ≤ b j) : 0 ≤ (runeF b sz).2 ∧ (runeF b sz).2 ≤ 1114111 ∧ (runeF b sz).1 ≤ 4 := by
 have tl : ∀ n m least, n ≤ 4 → 0 ≤ m → 0 ≤ least → 0 ≤ (runeTail b sz n m least).2 ∧ (runeTail b sz n m least).2 ≤ 1114111 ∧ (runeTail b sz n m least).1 ≤ 4 := by
  intro n m least hn hm hl
  unfold runeTail
  split
  ·simp
  ·split
   ·split
    ·simp
    ·rename_i h
     refine ⟨?_, ?_, ?_⟩ <;> simp only <;> omega
   ·simp
 unfold runeF
 split
 ·simp
 ·split
  ·have := hb 0
   refine ⟨?_, ?_, ?_⟩ <;> simp only <;> omega
  ·split
   ·exact tl _ _ _ (by omega) (by omega) (by omega)
   ·split
    ·exact tl _ _ _ (by omega) (by omega) (by omega)
    ·split
     ·exact tl _ _ _ (by omega) (by omega) (by omega)
     ·simp
theorem StrIs.bytes {u : ByteArray} {l : List Int} (h : StrIs u l) (hr : ∀ x ∈ l, 0 ≤ x ∧ x ≤ 255) : bytesOf u = l := by
 have e1 : bytesOf u = l.map fun n => ((UInt8.ofNat n.toNat).toNat : Int) := by rw [h.out]; unfold bytesOf; rw [strOfNums_data, List.map_map]; rfl
 rw [e1]
 have e2 : (l.map fun n => ((UInt8.ofNat n.toNat).toNat : Int)) = l.map id := List.map_congr_left fun x hx => by
  have := hr x hx
  show ((UInt8.ofNat x.toNat).toNat : Int) = x
  have : (UInt8.ofNat x.toNat).toNat = x.toNat := UInt8.toNat_ofNat_of_lt' (by show _ < 256; omega)
  rw [this]
  omega
 rw [e2, List.map_id]
def escC (esc : Bool) (c : Int) (raw : List Int) : List Int :=
 if c = 34 ∨ c = 92 then [92, c]
 else if c = 8 then [92, 98] else if c = 9 then [92, 116] else if c = 10 then [92, 110] else if c = 12 then [92, 102] else if c = 13 then [92, 114]
 else if c < 32 ∨ esc = true ∧ (c = 60 ∨ c = 62 ∨ c = 38) then [92, 117, 48, 48, hexd (c / 16), hexd (c % 16)]
 else if c = 8232 ∨ c = 8233 then [92, 117, 50, 48, 50, 56 + c - 8232]
 else raw
def extStrL (s : ByteArray) (esc : Bool) : Nat → Nat → List Int
 | 0, _ => []
 | f + 1, k => if k < s.size then escC esc (runeF (fun j => bt s (k + j)) (s.size - k)).2 (bytesOf (s.extract k (k + (runeF (fun j => bt s (k + j)) (s.size - k)).1.toNat))) ++ extStrL s esc f (k + (runeF (fun j => bt s (k + j)) (s.size - k)).1.toNat) else []
def extStrF (s : ByteArray) (esc : Bool) : List Int := 34 :: extStrL s esc (s.size + 1) 0 ++ [34]
theorem ExtString_calls (s : ByteArray) (esc : Bool) (hs : s.size ≤ 2147483647) (hv : utf8F s = true) (w : World) :
  Calls Tryz.prog 21 #[.string s, .bool esc] w fun e w' => ∃ u, e = .returned (.string u) ∧ StrIs u (extStrF s esc) ∧ Below w.heap.size w w' := by
 go_enter Tryz.func21, Tryz.ntmps21
 go_wp2
 go_loopw [5, 6] (fun o i wr => ∃ (k f : Nat) (xs : List Int), k ≤ s.size ∧ s.size < k + f ∧ i = .int .i64 k ∧ Hid (utf8L (bt s) s.size f k = true) ∧ Own wr w.heap.size o xs ∧ Hid (xs ++ extStrL s esc f k = 34 :: extStrL s esc (s.size + 1) 0) ∧ xs.length ≤ 6 * k + 1 ∧ Below w.heap.size w wr) (fun _ i _ => s.size - (intOf i).toNat)
 case atStart => exact ⟨0, s.size + 1, [34], by omega, by omega, rfl, hv, own_lit _ _ _ _ [34] (Nat.le_refl _) (by simp), by rfl, by simp, (Below.refl _ _).alloc (Nat.le_refl _) _⟩
 case round =>
  obtain ⟨k, f, xs, hk, hf, rfl, HF, hO, hX, hxl, hb⟩ := hrel
  have HO := Lib.hid hO
  have hB := Lib.hid hb
  clear hO hb
  by_cases hlt : k < s.size
  ·obtain ⟨f, rfl⟩ : ∃ m, f = m + 1 := ⟨f - 1, by omega⟩
   have hz := Lib.hid (size_suffix s k hk)
   have hbs := Lib.hid (bt_suffix s k hk)
   have hle := runeF_le (fun j => bt s (k + j)) (s.size - k)
   have hch := runeF_chr (fun j => bt s (k + j)) (s.size - k) (fun j => (bt_range s _).1)
   go_wp2_with fail
   refine (extRune_calls (s.extract k s.size) (by rw [hz.out]; unfold maxLen; omega) _).mono ?_
   rintro e w' ⟨rfl, rfl⟩
   rw [hz.out, hbs.out]
   have h := HF.out
   have h3 : extStrL s esc (f + 1) k = escC esc (runeF (fun j => bt s (k + j)) (s.size - k)).2 (bytesOf (s.extract k (k + (runeF (fun j => bt s (k + j)) (s.size - k)).1.toNat))) ++ extStrL s esc f (k + (runeF (fun j => bt s (k + j)) (s.size - k)).1.toNat) := by
    conv => lhs; unfold extStrL
    rw [if_pos hlt]
   simp only [utf8L] at h
   rw [if_pos hlt] at h
   generalize runeF (fun j => bt s (k + j)) (s.size - k) = R at hle hch h h3 ⊢
   obtain ⟨n, c⟩ := R
   simp only at hle hch h h3
   by_cases hn : n = 0
   ·rw [if_pos hn] at h
    simp at h
   ·rw [if_neg hn] at h
    have hnb : (n == 0) = false := by simp [hn]
    obtain ⟨N, rfl⟩ : ∃ N : Nat, n = N := ⟨n.toNat, by omega⟩
    rw [Int.toNat_natCast] at h h3
    have hU := Lib.hid h
    have hstep := Lib.hid h3
    have hN : 1 ≤ N ∧ N ≤ 4 := by omega
    clear h h3 hn HF
    obtain ⟨c0, c1, c2⟩ := hch
    have hle2 : (N : Int) ≤ s.size - k := by omega
    have hrs : (s.extract k (k + N)).size ≤ 4 := by rw [ByteArray.size_extract]; omega
    have hrs1 : (s.extract k (k + N)).size ≤ N := by rw [ByteArray.size_extract]; omega
    clear c2 hle
    by_cases z34 : c = 34
    ·subst z34
     go_wp2_with (at_builtin; refine append_lit (w0 := w) w.heap.size rfl (.tmp 42) (.tmp 45) rfl _ _ [_, _] rfl rfl HO.out hB.out (by exact hB.out.size) (by have h4 : (ByteArray.mk #[92, 117, 48, 48]).size = 4 := rfl; have h5 : (ByteArray.mk #[92, 117, 50, 48, 50]).size = 5 := rfl; (try simp only [List.length_append, List.length_cons, List.length_nil, bytesOf_length, h4, h5]); omega) ?_; intro v1 w1 n0 n1 _ _; clear HO hB; have HO := Lib.hid n0; have hB := Lib.hid n1; clear n0 n1)
     go_roundw
     case rel =>
      refine ⟨k + N, f, _, by omega, by omega, by first | go_num | (congr 1; omega), hU, HO.out, ?_, ?_, hB.out⟩
      ·show _ = _
       rw [← hX.out, hstep.out]
       simp [escC, List.append_assoc]
       try rfl
      ·have h4 : (ByteArray.mk #[92, 117, 48, 48]).size = 4 := rfl
       have h5 : (ByteArray.mk #[92, 117, 50, 48, 50]).size = 5 := rfl
       simp only [List.length_append, List.length_cons, List.length_nil, bytesOf_length, h4, h5]; omega
     case measure => simp [intOf]; omega
    by_cases z92 : c = 92
    ·subst z92
     go_wp2_with (at_builtin; refine append_lit (w0 := w) w.heap.size rfl (.tmp 42) (.tmp 45) rfl _ _ [_, _] rfl rfl HO.out hB.out (by exact hB.out.size) (by have h4 : (ByteArray.mk #[92, 117, 48, 48]).size = 4 := rfl; have h5 : (ByteArray.mk #[92, 117, 50, 48, 50]).size = 5 := rfl; (try simp only [List.length_append, List.length_cons, List.length_nil, bytesOf_length, h4, h5]); omega) ?_; intro v1 w1 n0 n1 _ _; clear HO hB; have HO := Lib.hid n0; have hB := Lib.hid n1; clear n0 n1)
     go_roundw
     case rel =>
      refine ⟨k + N, f, _, by omega, by omega, by first | go_num | (congr 1; omega), hU, HO.out, ?_, ?_, hB.out⟩
      ·show _ = _
       rw [← hX.out, hstep.out]
       simp [escC, List.append_assoc]
       try rfl
      ·have h4 : (ByteArray.mk #[92, 117, 48, 48]).size = 4 := rfl
       have h5 : (ByteArray.mk #[92, 117, 50, 48, 50]).size = 5 := rfl
       simp only [List.length_append, List.length_cons, List.length_nil, bytesOf_length, h4, h5]; omega
     case measure => simp [intOf]; omega
    by_cases z8 : c = 8
    ·subst z8
     go_wp2_with (at_builtin; refine append_lit (w0 := w) w.heap.size rfl (.tmp 66) (.tmp 70) rfl _ _ [_, _] rfl rfl HO.out hB.out (by exact hB.out.size) (by have h4 : (ByteArray.mk #[92, 117, 48, 48]).size = 4 := rfl; have h5 : (ByteArray.mk #[92, 117, 50, 48, 50]).size = 5 := rfl; (try simp only [List.length_append, List.length_cons, List.length_nil, bytesOf_length, h4, h5]); omega) ?_; intro v1 w1 n0 n1 _ _; clear HO hB; have HO := Lib.hid n0; have hB := Lib.hid n1; clear n0 n1)
     go_roundw
     case rel =>
      refine ⟨k + N, f, _, by omega, by omega, by first | go_num | (congr 1; omega), hU, HO.out, ?_, ?_, hB.out⟩
      ·show _ = _
       rw [← hX.out, hstep.out]
       simp [escC, List.append_assoc]
       try rfl
      ·have h4 : (ByteArray.mk #[92, 117, 48, 48]).size = 4 := rfl
       have h5 : (ByteArray.mk #[92, 117, 50, 48, 50]).size = 5 := rfl
       simp only [List.length_append, List.length_cons, List.length_nil, bytesOf_length, h4, h5]; omega
     case measure => simp [intOf]; omega
    by_cases z9 : c = 9
    ·subst z9
     go_wp2_with (at_builtin; refine append_lit (w0 := w) w.heap.size rfl (.tmp 66) (.tmp 70) rfl _ _ [_, _] rfl rfl HO.out hB.out (by exact hB.out.size) (by have h4 : (ByteArray.mk #[92, 117, 48, 48]).size = 4 := rfl; have h5 : (ByteArray.mk #[92, 117, 50, 48, 50]).size = 5 := rfl; (try simp only [List.length_append, List.length_cons, List.length_nil, bytesOf_length, h4, h5]); omega) ?_; intro v1 w1 n0 n1 _ _; clear HO hB; have HO := Lib.hid n0; have hB := Lib.hid n1; clear n0 n1)
     go_roundw
     case rel =>
      refine ⟨k + N, f, _, by omega, by omega, by first | go_num | (congr 1; omega), hU, HO.out, ?_, ?_, hB.out⟩
      ·show _ = _
       rw [← hX.out, hstep.out]
       simp [escC, List.append_assoc]
       try rfl
      ·have h4 : (ByteArray.mk #[92, 117, 48, 48]).size = 4 := rfl
       have h5 : (ByteArray.mk #[92, 117, 50, 48, 50]).size = 5 := rfl
       simp only [List.length_append, List.length_cons, List.length_nil, bytesOf_length, h4, h5]; omega
     case measure => simp [intOf]; omega
    by_cases z10 : c = 10
    ·subst z10
     go_wp2_with (at_builtin; refine append_lit (w0 := w) w.heap.size rfl (.tmp 66) (.tmp 70) rfl _ _ [_, _] rfl rfl HO.out hB.out (by exact hB.out.size) (by have h4 : (ByteArray.mk #[92, 117, 48, 48]).size = 4 := rfl; have h5 : (ByteArray.mk #[92, 117, 50, 48, 50]).size = 5 := rfl; (try simp only [List.length_append, List.length_cons, List.length_nil, bytesOf_length, h4, h5]); omega) ?_; intro v1 w1 n0 n1 _ _; clear HO hB; have HO := Lib.hid n0; have hB := Lib.hid n1; clear n0 n1)
     go_roundw
     case rel =>
      refine ⟨k + N, f, _, by omega, by omega, by first | go_num | (congr 1; omega), hU, HO.out, ?_, ?_, hB.out⟩
      ·show _ = _
       rw [← hX.out, hstep.out]
       simp [escC, List.append_assoc]
       try rfl
      ·have h4 : (ByteArray.mk #[92, 117, 48, 48]).size = 4 := rfl
       have h5 : (ByteArray.mk #[92, 117, 50, 48, 50]).size = 5 := rfl
       simp only [List.length_append, List.length_cons, List.length_nil, bytesOf_length, h4, h5]; omega
     case measure => simp [intOf]; omega
    by_cases z12 : c = 12
    ·subst z12
     go_wp2_with (at_builtin; refine append_lit (w0 := w) w.heap.size rfl (.tmp 66) (.tmp 70) rfl _ _ [_, _] rfl rfl HO.out hB.out (by exact hB.out.size) (by have h4 : (ByteArray.mk #[92, 117, 48, 48]).size = 4 := rfl; have h5 : (ByteArray.mk #[92, 117, 50, 48, 50]).size = 5 := rfl; (try simp only [List.length_append, List.length_cons, List.length_nil, bytesOf_length, h4, h5]); omega) ?_; intro v1 w1 n0 n1 _ _; clear HO hB; have HO := Lib.hid n0; have hB := Lib.hid n1; clear n0 n1)
     go_roundw
     case rel =>
      refine ⟨k + N, f, _, by omega, by omega, by first | go_num | (congr 1; omega), hU, HO.out, ?_, ?_, hB.out⟩
      ·show _ = _
       rw [← hX.out, hstep.out]
       simp [escC, List.append_assoc]
       try rfl
      ·have h4 : (ByteArray.mk #[92, 117, 48, 48]).size = 4 := rfl
       have h5 : (ByteArray.mk #[92, 117, 50, 48, 50]).size = 5 := rfl
       simp only [List.length_append, List.length_cons, List.length_nil, bytesOf_length, h4, h5]; omega
     case measure => simp [intOf]; omega
    by_cases z13 : c = 13
    ·subst z13
     go_wp2_with (at_builtin; refine append_lit (w0 := w) w.heap.size rfl (.tmp 66) (.tmp 70) rfl _ _ [_, _] rfl rfl HO.out hB.out (by exact hB.out.size) (by have h4 : (ByteArray.mk #[92, 117, 48, 48]).size = 4 := rfl; have h5 : (ByteArray.mk #[92, 117, 50, 48, 50]).size = 5 := rfl; (try simp only [List.length_append, List.length_cons, List.length_nil, bytesOf_length, h4, h5]); omega) ?_; intro v1 w1 n0 n1 _ _; clear HO hB; have HO := Lib.hid n0; have hB := Lib.hid n1; clear n0 n1)
     go_roundw
     case rel =>
      refine ⟨k + N, f, _, by omega, by omega, by first | go_num | (congr 1; omega), hU, HO.out, ?_, ?_, hB.out⟩
      ·show _ = _
       rw [← hX.out, hstep.out]
       simp [escC, List.append_assoc]
       try rfl
      ·have h4 : (ByteArray.mk #[92, 117, 48, 48]).size = 4 := rfl
       have h5 : (ByteArray.mk #[92, 117, 50, 48, 50]).size = 5 := rfl
       simp only [List.length_append, List.length_cons, List.length_nil, bytesOf_length, h4, h5]; omega
     case measure => simp [intOf]; omega
    have HZ : Hid (c ≠ 34 ∧ c ≠ 92 ∧ c ≠ 8 ∧ c ≠ 9 ∧ c ≠ 10 ∧ c ≠ 12 ∧ c ≠ 13) := ⟨z34, z92, z8, z9, z10, z12, z13⟩
    have b34 : (c == 34) = false := by simp [z34]
    have b92 : (c == 92) = false := by simp [z92]
    have b8 : (c == 8) = false := by simp [z8]
    have b9 : (c == 9) = false := by simp [z9]
    have b10 : (c == 10) = false := by simp [z10]
    have b12 : (c == 12) = false := by simp [z12]
    have b13 : (c == 13) = false := by simp [z13]
    clear z34 z92 z8 z9 z10 z12 z13
    by_cases z32 : c < 32
    ·have b32 : decide (c < 32) = true := decide_eq_true z32
     have hE : Hid (escC esc c (bytesOf (s.extract k (k + N))) = [92, 117, 48, 48, hexd (c / 16), hexd (c % 16)]) := by
      obtain ⟨a1, a2, a3, a4, a5, a6, a7⟩ := HZ.out
      show _ = _
      unfold escC
      rw [if_neg (by omega), if_neg a3, if_neg a4, if_neg a5, if_neg a6, if_neg a7, if_pos (Or.inl z32)]
     rw [hE.out] at hstep
     have vw : IntKind.u8.wrap c = c := by rw [IntKind.wrap_u8]; omega
     go_wp2_with (at_builtin; refine append_str (w0 := w) w.heap.size rfl (.tmp 90) (.const (.string ⟨#[92, 117, 48, 48]⟩)) rfl _ _ _ rfl rfl HO.out hB.out (by exact hB.out.size) (by have h4 : (ByteArray.mk #[92, 117, 48, 48]).size = 4 := rfl; rw [h4]; (try simp only [List.length_append, List.length_cons, List.length_nil]); omega) ?_; intro v1 w1 n0 n1 _; clear HO hB; have HO := Lib.hid n0; have hB := Lib.hid n1; clear n0 n1)
     refine (extHex_calls c (by omega) (by omega) _).mono ?_
     rintro e w2 ⟨u, rfl, hu, hb2⟩
     have hus : u.size ≤ 2 := hu.le (by simp)
     have hub := Lib.hid (hu.bytes (by intro x hx; rcases List.mem_cons.1 hx with rfl | hx; (· unfold hexd; split <;> omega); rw [List.mem_singleton] at hx; subst hx; unfold hexd; split <;> omega))
     have HO2 := Lib.hid (pw_own_below HO.out (hb2.mono (Nat.le_refl _)))
     have hB2 := Lib.hid (hB.out.trans (hb2.mono hB.out.size))
     clear HO hB hb2
     have HO := HO2
     have hB := hB2
     clear HO2 hB2
     go_wp2_with (at_builtin; refine append_str (w0 := w) w.heap.size rfl (.tmp 92) (.tmp 95) rfl _ _ _ rfl rfl HO.out hB.out (by exact hB.out.size) (by have h4 : (ByteArray.mk #[92, 117, 48, 48]).size = 4 := rfl; have h5 : (ByteArray.mk #[92, 117, 50, 48, 50]).size = 5 := rfl; (try simp only [List.length_append, List.length_cons, List.length_nil, bytesOf_length, h4, h5]); omega) ?_; intro v1 w1 n0 n1 _; clear HO hB; have HO := Lib.hid n0; have hB := Lib.hid n1; clear n0 n1)
     go_roundw
     case rel =>
      refine ⟨k + N, f, _, by omega, by omega, by first | go_num | (congr 1; omega), hU, HO.out, ?_, ?_, hB.out⟩
      ·show _ = _
       rw [← hX.out, hstep.out, hub.out]
       have k0 : bytesOf ({ data := #[92, 117, 48, 48] } : ByteArray) = [92, 117, 48, 48] := rfl
       rw [k0]; simp [List.append_assoc]
      ·have h4 : (ByteArray.mk #[92, 117, 48, 48]).size = 4 := rfl
       have h5 : (ByteArray.mk #[92, 117, 50, 48, 50]).size = 5 := rfl
       simp only [List.length_append, List.length_cons, List.length_nil, bytesOf_length, h4, h5]; omega
     case measure => simp [intOf]; omega
    have b32 : decide (c < 32) = false := decide_eq_false z32
    by_cases z60 : esc = true ∧ c = 60
    ·obtain ⟨rfl, rfl⟩ := z60
     have hE : Hid (escC true 60 (bytesOf (s.extract k (k + N))) = [92, 117, 48, 48, hexd (60 / 16), hexd (60 % 16)]) := by
      show _ = _
      simp [escC]
     rw [hE.out] at hstep
     have vw : IntKind.u8.wrap 60 = 60 := by rw [IntKind.wrap_u8]; omega
     go_wp2_with (at_builtin; refine append_str (w0 := w) w.heap.size rfl (.tmp 90) (.const (.string ⟨#[92, 117, 48, 48]⟩)) rfl _ _ _ rfl rfl HO.out hB.out (by exact hB.out.size) (by have h4 : (ByteArray.mk #[92, 117, 48, 48]).size = 4 := rfl; rw [h4]; (try simp only [List.length_append, List.length_cons, List.length_nil]); omega) ?_; intro v1 w1 n0 n1 _; clear HO hB; have HO := Lib.hid n0; have hB := Lib.hid n1; clear n0 n1)
     refine (extHex_calls 60 (by omega) (by omega) _).mono ?_
     rintro e w2 ⟨u, rfl, hu, hb2⟩
     have hus : u.size ≤ 2 := hu.le (by simp)
     have hub := Lib.hid (hu.bytes (by intro x hx; rcases List.mem_cons.1 hx with rfl | hx; (· unfold hexd; split <;> omega); rw [List.mem_singleton] at hx; subst hx; unfold hexd; split <;> omega))
     have HO2 := Lib.hid (pw_own_below HO.out (hb2.mono (Nat.le_refl _)))
     have hB2 := Lib.hid (hB.out.trans (hb2.mono hB.out.size))
     clear HO hB hb2
     have HO := HO2
     have hB := hB2
     clear HO2 hB2
     go_wp2_with (at_builtin; refine append_str (w0 := w) w.heap.size rfl (.tmp 92) (.tmp 95) rfl _ _ _ rfl rfl HO.out hB.out (by exact hB.out.size) (by have h4 : (ByteArray.mk #[92, 117, 48, 48]).size = 4 := rfl; have h5 : (ByteArray.mk #[92, 117, 50, 48, 50]).size = 5 := rfl; (try simp only [List.length_append, List.length_cons, List.length_nil, bytesOf_length, h4, h5]); omega) ?_; intro v1 w1 n0 n1 _; clear HO hB; have HO := Lib.hid n0; have hB := Lib.hid n1; clear n0 n1)
     go_roundw
     case rel =>
      refine ⟨k + N, f, _, by omega, by omega, by first | go_num | (congr 1; omega), hU, HO.out, ?_, ?_, hB.out⟩
      ·show _ = _
       rw [← hX.out, hstep.out, hub.out]
       have k0 : bytesOf ({ data := #[92, 117, 48, 48] } : ByteArray) = [92, 117, 48, 48] := rfl
       rw [k0]; simp [List.append_assoc]
      ·have h4 : (ByteArray.mk #[92, 117, 48, 48]).size = 4 := rfl
       have h5 : (ByteArray.mk #[92, 117, 50, 48, 50]).size = 5 := rfl
       simp only [List.length_append, List.length_cons, List.length_nil, bytesOf_length, h4, h5]; omega
     case measure => simp [intOf]; omega
    by_cases z62 : esc = true ∧ c = 62
    ·obtain ⟨rfl, rfl⟩ := z62
     have hE : Hid (escC true 62 (bytesOf (s.extract k (k + N))) = [92, 117, 48, 48, hexd (62 / 16), hexd (62 % 16)]) := by
      show _ = _
      simp [escC]
     rw [hE.out] at hstep
     have vw : IntKind.u8.wrap 62 = 62 := by rw [IntKind.wrap_u8]; omega
     go_wp2_with (at_builtin; refine append_str (w0 := w) w.heap.size rfl (.tmp 90) (.const (.string ⟨#[92, 117, 48, 48]⟩)) rfl _ _ _ rfl rfl HO.out hB.out (by exact hB.out.size) (by have h4 : (ByteArray.mk #[92, 117, 48, 48]).size = 4 := rfl; rw [h4]; (try simp only [List.length_append, List.length_cons, List.length_nil]); omega) ?_; intro v1 w1 n0 n1 _; clear HO hB; have HO := Lib.hid n0; have hB := Lib.hid n1; clear n0 n1)
     refine (extHex_calls 62 (by omega) (by omega) _).mono ?_
     rintro e w2 ⟨u, rfl, hu, hb2⟩
     have hus : u.size ≤ 2 := hu.le (by simp)
     have hub := Lib.hid (hu.bytes (by intro x hx; rcases List.mem_cons.1 hx with rfl | hx; (· unfold hexd; split <;> omega); rw [List.mem_singleton] at hx; subst hx; unfold hexd; split <;> omega))
     have HO2 := Lib.hid (pw_own_below HO.out (hb2.mono (Nat.le_refl _)))
     have hB2 := Lib.hid (hB.out.trans (hb2.mono hB.out.size))
     clear HO hB hb2
     have HO := HO2
     have hB := hB2
     clear HO2 hB2
     go_wp2_with (at_builtin; refine append_str (w0 := w) w.heap.size rfl (.tmp 92) (.tmp 95) rfl _ _ _ rfl rfl HO.out hB.out (by exact hB.out.size) (by have h4 : (ByteArray.mk #[92, 117, 48, 48]).size = 4 := rfl; have h5 : (ByteArray.mk #[92, 117, 50, 48, 50]).size = 5 := rfl; (try simp only [List.length_append, List.length_cons, List.length_nil, bytesOf_length, h4, h5]); omega) ?_; intro v1 w1 n0 n1 _; clear HO hB; have HO := Lib.hid n0; have hB := Lib.hid n1; clear n0 n1)
     go_roundw
     case rel =>
      refine ⟨k + N, f, _, by omega, by omega, by first | go_num | (congr 1; omega), hU, HO.out, ?_, ?_, hB.out⟩
      ·show _ = _
       rw [← hX.out, hstep.out, hub.out]
       have k0 : bytesOf ({ data := #[92, 117, 48, 48] } : ByteArray) = [92, 117, 48, 48] := rfl
       rw [k0]; simp [List.append_assoc]
      ·have h4 : (ByteArray.mk #[92, 117, 48, 48]).size = 4 := rfl
       have h5 : (ByteArray.mk #[92, 117, 50, 48, 50]).size = 5 := rfl
       simp only [List.length_append, List.length_cons, List.length_nil, bytesOf_length, h4, h5]; omega
     case measure => simp [intOf]; omega
    by_cases z38 : esc = true ∧ c = 38
    ·obtain ⟨rfl, rfl⟩ := z38
     have hE : Hid (escC true 38 (bytesOf (s.extract k (k + N))) = [92, 117, 48, 48, hexd (38 / 16), hexd (38 % 16)]) := by
      show _ = _
      simp [escC]
     rw [hE.out] at hstep
     have vw : IntKind.u8.wrap 38 = 38 := by rw [IntKind.wrap_u8]; omega
     go_wp2_with (at_builtin; refine append_str (w0 := w) w.heap.size rfl (.tmp 90) (.const (.string ⟨#[92, 117, 48, 48]⟩)) rfl _ _ _ rfl rfl HO.out hB.out (by exact hB.out.size) (by have h4 : (ByteArray.mk #[92, 117, 48, 48]).size = 4 := rfl; rw [h4]; (try simp only [List.length_append, List.length_cons, List.length_nil]); omega) ?_; intro v1 w1 n0 n1 _; clear HO hB; have HO := Lib.hid n0; have hB := Lib.hid n1; clear n0 n1)
     refine (extHex_calls 38 (by omega) (by omega) _).mono ?_
     rintro e w2 ⟨u, rfl, hu, hb2⟩
     have hus : u.size ≤ 2 := hu.le (by simp)
     have hub := Lib.hid (hu.bytes (by intro x hx; rcases List.mem_cons.1 hx with rfl | hx; (· unfold hexd; split <;> omega); rw [List.mem_singleton] at hx; subst hx; unfold hexd; split <;> omega))
     have HO2 := Lib.hid (pw_own_below HO.out (hb2.mono (Nat.le_refl _)))
     have hB2 := Lib.hid (hB.out.trans (hb2.mono hB.out.size))
     clear HO hB hb2
     have HO := HO2
     have hB := hB2
     clear HO2 hB2
     go_wp2_with (at_builtin; refine append_str (w0 := w) w.heap.size rfl (.tmp 92) (.tmp 95) rfl _ _ _ rfl rfl HO.out hB.out (by exact hB.out.size) (by have h4 : (ByteArray.mk #[92, 117, 48, 48]).size = 4 := rfl; have h5 : (ByteArray.mk #[92, 117, 50, 48, 50]).size = 5 := rfl; (try simp only [List.length_append, List.length_cons, List.length_nil, bytesOf_length, h4, h5]); omega) ?_; intro v1 w1 n0 n1 _; clear HO hB; have HO := Lib.hid n0; have hB := Lib.hid n1; clear n0 n1)
     go_roundw
     case rel =>
      refine ⟨k + N, f, _, by omega, by omega, by first | go_num | (congr 1; omega), hU, HO.out, ?_, ?_, hB.out⟩
      ·show _ = _
       rw [← hX.out, hstep.out, hub.out]
       have k0 : bytesOf ({ data := #[92, 117, 48, 48] } : ByteArray) = [92, 117, 48, 48] := rfl
       rw [k0]; simp [List.append_assoc]
      ·have h4 : (ByteArray.mk #[92, 117, 48, 48]).size = 4 := rfl
       have h5 : (ByteArray.mk #[92, 117, 50, 48, 50]).size = 5 := rfl
       simp only [List.length_append, List.length_cons, List.length_nil, bytesOf_length, h4, h5]; omega
     case measure => simp [intOf]; omega
    have HE3 : Hid (¬ (esc = true ∧ (c = 60 ∨ c = 62 ∨ c = 38))) := by
     show ¬ _
     rintro ⟨p, q | q | q⟩
     ·exact z60 ⟨p, q⟩
     ·exact z62 ⟨p, q⟩
     ·exact z38 ⟨p, q⟩
    clear z60 z62 z38
    by_cases z8232 : c = 8232
    ·subst z8232
     have hE : Hid (escC esc 8232 (bytesOf (s.extract k (k + N))) = [92, 117, 50, 48, 50, 56 + 8232 - 8232]) := by
      show _ = _
      simp [escC]
     rw [hE.out] at hstep
     cases esc
     ·have vw : IntKind.u8.wrap (56 + 8232 - 8232) = 56 + 8232 - 8232 := by rw [IntKind.wrap_u8]; omega
      go_wp2_with (first | (at_builtin; refine append_str (w0 := w) w.heap.size rfl (.tmp 104) (.const (.string ⟨#[92, 117, 50, 48, 50]⟩)) rfl _ _ _ rfl rfl HO.out hB.out (by exact hB.out.size) (by have h4 : (ByteArray.mk #[92, 117, 50, 48, 50]).size = 5 := rfl; rw [h4]; (try simp only [List.length_append, List.length_cons, List.length_nil]); omega) ?_; intro v1 w1 n0 n1 _; clear HO hB; have HO := Lib.hid n0; have hB := Lib.hid n1; clear n0 n1) | (at_builtin; refine append_lit (w0 := w) w.heap.size rfl (.tmp 106) (.tmp 111) rfl _ _ [_] rfl rfl HO.out hB.out (by exact hB.out.size) (by have h4 : (ByteArray.mk #[92, 117, 48, 48]).size = 4 := rfl; have h5 : (ByteArray.mk #[92, 117, 50, 48, 50]).size = 5 := rfl; (try simp only [List.length_append, List.length_cons, List.length_nil, bytesOf_length, h4, h5]); omega) ?_; intro v1 w1 n0 n1 _ _; clear HO hB; have HO := Lib.hid n0; have hB := Lib.hid n1; clear n0 n1))
      go_roundw
      case rel =>
       refine ⟨k + N, f, _, by omega, by omega, by first | go_num | (congr 1; omega), hU, HO.out, ?_, ?_, hB.out⟩
       ·show _ = _
        have k0 : bytesOf (ByteArray.mk #[92, 117, 50, 48, 50]) = [92, 117, 50, 48, 50] := rfl
        rw [← hX.out, hstep.out, k0]
        simp [List.append_assoc]
       ·have h5 : (ByteArray.mk #[92, 117, 50, 48, 50]).size = 5 := rfl
        simp only [List.length_append, List.length_cons, List.length_nil, bytesOf_length, h5]; omega
      case measure => simp [intOf]; omega
     ·have vw : IntKind.u8.wrap (56 + 8232 - 8232) = 56 + 8232 - 8232 := by rw [IntKind.wrap_u8]; omega
      go_wp2_with (first | (at_builtin; refine append_str (w0 := w) w.heap.size rfl (.tmp 104) (.const (.string ⟨#[92, 117, 50, 48, 50]⟩)) rfl _ _ _ rfl rfl HO.out hB.out (by exact hB.out.size) (by have h4 : (ByteArray.mk #[92, 117, 50, 48, 50]).size = 5 := rfl; rw [h4]; (try simp only [List.length_append, List.length_cons, List.length_nil]); omega) ?_; intro v1 w1 n0 n1 _; clear HO hB; have HO := Lib.hid n0; have hB := Lib.hid n1; clear n0 n1) | (at_builtin; refine append_lit (w0 := w) w.heap.size rfl (.tmp 106) (.tmp 111) rfl _ _ [_] rfl rfl HO.out hB.out (by exact hB.out.size) (by have h4 : (ByteArray.mk #[92, 117, 48, 48]).size = 4 := rfl; have h5 : (ByteArray.mk #[92, 117, 50, 48, 50]).size = 5 := rfl; (try simp only [List.length_append, List.length_cons, List.length_nil, bytesOf_length, h4, h5]); omega) ?_; intro v1 w1 n0 n1 _ _; clear HO hB; have HO := Lib.hid n0; have hB := Lib.hid n1; clear n0 n1))
      go_roundw
      case rel =>
       refine ⟨k + N, f, _, by omega, by omega, by first | go_num | (congr 1; omega), hU, HO.out, ?_, ?_, hB.out⟩
       ·show _ = _
        have k0 : bytesOf (ByteArray.mk #[92, 117, 50, 48, 50]) = [92, 117, 50, 48, 50] := rfl
        rw [← hX.out, hstep.out, k0]
        simp [List.append_assoc]
       ·have h5 : (ByteArray.mk #[92, 117, 50, 48, 50]).size = 5 := rfl
        simp only [List.length_append, List.length_cons, List.length_nil, bytesOf_length, h5]; omega
      case measure => simp [intOf]; omega
    by_cases z8233 : c = 8233
    ·subst z8233
     have hE : Hid (escC esc 8233 (bytesOf (s.extract k (k + N))) = [92, 117, 50, 48, 50, 56 + 8233 - 8232]) := by
      show _ = _
      simp [escC]
     rw [hE.out] at hstep
     cases esc
     ·have vw : IntKind.u8.wrap (56 + 8233 - 8232) = 56 + 8233 - 8232 := by rw [IntKind.wrap_u8]; omega
      go_wp2_with (first | (at_builtin; refine append_str (w0 := w) w.heap.size rfl (.tmp 104) (.const (.string ⟨#[92, 117, 50, 48, 50]⟩)) rfl _ _ _ rfl rfl HO.out hB.out (by exact hB.out.size) (by have h4 : (ByteArray.mk #[92, 117, 50, 48, 50]).size = 5 := rfl; rw [h4]; (try simp only [List.length_append, List.length_cons, List.length_nil]); omega) ?_; intro v1 w1 n0 n1 _; clear HO hB; have HO := Lib.hid n0; have hB := Lib.hid n1; clear n0 n1) | (at_builtin; refine append_lit (w0 := w) w.heap.size rfl (.tmp 106) (.tmp 111) rfl _ _ [_] rfl rfl HO.out hB.out (by exact hB.out.size) (by have h4 : (ByteArray.mk #[92, 117, 48, 48]).size = 4 := rfl; have h5 : (ByteArray.mk #[92, 117, 50, 48, 50]).size = 5 := rfl; (try simp only [List.length_append, List.length_cons, List.length_nil, bytesOf_length, h4, h5]); omega) ?_; intro v1 w1 n0 n1 _ _; clear HO hB; have HO := Lib.hid n0; have hB := Lib.hid n1; clear n0 n1))
      go_roundw
      case rel =>
       refine ⟨k + N, f, _, by omega, by omega, by first | go_num | (congr 1; omega), hU, HO.out, ?_, ?_, hB.out⟩
       ·show _ = _
        have k0 : bytesOf (ByteArray.mk #[92, 117, 50, 48, 50]) = [92, 117, 50, 48, 50] := rfl
        rw [← hX.out, hstep.out, k0]
        simp [List.append_assoc]
       ·have h5 : (ByteArray.mk #[92, 117, 50, 48, 50]).size = 5 := rfl
        simp only [List.length_append, List.length_cons, List.length_nil, bytesOf_length, h5]; omega
      case measure => simp [intOf]; omega
     ·have vw : IntKind.u8.wrap (56 + 8233 - 8232) = 56 + 8233 - 8232 := by rw [IntKind.wrap_u8]; omega
      go_wp2_with (first | (at_builtin; refine append_str (w0 := w) w.heap.size rfl (.tmp 104) (.const (.string ⟨#[92, 117, 50, 48, 50]⟩)) rfl _ _ _ rfl rfl HO.out hB.out (by exact hB.out.size) (by have h4 : (ByteArray.mk #[92, 117, 50, 48, 50]).size = 5 := rfl; rw [h4]; (try simp only [List.length_append, List.length_cons, List.length_nil]); omega) ?_; intro v1 w1 n0 n1 _; clear HO hB; have HO := Lib.hid n0; have hB := Lib.hid n1; clear n0 n1) | (at_builtin; refine append_lit (w0 := w) w.heap.size rfl (.tmp 106) (.tmp 111) rfl _ _ [_] rfl rfl HO.out hB.out (by exact hB.out.size) (by have h4 : (ByteArray.mk #[92, 117, 48, 48]).size = 4 := rfl; have h5 : (ByteArray.mk #[92, 117, 50, 48, 50]).size = 5 := rfl; (try simp only [List.length_append, List.length_cons, List.length_nil, bytesOf_length, h4, h5]); omega) ?_; intro v1 w1 n0 n1 _ _; clear HO hB; have HO := Lib.hid n0; have hB := Lib.hid n1; clear n0 n1))
      go_roundw
      case rel =>
       refine ⟨k + N, f, _, by omega, by omega, by first | go_num | (congr 1; omega), hU, HO.out, ?_, ?_, hB.out⟩
       ·show _ = _
        have k0 : bytesOf (ByteArray.mk #[92, 117, 50, 48, 50]) = [92, 117, 50, 48, 50] := rfl
        rw [← hX.out, hstep.out, k0]
        simp [List.append_assoc]
       ·have h5 : (ByteArray.mk #[92, 117, 50, 48, 50]).size = 5 := rfl
        simp only [List.length_append, List.length_cons, List.length_nil, bytesOf_length, h5]; omega
      case measure => simp [intOf]; omega
    have hE : Hid (escC esc c (bytesOf (s.extract k (k + N))) = bytesOf (s.extract k (k + N))) := by
     obtain ⟨a1, a2, a3, a4, a5, a6, a7⟩ := HZ.out
     show _ = _
     unfold escC
     rw [if_neg (by omega), if_neg a3, if_neg a4, if_neg a5, if_neg a6, if_neg a7, if_neg (by rintro (h | h); exact z32 h; exact HE3.out h), if_neg (by omega)]
    rw [hE.out] at hstep
    have b8232 : (c == 8232) = false := by simp [z8232]
    have b8233 : (c == 8233) = false := by simp [z8233]
    clear z8232 z8233
    cases esc with
    | false =>
     go_wp2_with (at_builtin; refine append_str (w0 := w) w.heap.size rfl (.tmp 27) (.tmp 33) rfl _ _ _ rfl rfl HO.out hB.out (by exact hB.out.size) (by have h4 : (ByteArray.mk #[92, 117, 48, 48]).size = 4 := rfl; have h5 : (ByteArray.mk #[92, 117, 50, 48, 50]).size = 5 := rfl; (try simp only [List.length_append, List.length_cons, List.length_nil, bytesOf_length, h4, h5]); omega) ?_; intro v1 w1 n0 n1 _; clear HO hB; have HO := Lib.hid n0; have hB := Lib.hid n1; clear n0 n1)
     go_roundw
     case rel =>
      refine ⟨k + N, f, _, by omega, by omega, by first | go_num | (congr 1; omega), hU, HO.out, ?_, ?_, hB.out⟩
      ·show _ = _
       rw [← hX.out, hstep.out]
       simp [List.append_assoc]
      ·simp only [List.length_append, List.length_cons, List.length_nil, bytesOf_length]; omega
     case measure => simp [intOf]; omega
    | true =>
     have y60 : (c == 60) = false := by have := HE3.out; simp only [true_and, not_or] at this; simp [this.1]
     have y62 : (c == 62) = false := by have := HE3.out; simp only [true_and, not_or] at this; simp [this.2.1]
     have y38 : (c == 38) = false := by have := HE3.out; simp only [true_and, not_or] at this; simp [this.2.2]
     go_wp2_with (at_builtin; refine append_str (w0 := w) w.heap.size rfl (.tmp 27) (.tmp 33) rfl _ _ _ rfl rfl HO.out hB.out (by exact hB.out.size) (by have h4 : (ByteArray.mk #[92, 117, 48, 48]).size = 4 := rfl; have h5 : (ByteArray.mk #[92, 117, 50, 48, 50]).size = 5 := rfl; (try simp only [List.length_append, List.length_cons, List.length_nil, bytesOf_length, h4, h5]); omega) ?_; intro v1 w1 n0 n1 _; clear HO hB; have HO := Lib.hid n0; have hB := Lib.hid n1; clear n0 n1)
     go_roundw
     case rel =>
      refine ⟨k + N, f, _, by omega, by omega, by first | go_num | (congr 1; omega), hU, HO.out, ?_, ?_, hB.out⟩
      ·show _ = _
       rw [← hX.out, hstep.out]
       simp [List.append_assoc]
      ·simp only [List.length_append, List.length_cons, List.length_nil, bytesOf_length]; omega
     case measure => simp [intOf]; omega
  ·have hfin : Hid (xs ++ [34] = extStrF s esc) := by
    show _ = _
    have hX2 := hX.out
    have h4 : extStrL s esc f k = [] := by
     cases f with
     | zero => rfl
     | succ f => unfold extStrL; rw [if_neg hlt]
    rw [h4, List.append_nil] at hX2
    rw [hX2]; rfl
   go_wp2_with (at_builtin; refine append_lit (w0 := w) w.heap.size rfl (.tmp 116) (.tmp 117) rfl _ _ [_] rfl rfl HO.out hB.out (by exact hB.out.size) (by have h4 : (ByteArray.mk #[92, 117, 48, 48]).size = 4 := rfl; have h5 : (ByteArray.mk #[92, 117, 50, 48, 50]).size = 5 := rfl; (try simp only [List.length_append, List.length_cons, List.length_nil, bytesOf_length, h4, h5]); omega) ?_; intro v1 w1 n0 n1 _ _; clear HO hB; have HO := Lib.hid n0; have hB := Lib.hid n1; clear n0 n1; have ho := own_str HO.out)
   go_ret
   exact ⟨_, rfl, ⟨by rw [hfin.out]⟩, hB.out⟩
def rn (l : List Int) (i : Nat) : Int := l.getD i 0
theorem rn_lt {l : List Int} {i : Nat} (h : i < l.length) : rn l i = l[i] := by unfold rn; rw [List.getD_eq_getElem?_getD, List.getElem?_eq_getElem h]; rfl
theorem rn_app_lt {a b : List Int} {i : Nat} (h : i < a.length) : rn (a ++ b) i = rn a i := by unfold rn; rw [List.getD_eq_getElem?_getD, List.getD_eq_getElem?_getD, List.getElem?_append_left h]
theorem rn_app_ge {a b : List Int} {i : Nat} (h : a.length ≤ i) : rn (a ++ b) i = rn b (i - a.length) := by unfold rn; rw [List.getD_eq_getElem?_getD, List.getD_eq_getElem?_getD, List.getElem?_append_right h]
theorem rn_drop {l : List Int} {k i : Nat} : rn (l.drop k) i = rn l (k + i) := by unfold rn; rw [List.getD_eq_getElem?_getD, List.getD_eq_getElem?_getD, List.getElem?_drop]
theorem accR_congr {b b' : Nat → Int} {m : Int} : ∀ n : Nat, (∀ j, j < n → b' j = b j) → accR b' m n = accR b m n := by
 intro n
 induction n with
 | zero => intro _; rfl
 | succ n ih =>
  intro h
  rcases Nat.eq_zero_or_pos n with h0 | h0
  ·subst h0; rfl
  ·rw [accR_succ _ _ _ h0, accR_succ _ _ _ h0, ih (fun j hj => h j (by omega)), h n (by omega)]
theorem all_iff {b : Nat → Int} {n : Nat} : (List.range n).all (fun j => j == 0 || b j / 64 == 2) = true ↔ ∀ j, 1 ≤ j → j < n → b j / 64 = 2 := by
 constructor
 ·intro h j h1 hj
  rw [List.all_eq_true] at h
  have := h j (List.mem_range.2 hj)
  simp at this
  omega
 ·exact all_of
theorem runeTail_local {b b' : Nat → Int} {sz sz' n : Nat} {m m' least : Int} (hm : m' = m) (h : (runeTail b sz n m least).1 ≠ 0) (hb : ∀ j, j < n → b' j = b j) (hs : n ≤ sz') :
  runeTail b' sz' n m' least = runeTail b sz n m least ∧ runeTail b sz n m least = ((n : Int), accR b m n) ∧ ∀ j, 1 ≤ j → j < n → b j / 64 = 2 := by
 subst hm
 have hn : n ≤ sz := by
  by_cases hc : sz < n
  ·exfalso; apply h; unfold runeTail; rw [if_pos hc]
  ·omega
 have ha : ∀ j, 1 ≤ j → j < n → b j / 64 = 2 := by
  rw [← all_iff]
  by_cases hc : (List.range n).all (fun j => j == 0 || b j / 64 == 2) = true
  ·exact hc
  ·exfalso; apply h; unfold runeTail; rw [if_neg (by omega), if_neg hc]
 have hc : ¬ (accR b m' n < least ∨ 1114111 < accR b m' n ∨ (55296 ≤ accR b m' n ∧ accR b m' n < 57344)) := by
  intro hc
  apply h
  rw [tail_out hn ha hc]
 have e1 := tail_in hn ha hc
 have e2 := accR_congr (m := m') n hb
 have e3 := tail_in (b := b') (m := m') (least := least) hs (fun j h1 h2 => by rw [hb j h2]; exact ha j h1 h2) (by rw [e2]; exact hc)
 exact ⟨by rw [e3, e1, e2], e1, ha⟩
theorem runeF_local {b : Nat → Int} {sz : Nat} (h : (runeF b sz).1 ≠ 0) : ∃ n : Nat, 1 ≤ n ∧ n ≤ 4 ∧ n ≤ sz ∧ (runeF b sz).1 = n ∧ (∀ j, 1 ≤ j → j < n → b j / 64 = 2) ∧ (0 ≤ b 0 → b 0 / 64 ≠ 2) ∧
  ∀ (b' : Nat → Int) (sz' : Nat), (∀ j, j < n → b' j = b j) → n ≤ sz' → runeF b' sz' = runeF b sz := by
 have hsz : 0 < sz := by
  rcases Nat.eq_zero_or_pos sz with h0 | h0
  ·exfalso; apply h; unfold runeF; rw [if_pos h0]
  ·exact h0
 have tl : ∀ (n : Nat) (m : Int) (least : Int), (runeTail b sz n m least).1 ≠ 0 → n ≤ sz := by
  intro n m least h
  by_cases hc : sz < n
  ·exfalso; apply h; unfold runeTail; rw [if_pos hc]
  ·omega
 by_cases h1 : b 0 < 128
 ·refine ⟨1, by omega, by omega, by omega, by rw [runeF_small hsz h1]; rfl, fun j h2 h3 => by omega, fun h0 => by omega, fun b' sz' hb hs => ?_⟩
  rw [runeF_small hsz h1, runeF_small (by omega) (by rw [hb 0 (by omega)]; exact h1), hb 0 (by omega)]
 ·by_cases h2 : b 0 < 194 ∨ 245 ≤ b 0
  ·exact absurd (by rw [runeF_none (by omega) h2]) h
  ·by_cases h3 : b 0 < 224
   ·rw [runeF_2 hsz (by omega) h3] at h ⊢
    have hn := tl _ _ _ h
    obtain ⟨-, e2, e3⟩ := runeTail_local (b' := b) (sz' := sz) rfl h (fun _ _ => rfl) hn
    refine ⟨2, by omega, by omega, hn, by rw [e2], e3, fun h0 => by omega, fun b' sz' hb hs => ?_⟩
    have h00 := hb 0 (by omega)
    rw [runeF_2 (by omega) (by omega) (by omega)]
    exact (runeTail_local (by rw [h00]) h hb hs).1
   ·by_cases h4 : b 0 < 240
    ·rw [runeF_3 hsz (by omega) h4] at h ⊢
     have hn := tl _ _ _ h
     obtain ⟨-, e2, e3⟩ := runeTail_local (b' := b) (sz' := sz) rfl h (fun _ _ => rfl) hn
     refine ⟨3, by omega, by omega, hn, by rw [e2], e3, fun h0 => by omega, fun b' sz' hb hs => ?_⟩
     have h00 := hb 0 (by omega)
     rw [runeF_3 (by omega) (by omega) (by omega)]
     exact (runeTail_local (by rw [h00]) h hb hs).1
    ·rw [runeF_4 hsz (by omega) (by omega)] at h ⊢
     have hn := tl _ _ _ h
     obtain ⟨-, e2, e3⟩ := runeTail_local (b' := b) (sz' := sz) rfl h (fun _ _ => rfl) hn
     refine ⟨4, by omega, by omega, hn, by rw [e2], e3, fun h0 => by omega, fun b' sz' hb hs => ?_⟩
     have h00 := hb 0 (by omega)
     rw [runeF_4 (by omega) (by omega) (by omega)]
     exact (runeTail_local (by rw [h00]) h hb hs).1
inductive U8 : List Int → Prop
 | nil : U8 []
 | cons (c rest : List Int) : (runeF (rn c) c.length).1 = c.length → 1 ≤ c.length → (∀ x ∈ c, 0 ≤ x ∧ x ≤ 255) → U8 rest → U8 (c ++ rest)
theorem U8.append {a b : List Int} (ha : U8 a) (hb : U8 b) : U8 (a ++ b) := by
 induction ha with
 | nil => exact hb
 | cons c rest h1 h2 h3 _ ih => rw [List.append_assoc]; exact .cons c _ h1 h2 h3 ih
theorem U8.ascii : ∀ l : List Int, (∀ x ∈ l, 0 ≤ x ∧ x < 128) → U8 l
 | [], _ => .nil
 | x :: r, h => by
  have hx := h x (List.mem_cons_self ..)
  refine U8.cons [x] r ?_ (by simp) (fun y hy => ?_) (U8.ascii r fun y hy => h y (List.mem_cons_of_mem _ hy))
  ·rw [runeF_small (by simp) (by show x < 128; exact hx.2)]; rfl
  ·rw [List.mem_singleton] at hy; subst hy; omega
theorem U8.range {l : List Int} (h : U8 l) : ∀ x ∈ l, 0 ≤ x ∧ x ≤ 255 := by
  induction h with
  | nil => intro x hx; cases hx
  | cons c rest h1 h2 h3 _ ih => intro x hx; rcases List.mem_append.1 hx with hx | hx
                                 · exact h3 x hx
                                 · exact ih x hx
theorem U8.first {l : List Int} (h : U8 l) (hl : l ≠ []) : ∃ n : Nat, 1 ≤ n ∧ n ≤ 4 ∧ n ≤ l.length ∧ (runeF (rn l) l.length).1 = n ∧ U8 (l.drop n) ∧ rn l 0 / 64 ≠ 2 ∧ ∀ j, 1 ≤ j → j < n → rn l j / 64 = 2 := by
 cases h with
 | nil => exact absurd rfl hl
 | cons c rest h1 h2 h3 h4 =>
  obtain ⟨n, a1, a2, a3, a4, a5, a6, a7⟩ := runeF_local (b := rn c) (sz := c.length) (by rw [h1]; omega)
  have hn : n = c.length := by rw [a4] at h1; omega
  subst hn
  have e := a7 (rn (c ++ rest)) (c ++ rest).length (fun j hj => rn_app_lt hj) (by rw [List.length_append]; omega)
  refine ⟨c.length, a1, a2, by rw [List.length_append]; omega, by rw [e, h1], by rw [List.drop_left]; exact h4, ?_, fun j hj hj2 => by rw [rn_app_lt hj2]; exact a5 j hj hj2⟩
  rw [rn_app_lt (by omega)]
  refine a6 ?_
  rw [rn_lt (by omega)]
  exact (h3 _ (List.getElem_mem _)).1
def cutAt (b : Nat → Int) : Nat → Nat
 | 0 => 0
 | n + 1 => if b (n + 1) / 64 = 2 then cutAt b n else n + 1
theorem cutAt_le (b : Nat → Int) : ∀ n, cutAt b n ≤ n
 | 0 => Nat.le_refl 0
 | n + 1 => by
  unfold cutAt
  split
  ·have := cutAt_le b n; omega
  ·omega
theorem cutAt_congr {b b' : Nat → Int} : ∀ n, (∀ j, j ≤ n → b' j = b j) → cutAt b' n = cutAt b n
 | 0, _ => rfl
 | n + 1, h => by
  unfold cutAt
  rw [h (n + 1) (by omega), cutAt_congr n fun j hj => h j (by omega)]
theorem cutAt_eq {b : Nat → Int} {k : Nat} (hk : k = 0 ∨ b k / 64 ≠ 2) : ∀ n, k ≤ n → (∀ j, k < j → j ≤ n → b j / 64 = 2) → cutAt b n = k
 | 0, h, _ => by
  have : k = 0 := by omega
  subst this; rfl
 | n + 1, h, ha => by
  unfold cutAt
  by_cases hkn : k = n + 1
  ·subst hkn
   rcases hk with hk | hk
   ·omega
   ·rw [if_neg hk]
  ·rw [if_pos (ha (n + 1) (by omega) (by omega))]
   exact cutAt_eq hk n (by omega) fun j h1 h2 => ha j h1 (by omega)
theorem cutAt_shift {b : Nat → Int} {a : Nat} (h0 : a = 0 ∨ b a / 64 ≠ 2) : ∀ n, cutAt b (a + n) = a + cutAt (fun j => b (a + j)) n
 | 0 => by
  rw [Nat.add_zero]
  rcases h0 with h0 | h0
  ·subst h0; rfl
  ·cases a with
   | zero => rfl
   | succ a => show (if b (a + 1) / 64 = 2 then cutAt b a else a + 1) = a + 1 + 0; rw [if_neg h0]
 | n + 1 => by
  show cutAt b (a + n + 1) = _
  unfold cutAt
  show (if b (a + n + 1) / 64 = 2 then cutAt b (a + n) else a + n + 1) = a + (if b (a + (n + 1)) / 64 = 2 then cutAt (fun j => b (a + j)) n else n + 1)
  rw [show a + (n + 1) = a + n + 1 by omega, cutAt_shift h0 n]
  split <;> omega
def cutL (l : List Int) (n : Nat) : List Int := if l.length ≤ n then l else l.take (cutAt (rn l) n)
theorem cutL_all {l : List Int} {n : Nat} (h : l.length ≤ n) : cutL l n = l := by unfold cutL; rw [if_pos h]
theorem cutL_length (l : List Int) (n : Nat) : (cutL l n).length ≤ n := by
 unfold cutL
 split
 ·assumption
 ·rw [List.length_take]
  have := cutAt_le (rn l) n
  omega
theorem cutL_left {a b : List Int} {n : Nat} (h : n < a.length) : cutL (a ++ b) n = cutL a n := by
 unfold cutL
 rw [if_neg (by rw [List.length_append]; omega), if_neg (by omega)]
 have hc := cutAt_le (rn a) n
 rw [cutAt_congr n (b := rn a) fun j hj => rn_app_lt (by omega), List.take_append_of_le_length (by omega)]
theorem cutL_right {a b : List Int} {n : Nat} (h : a.length ≤ n) (hb : b = [] ∨ rn b 0 / 64 ≠ 2) : cutL (a ++ b) n = a ++ cutL b (n - a.length) := by
 unfold cutL
 by_cases hn : (a ++ b).length ≤ n
 ·rw [if_pos hn, if_pos (by rw [List.length_append] at hn; omega)]
 ·rw [if_neg hn, if_neg (by rw [List.length_append] at hn; omega)]
  rcases hb with hb | hb
  ·subst hb; rw [List.append_nil] at hn; omega
  have h0 : rn (a ++ b) a.length / 64 ≠ 2 := by rw [rn_app_ge (Nat.le_refl _), Nat.sub_self]; exact hb
  have e := cutAt_shift (b := rn (a ++ b)) (a := a.length) (.inr h0) (n - a.length)
  rw [show a.length + (n - a.length) = n by omega] at e
  rw [e, cutAt_congr (n - a.length) (b := rn b) fun j _ => by rw [rn_app_ge (by omega), Nat.add_sub_cancel_left], List.take_append, List.take_of_length_le (by omega), Nat.add_sub_cancel_left]
theorem low_first {x : Int} {r : List Int} (h0 : 0 ≤ x) (h : x < 128) : (x :: r) = [] ∨ rn (x :: r) 0 / 64 ≠ 2 := .inr (by show x / 64 ≠ 2; omega)
theorem rn_bytes (s : ByteArray) (j : Nat) : rn (bytesOf s) j = bt s j := by
 by_cases h : j < s.size
 ·rw [rn_lt (by rw [bytesOf_length]; exact h), ← bt_at s j h]
  unfold bytesOf
  rw [List.getElem_map, Array.getElem_toList]
  rfl
 ·unfold rn bt
  rw [dif_neg h, List.getD_eq_getElem?_getD, List.getElem?_eq_none (by rw [bytesOf_length]; omega)]
  rfl
theorem bytes_range (s : ByteArray) : ∀ x ∈ bytesOf s, 0 ≤ x ∧ x ≤ 255 := by
 intro x hx
 obtain ⟨i, hi, rfl⟩ := List.getElem_of_mem hx
 rw [← rn_lt hi, rn_bytes]
 exact bt_range s i
theorem bytes_extract (s : ByteArray) (a b : Nat) : bytesOf (s.extract a b) = ((bytesOf s).drop a).take (b - a) := by
 unfold bytesOf
 rw [Lib.extract_data, List.map_take, List.map_drop]
theorem strIs_bytes (s : ByteArray) : StrIs s (bytesOf s) := ⟨by
 apply WideShapes.bytes_inj
 rw [strOfNums_data]
 unfold bytesOf
 rw [List.map_map]
 have : ((fun n : Int => UInt8.ofNat n.toNat) ∘ fun b : UInt8 => (b.toNat : Int)) = id := by funext b; simp
 rw [this, List.map_id]⟩
theorem rune_at {s : ByteArray} {k : Nat} (hk : k < s.size) (h : (runeF (fun j => bt s (k + j)) (s.size - k)).1 ≠ 0) : ∃ n : Nat, 1 ≤ n ∧ n ≤ 4 ∧ k + n ≤ s.size ∧ (runeF (fun j => bt s (k + j)) (s.size - k)).1 = n ∧
  ∀ r, (bytesOf s).drop k = ((bytesOf s).drop k).take n ++ (bytesOf s).drop (k + n) ∧ (U8 r → U8 (((bytesOf s).drop k).take n ++ r)) := by
 obtain ⟨n, h1, h2, h3, h4, h5, h6, h7⟩ := runeF_local h
 refine ⟨n, h1, h2, by omega, h4, fun r => ⟨?_, fun hr => ?_⟩⟩
 ·rw [← List.drop_drop, List.take_append_drop]
 ·have hlen : (((bytesOf s).drop k).take n).length = n := by rw [List.length_take, List.length_drop, bytesOf_length]; omega
  refine U8.cons _ _ ?_ (by omega) (fun x hx => bytes_range s x (List.mem_of_mem_drop (List.mem_of_mem_take hx))) hr
  rw [h7 _ _ (fun j hj => ?_) (by omega), h4, hlen]
  unfold rn
  rw [List.getD_eq_getElem?_getD, List.getElem?_take, if_pos hj, List.getElem?_drop, ← List.getD_eq_getElem?_getD]
  exact rn_bytes s (k + j)
theorem utf8L_U8 (s : ByteArray) : ∀ f k : Nat, s.size < k + f → k ≤ s.size → utf8L (bt s) s.size f k = true → U8 ((bytesOf s).drop k) := by
 intro f
 induction f with
 | zero => intro k h1 h2 _; omega
 | succ f ih =>
  intro k h1 h2 h
  by_cases hk : k < s.size
  ·unfold utf8L at h
   rw [if_pos hk] at h
   by_cases h0 : (runeF (fun j => bt s (k + j)) (s.size - k)).1 = 0
   ·rw [if_pos h0] at h; cases h
   ·rw [if_neg h0] at h
    obtain ⟨n, a1, a2, a3, a4, a5⟩ := rune_at hk h0
    rw [a4, Int.toNat_natCast] at h
    obtain ⟨e, e2⟩ := a5 ((bytesOf s).drop (k + n))
    rw [e]
    exact e2 (ih (k + n) (by omega) (by omega) h)
  ·rw [List.drop_of_length_le (by rw [bytesOf_length]; omega)]
   exact .nil
theorem utf8_U8 {s : ByteArray} (h : utf8F s = true) : U8 (bytesOf s) := by
 have := utf8L_U8 s (s.size + 1) 0 (by omega) (by omega) h
 rwa [List.drop_zero] at this
theorem hexd_low {n : Int} (h0 : 0 ≤ n) (h1 : n < 16) : 0 ≤ hexd n ∧ hexd n < 128 := by unfold hexd; split <;> omega
theorem escC_low {esc : Bool} {c : Int} {raw : List Int} (hc : 0 ≤ c) : (∀ x ∈ escC esc c raw, 0 ≤ x ∧ x < 128) ∨ escC esc c raw = raw := by
 unfold escC
 have m1 : ∀ (y : Int), 0 ≤ y → y < 128 → ∀ x ∈ [(92 : Int), y], 0 ≤ x ∧ x < 128 := by
  intro y h1 h2 x hx
  simp only [List.mem_cons, List.not_mem_nil, or_false] at hx
  omega
 by_cases h1 : c = 34 ∨ c = 92
 ·rw [if_pos h1]; exact .inl (m1 c hc (by omega))
 rw [if_neg h1]
 by_cases h2 : c = 8
 ·rw [if_pos h2]; exact .inl (m1 _ (by omega) (by omega))
 rw [if_neg h2]
 by_cases h3 : c = 9
 ·rw [if_pos h3]; exact .inl (m1 _ (by omega) (by omega))
 rw [if_neg h3]
 by_cases h4 : c = 10
 ·rw [if_pos h4]; exact .inl (m1 _ (by omega) (by omega))
 rw [if_neg h4]
 by_cases h5 : c = 12
 ·rw [if_pos h5]; exact .inl (m1 _ (by omega) (by omega))
 rw [if_neg h5]
 by_cases h6 : c = 13
 ·rw [if_pos h6]; exact .inl (m1 _ (by omega) (by omega))
 rw [if_neg h6]
 by_cases h7 : c < 32 ∨ esc = true ∧ (c = 60 ∨ c = 62 ∨ c = 38)
 ·rw [if_pos h7]
  refine .inl fun x hx => ?_
  have e1 := hexd_low (n := c / 16) (by omega) (by omega)
  have e2 := hexd_low (n := c % 16) (by omega) (by omega)
  simp only [List.mem_cons, List.not_mem_nil, or_false] at hx
  omega
 rw [if_neg h7]
 by_cases h8 : c = 8232 ∨ c = 8233
 ·rw [if_pos h8]
  refine .inl fun x hx => ?_
  simp only [List.mem_cons, List.not_mem_nil, or_false] at hx
  omega
 rw [if_neg h8]
 exact .inr rfl
theorem extStrL_U8 (s : ByteArray) (esc : Bool) : ∀ f g k : Nat, s.size < k + g → utf8L (bt s) s.size g k = true → U8 (extStrL s esc f k) := by
 intro f
 induction f with
 | zero => intro g k _ _; exact .nil
 | succ f ih =>
  intro g k hg hu
  unfold extStrL
  by_cases hk : k < s.size
  ·rw [if_pos hk]
   obtain ⟨g, rfl⟩ : ∃ m, g = m + 1 := ⟨g - 1, by omega⟩
   unfold utf8L at hu
   rw [if_pos hk] at hu
   by_cases h0 : (runeF (fun j => bt s (k + j)) (s.size - k)).1 = 0
   ·rw [if_pos h0] at hu; cases hu
   ·rw [if_neg h0] at hu
    obtain ⟨n, a1, a2, a3, a4, a5⟩ := rune_at hk h0
    rw [a4, Int.toNat_natCast] at hu ⊢
    have hr := ih g (k + n) (by omega) hu
    rcases escC_low (esc := esc) (c := (runeF (fun j => bt s (k + j)) (s.size - k)).2) (raw := bytesOf (s.extract k (k + n))) (runeF_chr _ _ (fun j => (bt_range s _).1)).1 with h | h
    ·exact (U8.ascii _ h).append hr
    ·rw [h, bytes_extract, Nat.add_sub_cancel_left]
     exact (a5 _).2 hr
  ·rw [if_neg hk]; exact .nil
theorem ext_U8 {s : ByteArray} (esc : Bool) (h : utf8F s = true) : U8 (extStrF s esc) := by
 unfold extStrF
 have h1 : U8 [(34 : Int)] := U8.ascii _ (by simp)
 exact (h1.append (extStrL_U8 s esc (s.size + 1) (s.size + 1) 0 (by omega) h)).append h1
def Low (l : List Int) : Prop := ∀ x ∈ l, 0 ≤ x ∧ x < 128
theorem Low.nil : Low [] := fun x h => by cases h
theorem Low.cons {y : Int} {l : List Int} (h0 : 0 ≤ y) (h1 : y < 128) (h : Low l) : Low (y :: l) := fun x hx => by
 rcases List.mem_cons.1 hx with rfl | hx
 ·exact ⟨h0, h1⟩
 ·exact h x hx
theorem Low.append {a b : List Int} (h : Low a) (k : Low b) : Low (a ++ b) := fun x hx => by
 rcases List.mem_append.1 hx with hx | hx
 ·exact h x hx
 ·exact k x hx
theorem Low.take {l : List Int} (h : Low l) (n : Nat) : Low (l.take n) := fun x hx => h x (List.mem_of_mem_take hx)
theorem Low.drop {l : List Int} (h : Low l) (n : Nat) : Low (l.drop n) := fun x hx => h x (List.mem_of_mem_drop hx)
theorem Low.replicate (n : Nat) : Low (List.replicate n 48) := fun x hx => by
 have := List.eq_of_mem_replicate hx
 subst this; decide
theorem Low.str {l : List Int} (h : Low l) : bytesOf (strOfNums l) = l := StrIs.bytes ⟨rfl⟩ fun x hx => by have := h x hx; omega
theorem Low.u8 {l : List Int} (h : Low l) : U8 l := U8.ascii l h
end Go.Proofs.YtkeakdjbidbegaaGreatDoor
