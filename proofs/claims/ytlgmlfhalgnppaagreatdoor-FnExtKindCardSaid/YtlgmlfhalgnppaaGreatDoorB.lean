/- A part of the proof that laws.FnExtKind returns true at every input: Ext, Jb. -/
import Derived.Test.YtlgmlfhalgnppaaGreatDoorA
/-! spec.ExtString of a text that is UTF-8. -/
set_option linter.unusedSimpArgs false
set_option linter.unusedVariables false
namespace Go.Proofs.YtlgmlfhalgnppaaGreatDoor
open Go.RowKit
open Go.Proofs.YtlgmlfhalgnppaaGreatDoorW.PrintWords hiding bt bt_at bt_range

theorem runeF_chr (b : Nat → Int) (sz : Nat) (hb : ∀ j, 0 ≤ b j) : 0 ≤ (runeF b sz).2 ∧ (runeF b sz).2 ≤ 1114111 ∧ (runeF b sz).1 ≤ 4 := by
  have tl : ∀ n m least, n ≤ 4 → 0 ≤ m → 0 ≤ least → 0 ≤ (runeTail b sz n m least).2 ∧ (runeTail b sz n m least).2 ≤ 1114111 ∧ (runeTail b sz n m least).1 ≤ 4 := by
    intro n m least hn hm hl
    unfold runeTail
    split
    · simp
    · split
      · split
        · simp
        · rename_i h
          refine ⟨?_, ?_, ?_⟩ <;> simp only <;> omega
      · simp
  unfold runeF
  split
  · simp
  · split
    · have := hb 0
      refine ⟨?_, ?_, ?_⟩ <;> simp only <;> omega
    · split
      · exact tl _ _ _ (by omega) (by omega) (by omega)
      · split
        · exact tl _ _ _ (by omega) (by omega) (by omega)
        · split
          · exact tl _ _ _ (by omega) (by omega) (by omega)
          · simp
theorem StrIs.bytes {u : ByteArray} {l : List Int} (h : StrIs u l) (hr : ∀ x ∈ l, 0 ≤ x ∧ x ≤ 255) : bytesOf u = l := by
  have e1 : bytesOf u = l.map fun n => ((UInt8.ofNat n.toNat).toNat : Int) := by rw [h.out]; unfold bytesOf; rw [strOfNums_data, List.map_map]; rfl
  rw [e1]
  have e2 : (l.map fun n => ((UInt8.ofNat n.toNat).toNat : Int)) = l.map id := List.map_congr_left fun x hx => by
    have := hr x hx
    show ((UInt8.ofNat x.toNat).toNat : Int) = x
    have : (UInt8.ofNat x.toNat).toNat = x.toNat := UInt8.toNat_ofNat_of_lt' (by show _ < 256; omega)
    rw [this]
    omega
  rw [e2, List.map_id]

/-- A character of a text of JSON: its number, and its bytes. -/
def escC (esc : Bool) (c : Int) (raw : List Int) : List Int :=
  if c = 34 ∨ c = 92 then [92, c]
  else if c = 8 then [92, 98] else if c = 9 then [92, 116] else if c = 10 then [92, 110] else if c = 12 then [92, 102] else if c = 13 then [92, 114]
  else if c < 32 ∨ esc = true ∧ (c = 60 ∨ c = 62 ∨ c = 38) then [92, 117, 48, 48, hexd (c / 16), hexd (c % 16)]
  else if c = 8232 ∨ c = 8233 then [92, 117, 50, 48, 50, 56 + c - 8232]
  else raw
def extStrL (s : ByteArray) (esc : Bool) : Nat → Nat → List Int
  | 0, _ => []
  | f + 1, k => if k < s.size then escC esc (runeF (fun j => bt s (k + j)) (s.size - k)).2 (bytesOf (s.extract k (k + (runeF (fun j => bt s (k + j)) (s.size - k)).1.toNat))) ++ extStrL s esc f (k + (runeF (fun j => bt s (k + j)) (s.size - k)).1.toNat) else []
/-- A text as a string of JSON. -/
def extStrF (s : ByteArray) (esc : Bool) : List Int := 34 :: extStrL s esc (s.size + 1) 0 ++ [34]

set_option maxRecDepth 100000 in
set_option maxHeartbeats 4000000 in
theorem ExtString_calls (s : ByteArray) (esc : Bool) (hs : s.size ≤ 2147483647) (hv : utf8F s = true) (w : World) :
    Calls Tryz.prog 39 #[.string s, .bool esc] w fun e w' => ∃ u, e = .returned (.string u) ∧ StrIs u (extStrF s esc) ∧ Below w.heap.size w w' := by
  go_enter Tryz.func39, Tryz.ntmps39
  go_wp2
  go_loopw [5, 6] (fun o i wr => ∃ (k f : Nat) (xs : List Int), k ≤ s.size ∧ s.size < k + f ∧ i = .int .i64 k ∧ Hid (utf8L (bt s) s.size f k = true) ∧ Own wr w.heap.size o xs ∧ Hid (xs ++ extStrL s esc f k = 34 :: extStrL s esc (s.size + 1) 0) ∧ xs.length ≤ 6 * k + 1 ∧ Below w.heap.size w wr) (fun _ i _ => s.size - (intOf i).toNat)
  case atStart => exact ⟨0, s.size + 1, [34], by omega, by omega, rfl, hv, own_lit _ _ _ _ [34] (Nat.le_refl _) (by simp), by rfl, by simp, (Below.refl _ _).alloc (Nat.le_refl _) _⟩
  case round =>
    obtain ⟨k, f, xs, hk, hf, rfl, HF, hO, hX, hxl, hb⟩ := hrel
    have HO := Lib.hid hO
    have hB := Lib.hid hb
    clear hO hb
    by_cases hlt : k < s.size
    · obtain ⟨f, rfl⟩ : ∃ m, f = m + 1 := ⟨f - 1, by omega⟩
      have hz := Lib.hid (size_suffix s k hk)
      have hbs := Lib.hid (bt_suffix s k hk)
      have hle := runeF_le (fun j => bt s (k + j)) (s.size - k)
      have hch := runeF_chr (fun j => bt s (k + j)) (s.size - k) (fun j => (bt_range s _).1)
      go_wp2_with fail
      refine (extRune_calls (s.extract k s.size) (by rw [hz.out]; unfold maxLen; omega) _).mono ?_
      rintro e w' ⟨rfl, rfl⟩
      rw [hz.out, hbs.out]
      have h := HF.out
      have h3 : extStrL s esc (f + 1) k = escC esc (runeF (fun j => bt s (k + j)) (s.size - k)).2 (bytesOf (s.extract k (k + (runeF (fun j => bt s (k + j)) (s.size - k)).1.toNat))) ++ extStrL s esc f (k + (runeF (fun j => bt s (k + j)) (s.size - k)).1.toNat) := by
        conv => lhs; unfold extStrL
        rw [if_pos hlt]
      simp only [utf8L] at h
      rw [if_pos hlt] at h
      generalize runeF (fun j => bt s (k + j)) (s.size - k) = R at hle hch h h3 ⊢
      obtain ⟨n, c⟩ := R
      simp only at hle hch h h3
      by_cases hn : n = 0
      · rw [if_pos hn] at h
        simp at h
      · rw [if_neg hn] at h
        have hnb : (n == 0) = false := by simp [hn]
        obtain ⟨N, rfl⟩ : ∃ N : Nat, n = N := ⟨n.toNat, by omega⟩
        rw [Int.toNat_natCast] at h h3
        have hU := Lib.hid h
        have hstep := Lib.hid h3
        have hN : 1 ≤ N ∧ N ≤ 4 := by omega
        clear h h3 hn HF
        obtain ⟨c0, c1, c2⟩ := hch
        have hle2 : (N : Int) ≤ s.size - k := by omega
        have hrs : (s.extract k (k + N)).size ≤ 4 := by rw [ByteArray.size_extract]; omega
        have hrs1 : (s.extract k (k + N)).size ≤ N := by rw [ByteArray.size_extract]; omega
        clear c2 hle
        by_cases z34 : c = 34
        · subst z34
          go_wp2_with (first | (at_builtin; refine append_lit (w0 := w) w.heap.size rfl (.tmp 42) (.tmp 45) rfl _ _ [_, _] rfl rfl HO.out hB.out (by exact hB.out.size) (by have h4 : (ByteArray.mk #[92, 117, 48, 48]).size = 4 := rfl; have h5 : (ByteArray.mk #[92, 117, 50, 48, 50]).size = 5 := rfl; (try simp only [List.length_append, List.length_cons, List.length_nil, bytesOf_length, h4, h5]); omega) ?_; intro v1 w1 n0 n1 _ _; clear HO hB; have HO := Lib.hid n0; have hB := Lib.hid n1; clear n0 n1) | (at_builtin; refine append_lit (w0 := w) w.heap.size rfl (.tmp 66) (.tmp 70) rfl _ _ [_, _] rfl rfl HO.out hB.out (by exact hB.out.size) (by have h4 : (ByteArray.mk #[92, 117, 48, 48]).size = 4 := rfl; have h5 : (ByteArray.mk #[92, 117, 50, 48, 50]).size = 5 := rfl; (try simp only [List.length_append, List.length_cons, List.length_nil, bytesOf_length, h4, h5]); omega) ?_; intro v1 w1 n0 n1 _ _; clear HO hB; have HO := Lib.hid n0; have hB := Lib.hid n1; clear n0 n1) | (at_builtin; refine append_lit (w0 := w) w.heap.size rfl (.tmp 106) (.tmp 111) rfl _ _ [_] rfl rfl HO.out hB.out (by exact hB.out.size) (by have h4 : (ByteArray.mk #[92, 117, 48, 48]).size = 4 := rfl; have h5 : (ByteArray.mk #[92, 117, 50, 48, 50]).size = 5 := rfl; (try simp only [List.length_append, List.length_cons, List.length_nil, bytesOf_length, h4, h5]); omega) ?_; intro v1 w1 n0 n1 _ _; clear HO hB; have HO := Lib.hid n0; have hB := Lib.hid n1; clear n0 n1) | (at_builtin; refine append_lit (w0 := w) w.heap.size rfl (.tmp 116) (.tmp 117) rfl _ _ [_] rfl rfl HO.out hB.out (by exact hB.out.size) (by have h4 : (ByteArray.mk #[92, 117, 48, 48]).size = 4 := rfl; have h5 : (ByteArray.mk #[92, 117, 50, 48, 50]).size = 5 := rfl; (try simp only [List.length_append, List.length_cons, List.length_nil, bytesOf_length, h4, h5]); omega) ?_; intro v1 w1 n0 n1 _ _; clear HO hB; have HO := Lib.hid n0; have hB := Lib.hid n1; clear n0 n1) | (at_builtin; refine append_str (w0 := w) w.heap.size rfl (.tmp 27) (.tmp 33) rfl _ _ _ rfl rfl HO.out hB.out (by exact hB.out.size) (by have h4 : (ByteArray.mk #[92, 117, 48, 48]).size = 4 := rfl; have h5 : (ByteArray.mk #[92, 117, 50, 48, 50]).size = 5 := rfl; (try simp only [List.length_append, List.length_cons, List.length_nil, bytesOf_length, h4, h5]); omega) ?_; intro v1 w1 n0 n1 _; clear HO hB; have HO := Lib.hid n0; have hB := Lib.hid n1; clear n0 n1) | (at_builtin; refine append_str (w0 := w) w.heap.size rfl (.tmp 92) (.tmp 95) rfl _ _ _ rfl rfl HO.out hB.out (by exact hB.out.size) (by have h4 : (ByteArray.mk #[92, 117, 48, 48]).size = 4 := rfl; have h5 : (ByteArray.mk #[92, 117, 50, 48, 50]).size = 5 := rfl; (try simp only [List.length_append, List.length_cons, List.length_nil, bytesOf_length, h4, h5]); omega) ?_; intro v1 w1 n0 n1 _; clear HO hB; have HO := Lib.hid n0; have hB := Lib.hid n1; clear n0 n1) | (at_builtin; refine append_str (w0 := w) w.heap.size rfl (.tmp 90) (.const (.string ⟨#[92, 117, 48, 48]⟩)) rfl _ _ _ rfl rfl HO.out hB.out (by exact hB.out.size) (by have h4 : (ByteArray.mk #[92, 117, 48, 48]).size = 4 := rfl; rw [h4]; (try simp only [List.length_append, List.length_cons, List.length_nil]); omega) ?_; intro v1 w1 n0 n1 _; clear HO hB; have HO := Lib.hid n0; have hB := Lib.hid n1; clear n0 n1) | (at_builtin; refine append_str (w0 := w) w.heap.size rfl (.tmp 104) (.const (.string ⟨#[92, 117, 50, 48, 50]⟩)) rfl _ _ _ rfl rfl HO.out hB.out (by exact hB.out.size) (by have h4 : (ByteArray.mk #[92, 117, 50, 48, 50]).size = 5 := rfl; rw [h4]; (try simp only [List.length_append, List.length_cons, List.length_nil]); omega) ?_; intro v1 w1 n0 n1 _; clear HO hB; have HO := Lib.hid n0; have hB := Lib.hid n1; clear n0 n1))
          go_roundw
          case rel =>
            refine ⟨k + N, f, _, by omega, by omega, by first | go_num | (congr 1; omega), hU, HO.out, ?_, ?_, hB.out⟩
            · show _ = _
              rw [← hX.out, hstep.out]
              simp [escC, List.append_assoc]
              try rfl
            · have h4 : (ByteArray.mk #[92, 117, 48, 48]).size = 4 := rfl
              have h5 : (ByteArray.mk #[92, 117, 50, 48, 50]).size = 5 := rfl
              simp only [List.length_append, List.length_cons, List.length_nil, bytesOf_length, h4, h5]; omega
          case measure => simp [intOf]; omega
        by_cases z92 : c = 92
        · subst z92
          go_wp2_with (first | (at_builtin; refine append_lit (w0 := w) w.heap.size rfl (.tmp 42) (.tmp 45) rfl _ _ [_, _] rfl rfl HO.out hB.out (by exact hB.out.size) (by have h4 : (ByteArray.mk #[92, 117, 48, 48]).size = 4 := rfl; have h5 : (ByteArray.mk #[92, 117, 50, 48, 50]).size = 5 := rfl; (try simp only [List.length_append, List.length_cons, List.length_nil, bytesOf_length, h4, h5]); omega) ?_; intro v1 w1 n0 n1 _ _; clear HO hB; have HO := Lib.hid n0; have hB := Lib.hid n1; clear n0 n1) | (at_builtin; refine append_lit (w0 := w) w.heap.size rfl (.tmp 66) (.tmp 70) rfl _ _ [_, _] rfl rfl HO.out hB.out (by exact hB.out.size) (by have h4 : (ByteArray.mk #[92, 117, 48, 48]).size = 4 := rfl; have h5 : (ByteArray.mk #[92, 117, 50, 48, 50]).size = 5 := rfl; (try simp only [List.length_append, List.length_cons, List.length_nil, bytesOf_length, h4, h5]); omega) ?_; intro v1 w1 n0 n1 _ _; clear HO hB; have HO := Lib.hid n0; have hB := Lib.hid n1; clear n0 n1) | (at_builtin; refine append_lit (w0 := w) w.heap.size rfl (.tmp 106) (.tmp 111) rfl _ _ [_] rfl rfl HO.out hB.out (by exact hB.out.size) (by have h4 : (ByteArray.mk #[92, 117, 48, 48]).size = 4 := rfl; have h5 : (ByteArray.mk #[92, 117, 50, 48, 50]).size = 5 := rfl; (try simp only [List.length_append, List.length_cons, List.length_nil, bytesOf_length, h4, h5]); omega) ?_; intro v1 w1 n0 n1 _ _; clear HO hB; have HO := Lib.hid n0; have hB := Lib.hid n1; clear n0 n1) | (at_builtin; refine append_lit (w0 := w) w.heap.size rfl (.tmp 116) (.tmp 117) rfl _ _ [_] rfl rfl HO.out hB.out (by exact hB.out.size) (by have h4 : (ByteArray.mk #[92, 117, 48, 48]).size = 4 := rfl; have h5 : (ByteArray.mk #[92, 117, 50, 48, 50]).size = 5 := rfl; (try simp only [List.length_append, List.length_cons, List.length_nil, bytesOf_length, h4, h5]); omega) ?_; intro v1 w1 n0 n1 _ _; clear HO hB; have HO := Lib.hid n0; have hB := Lib.hid n1; clear n0 n1) | (at_builtin; refine append_str (w0 := w) w.heap.size rfl (.tmp 27) (.tmp 33) rfl _ _ _ rfl rfl HO.out hB.out (by exact hB.out.size) (by have h4 : (ByteArray.mk #[92, 117, 48, 48]).size = 4 := rfl; have h5 : (ByteArray.mk #[92, 117, 50, 48, 50]).size = 5 := rfl; (try simp only [List.length_append, List.length_cons, List.length_nil, bytesOf_length, h4, h5]); omega) ?_; intro v1 w1 n0 n1 _; clear HO hB; have HO := Lib.hid n0; have hB := Lib.hid n1; clear n0 n1) | (at_builtin; refine append_str (w0 := w) w.heap.size rfl (.tmp 92) (.tmp 95) rfl _ _ _ rfl rfl HO.out hB.out (by exact hB.out.size) (by have h4 : (ByteArray.mk #[92, 117, 48, 48]).size = 4 := rfl; have h5 : (ByteArray.mk #[92, 117, 50, 48, 50]).size = 5 := rfl; (try simp only [List.length_append, List.length_cons, List.length_nil, bytesOf_length, h4, h5]); omega) ?_; intro v1 w1 n0 n1 _; clear HO hB; have HO := Lib.hid n0; have hB := Lib.hid n1; clear n0 n1) | (at_builtin; refine append_str (w0 := w) w.heap.size rfl (.tmp 90) (.const (.string ⟨#[92, 117, 48, 48]⟩)) rfl _ _ _ rfl rfl HO.out hB.out (by exact hB.out.size) (by have h4 : (ByteArray.mk #[92, 117, 48, 48]).size = 4 := rfl; rw [h4]; (try simp only [List.length_append, List.length_cons, List.length_nil]); omega) ?_; intro v1 w1 n0 n1 _; clear HO hB; have HO := Lib.hid n0; have hB := Lib.hid n1; clear n0 n1) | (at_builtin; refine append_str (w0 := w) w.heap.size rfl (.tmp 104) (.const (.string ⟨#[92, 117, 50, 48, 50]⟩)) rfl _ _ _ rfl rfl HO.out hB.out (by exact hB.out.size) (by have h4 : (ByteArray.mk #[92, 117, 50, 48, 50]).size = 5 := rfl; rw [h4]; (try simp only [List.length_append, List.length_cons, List.length_nil]); omega) ?_; intro v1 w1 n0 n1 _; clear HO hB; have HO := Lib.hid n0; have hB := Lib.hid n1; clear n0 n1))
          go_roundw
          case rel =>
            refine ⟨k + N, f, _, by omega, by omega, by first | go_num | (congr 1; omega), hU, HO.out, ?_, ?_, hB.out⟩
            · show _ = _
              rw [← hX.out, hstep.out]
              simp [escC, List.append_assoc]
              try rfl
            · have h4 : (ByteArray.mk #[92, 117, 48, 48]).size = 4 := rfl
              have h5 : (ByteArray.mk #[92, 117, 50, 48, 50]).size = 5 := rfl
              simp only [List.length_append, List.length_cons, List.length_nil, bytesOf_length, h4, h5]; omega
          case measure => simp [intOf]; omega
        by_cases z8 : c = 8
        · subst z8
          go_wp2_with (first | (at_builtin; refine append_lit (w0 := w) w.heap.size rfl (.tmp 42) (.tmp 45) rfl _ _ [_, _] rfl rfl HO.out hB.out (by exact hB.out.size) (by have h4 : (ByteArray.mk #[92, 117, 48, 48]).size = 4 := rfl; have h5 : (ByteArray.mk #[92, 117, 50, 48, 50]).size = 5 := rfl; (try simp only [List.length_append, List.length_cons, List.length_nil, bytesOf_length, h4, h5]); omega) ?_; intro v1 w1 n0 n1 _ _; clear HO hB; have HO := Lib.hid n0; have hB := Lib.hid n1; clear n0 n1) | (at_builtin; refine append_lit (w0 := w) w.heap.size rfl (.tmp 66) (.tmp 70) rfl _ _ [_, _] rfl rfl HO.out hB.out (by exact hB.out.size) (by have h4 : (ByteArray.mk #[92, 117, 48, 48]).size = 4 := rfl; have h5 : (ByteArray.mk #[92, 117, 50, 48, 50]).size = 5 := rfl; (try simp only [List.length_append, List.length_cons, List.length_nil, bytesOf_length, h4, h5]); omega) ?_; intro v1 w1 n0 n1 _ _; clear HO hB; have HO := Lib.hid n0; have hB := Lib.hid n1; clear n0 n1) | (at_builtin; refine append_lit (w0 := w) w.heap.size rfl (.tmp 106) (.tmp 111) rfl _ _ [_] rfl rfl HO.out hB.out (by exact hB.out.size) (by have h4 : (ByteArray.mk #[92, 117, 48, 48]).size = 4 := rfl; have h5 : (ByteArray.mk #[92, 117, 50, 48, 50]).size = 5 := rfl; (try simp only [List.length_append, List.length_cons, List.length_nil, bytesOf_length, h4, h5]); omega) ?_; intro v1 w1 n0 n1 _ _; clear HO hB; have HO := Lib.hid n0; have hB := Lib.hid n1; clear n0 n1) | (at_builtin; refine append_lit (w0 := w) w.heap.size rfl (.tmp 116) (.tmp 117) rfl _ _ [_] rfl rfl HO.out hB.out (by exact hB.out.size) (by have h4 : (ByteArray.mk #[92, 117, 48, 48]).size = 4 := rfl; have h5 : (ByteArray.mk #[92, 117, 50, 48, 50]).size = 5 := rfl; (try simp only [List.length_append, List.length_cons, List.length_nil, bytesOf_length, h4, h5]); omega) ?_; intro v1 w1 n0 n1 _ _; clear HO hB; have HO := Lib.hid n0; have hB := Lib.hid n1; clear n0 n1) | (at_builtin; refine append_str (w0 := w) w.heap.size rfl (.tmp 27) (.tmp 33) rfl _ _ _ rfl rfl HO.out hB.out (by exact hB.out.size) (by have h4 : (ByteArray.mk #[92, 117, 48, 48]).size = 4 := rfl; have h5 : (ByteArray.mk #[92, 117, 50, 48, 50]).size = 5 := rfl; (try simp only [List.length_append, List.length_cons, List.length_nil, bytesOf_length, h4, h5]); omega) ?_; intro v1 w1 n0 n1 _; clear HO hB; have HO := Lib.hid n0; have hB := Lib.hid n1; clear n0 n1) | (at_builtin; refine append_str (w0 := w) w.heap.size rfl (.tmp 92) (.tmp 95) rfl _ _ _ rfl rfl HO.out hB.out (by exact hB.out.size) (by have h4 : (ByteArray.mk #[92, 117, 48, 48]).size = 4 := rfl; have h5 : (ByteArray.mk #[92, 117, 50, 48, 50]).size = 5 := rfl; (try simp only [List.length_append, List.length_cons, List.length_nil, bytesOf_length, h4, h5]); omega) ?_; intro v1 w1 n0 n1 _; clear HO hB; have HO := Lib.hid n0; have hB := Lib.hid n1; clear n0 n1) | (at_builtin; refine append_str (w0 := w) w.heap.size rfl (.tmp 90) (.const (.string ⟨#[92, 117, 48, 48]⟩)) rfl _ _ _ rfl rfl HO.out hB.out (by exact hB.out.size) (by have h4 : (ByteArray.mk #[92, 117, 48, 48]).size = 4 := rfl; rw [h4]; (try simp only [List.length_append, List.length_cons, List.length_nil]); omega) ?_; intro v1 w1 n0 n1 _; clear HO hB; have HO := Lib.hid n0; have hB := Lib.hid n1; clear n0 n1) | (at_builtin; refine append_str (w0 := w) w.heap.size rfl (.tmp 104) (.const (.string ⟨#[92, 117, 50, 48, 50]⟩)) rfl _ _ _ rfl rfl HO.out hB.out (by exact hB.out.size) (by have h4 : (ByteArray.mk #[92, 117, 50, 48, 50]).size = 5 := rfl; rw [h4]; (try simp only [List.length_append, List.length_cons, List.length_nil]); omega) ?_; intro v1 w1 n0 n1 _; clear HO hB; have HO := Lib.hid n0; have hB := Lib.hid n1; clear n0 n1))
          go_roundw
          case rel =>
            refine ⟨k + N, f, _, by omega, by omega, by first | go_num | (congr 1; omega), hU, HO.out, ?_, ?_, hB.out⟩
            · show _ = _
              rw [← hX.out, hstep.out]
              simp [escC, List.append_assoc]
              try rfl
            · have h4 : (ByteArray.mk #[92, 117, 48, 48]).size = 4 := rfl
              have h5 : (ByteArray.mk #[92, 117, 50, 48, 50]).size = 5 := rfl
              simp only [List.length_append, List.length_cons, List.length_nil, bytesOf_length, h4, h5]; omega
          case measure => simp [intOf]; omega
        by_cases z9 : c = 9
        · subst z9
          go_wp2_with (first | (at_builtin; refine append_lit (w0 := w) w.heap.size rfl (.tmp 42) (.tmp 45) rfl _ _ [_, _] rfl rfl HO.out hB.out (by exact hB.out.size) (by have h4 : (ByteArray.mk #[92, 117, 48, 48]).size = 4 := rfl; have h5 : (ByteArray.mk #[92, 117, 50, 48, 50]).size = 5 := rfl; (try simp only [List.length_append, List.length_cons, List.length_nil, bytesOf_length, h4, h5]); omega) ?_; intro v1 w1 n0 n1 _ _; clear HO hB; have HO := Lib.hid n0; have hB := Lib.hid n1; clear n0 n1) | (at_builtin; refine append_lit (w0 := w) w.heap.size rfl (.tmp 66) (.tmp 70) rfl _ _ [_, _] rfl rfl HO.out hB.out (by exact hB.out.size) (by have h4 : (ByteArray.mk #[92, 117, 48, 48]).size = 4 := rfl; have h5 : (ByteArray.mk #[92, 117, 50, 48, 50]).size = 5 := rfl; (try simp only [List.length_append, List.length_cons, List.length_nil, bytesOf_length, h4, h5]); omega) ?_; intro v1 w1 n0 n1 _ _; clear HO hB; have HO := Lib.hid n0; have hB := Lib.hid n1; clear n0 n1) | (at_builtin; refine append_lit (w0 := w) w.heap.size rfl (.tmp 106) (.tmp 111) rfl _ _ [_] rfl rfl HO.out hB.out (by exact hB.out.size) (by have h4 : (ByteArray.mk #[92, 117, 48, 48]).size = 4 := rfl; have h5 : (ByteArray.mk #[92, 117, 50, 48, 50]).size = 5 := rfl; (try simp only [List.length_append, List.length_cons, List.length_nil, bytesOf_length, h4, h5]); omega) ?_; intro v1 w1 n0 n1 _ _; clear HO hB; have HO := Lib.hid n0; have hB := Lib.hid n1; clear n0 n1) | (at_builtin; refine append_lit (w0 := w) w.heap.size rfl (.tmp 116) (.tmp 117) rfl _ _ [_] rfl rfl HO.out hB.out (by exact hB.out.size) (by have h4 : (ByteArray.mk #[92, 117, 48, 48]).size = 4 := rfl; have h5 : (ByteArray.mk #[92, 117, 50, 48, 50]).size = 5 := rfl; (try simp only [List.length_append, List.length_cons, List.length_nil, bytesOf_length, h4, h5]); omega) ?_; intro v1 w1 n0 n1 _ _; clear HO hB; have HO := Lib.hid n0; have hB := Lib.hid n1; clear n0 n1) | (at_builtin; refine append_str (w0 := w) w.heap.size rfl (.tmp 27) (.tmp 33) rfl _ _ _ rfl rfl HO.out hB.out (by exact hB.out.size) (by have h4 : (ByteArray.mk #[92, 117, 48, 48]).size = 4 := rfl; have h5 : (ByteArray.mk #[92, 117, 50, 48, 50]).size = 5 := rfl; (try simp only [List.length_append, List.length_cons, List.length_nil, bytesOf_length, h4, h5]); omega) ?_; intro v1 w1 n0 n1 _; clear HO hB; have HO := Lib.hid n0; have hB := Lib.hid n1; clear n0 n1) | (at_builtin; refine append_str (w0 := w) w.heap.size rfl (.tmp 92) (.tmp 95) rfl _ _ _ rfl rfl HO.out hB.out (by exact hB.out.size) (by have h4 : (ByteArray.mk #[92, 117, 48, 48]).size = 4 := rfl; have h5 : (ByteArray.mk #[92, 117, 50, 48, 50]).size = 5 := rfl; (try simp only [List.length_append, List.length_cons, List.length_nil, bytesOf_length, h4, h5]); omega) ?_; intro v1 w1 n0 n1 _; clear HO hB; have HO := Lib.hid n0; have hB := Lib.hid n1; clear n0 n1) | (at_builtin; refine append_str (w0 := w) w.heap.size rfl (.tmp 90) (.const (.string ⟨#[92, 117, 48, 48]⟩)) rfl _ _ _ rfl rfl HO.out hB.out (by exact hB.out.size) (by have h4 : (ByteArray.mk #[92, 117, 48, 48]).size = 4 := rfl; rw [h4]; (try simp only [List.length_append, List.length_cons, List.length_nil]); omega) ?_; intro v1 w1 n0 n1 _; clear HO hB; have HO := Lib.hid n0; have hB := Lib.hid n1; clear n0 n1) | (at_builtin; refine append_str (w0 := w) w.heap.size rfl (.tmp 104) (.const (.string ⟨#[92, 117, 50, 48, 50]⟩)) rfl _ _ _ rfl rfl HO.out hB.out (by exact hB.out.size) (by have h4 : (ByteArray.mk #[92, 117, 50, 48, 50]).size = 5 := rfl; rw [h4]; (try simp only [List.length_append, List.length_cons, List.length_nil]); omega) ?_; intro v1 w1 n0 n1 _; clear HO hB; have HO := Lib.hid n0; have hB := Lib.hid n1; clear n0 n1))
          go_roundw
          case rel =>
            refine ⟨k + N, f, _, by omega, by omega, by first | go_num | (congr 1; omega), hU, HO.out, ?_, ?_, hB.out⟩
            · show _ = _
              rw [← hX.out, hstep.out]
              simp [escC, List.append_assoc]
              try rfl
            · have h4 : (ByteArray.mk #[92, 117, 48, 48]).size = 4 := rfl
              have h5 : (ByteArray.mk #[92, 117, 50, 48, 50]).size = 5 := rfl
              simp only [List.length_append, List.length_cons, List.length_nil, bytesOf_length, h4, h5]; omega
          case measure => simp [intOf]; omega
        by_cases z10 : c = 10
        · subst z10
          go_wp2_with (first | (at_builtin; refine append_lit (w0 := w) w.heap.size rfl (.tmp 42) (.tmp 45) rfl _ _ [_, _] rfl rfl HO.out hB.out (by exact hB.out.size) (by have h4 : (ByteArray.mk #[92, 117, 48, 48]).size = 4 := rfl; have h5 : (ByteArray.mk #[92, 117, 50, 48, 50]).size = 5 := rfl; (try simp only [List.length_append, List.length_cons, List.length_nil, bytesOf_length, h4, h5]); omega) ?_; intro v1 w1 n0 n1 _ _; clear HO hB; have HO := Lib.hid n0; have hB := Lib.hid n1; clear n0 n1) | (at_builtin; refine append_lit (w0 := w) w.heap.size rfl (.tmp 66) (.tmp 70) rfl _ _ [_, _] rfl rfl HO.out hB.out (by exact hB.out.size) (by have h4 : (ByteArray.mk #[92, 117, 48, 48]).size = 4 := rfl; have h5 : (ByteArray.mk #[92, 117, 50, 48, 50]).size = 5 := rfl; (try simp only [List.length_append, List.length_cons, List.length_nil, bytesOf_length, h4, h5]); omega) ?_; intro v1 w1 n0 n1 _ _; clear HO hB; have HO := Lib.hid n0; have hB := Lib.hid n1; clear n0 n1) | (at_builtin; refine append_lit (w0 := w) w.heap.size rfl (.tmp 106) (.tmp 111) rfl _ _ [_] rfl rfl HO.out hB.out (by exact hB.out.size) (by have h4 : (ByteArray.mk #[92, 117, 48, 48]).size = 4 := rfl; have h5 : (ByteArray.mk #[92, 117, 50, 48, 50]).size = 5 := rfl; (try simp only [List.length_append, List.length_cons, List.length_nil, bytesOf_length, h4, h5]); omega) ?_; intro v1 w1 n0 n1 _ _; clear HO hB; have HO := Lib.hid n0; have hB := Lib.hid n1; clear n0 n1) | (at_builtin; refine append_lit (w0 := w) w.heap.size rfl (.tmp 116) (.tmp 117) rfl _ _ [_] rfl rfl HO.out hB.out (by exact hB.out.size) (by have h4 : (ByteArray.mk #[92, 117, 48, 48]).size = 4 := rfl; have h5 : (ByteArray.mk #[92, 117, 50, 48, 50]).size = 5 := rfl; (try simp only [List.length_append, List.length_cons, List.length_nil, bytesOf_length, h4, h5]); omega) ?_; intro v1 w1 n0 n1 _ _; clear HO hB; have HO := Lib.hid n0; have hB := Lib.hid n1; clear n0 n1) | (at_builtin; refine append_str (w0 := w) w.heap.size rfl (.tmp 27) (.tmp 33) rfl _ _ _ rfl rfl HO.out hB.out (by exact hB.out.size) (by have h4 : (ByteArray.mk #[92, 117, 48, 48]).size = 4 := rfl; have h5 : (ByteArray.mk #[92, 117, 50, 48, 50]).size = 5 := rfl; (try simp only [List.length_append, List.length_cons, List.length_nil, bytesOf_length, h4, h5]); omega) ?_; intro v1 w1 n0 n1 _; clear HO hB; have HO := Lib.hid n0; have hB := Lib.hid n1; clear n0 n1) | (at_builtin; refine append_str (w0 := w) w.heap.size rfl (.tmp 92) (.tmp 95) rfl _ _ _ rfl rfl HO.out hB.out (by exact hB.out.size) (by have h4 : (ByteArray.mk #[92, 117, 48, 48]).size = 4 := rfl; have h5 : (ByteArray.mk #[92, 117, 50, 48, 50]).size = 5 := rfl; (try simp only [List.length_append, List.length_cons, List.length_nil, bytesOf_length, h4, h5]); omega) ?_; intro v1 w1 n0 n1 _; clear HO hB; have HO := Lib.hid n0; have hB := Lib.hid n1; clear n0 n1) | (at_builtin; refine append_str (w0 := w) w.heap.size rfl (.tmp 90) (.const (.string ⟨#[92, 117, 48, 48]⟩)) rfl _ _ _ rfl rfl HO.out hB.out (by exact hB.out.size) (by have h4 : (ByteArray.mk #[92, 117, 48, 48]).size = 4 := rfl; rw [h4]; (try simp only [List.length_append, List.length_cons, List.length_nil]); omega) ?_; intro v1 w1 n0 n1 _; clear HO hB; have HO := Lib.hid n0; have hB := Lib.hid n1; clear n0 n1) | (at_builtin; refine append_str (w0 := w) w.heap.size rfl (.tmp 104) (.const (.string ⟨#[92, 117, 50, 48, 50]⟩)) rfl _ _ _ rfl rfl HO.out hB.out (by exact hB.out.size) (by have h4 : (ByteArray.mk #[92, 117, 50, 48, 50]).size = 5 := rfl; rw [h4]; (try simp only [List.length_append, List.length_cons, List.length_nil]); omega) ?_; intro v1 w1 n0 n1 _; clear HO hB; have HO := Lib.hid n0; have hB := Lib.hid n1; clear n0 n1))
          go_roundw
          case rel =>
            refine ⟨k + N, f, _, by omega, by omega, by first | go_num | (congr 1; omega), hU, HO.out, ?_, ?_, hB.out⟩
            · show _ = _
              rw [← hX.out, hstep.out]
              simp [escC, List.append_assoc]
              try rfl
            · have h4 : (ByteArray.mk #[92, 117, 48, 48]).size = 4 := rfl
              have h5 : (ByteArray.mk #[92, 117, 50, 48, 50]).size = 5 := rfl
              simp only [List.length_append, List.length_cons, List.length_nil, bytesOf_length, h4, h5]; omega
          case measure => simp [intOf]; omega
        by_cases z12 : c = 12
        · subst z12
          go_wp2_with (first | (at_builtin; refine append_lit (w0 := w) w.heap.size rfl (.tmp 42) (.tmp 45) rfl _ _ [_, _] rfl rfl HO.out hB.out (by exact hB.out.size) (by have h4 : (ByteArray.mk #[92, 117, 48, 48]).size = 4 := rfl; have h5 : (ByteArray.mk #[92, 117, 50, 48, 50]).size = 5 := rfl; (try simp only [List.length_append, List.length_cons, List.length_nil, bytesOf_length, h4, h5]); omega) ?_; intro v1 w1 n0 n1 _ _; clear HO hB; have HO := Lib.hid n0; have hB := Lib.hid n1; clear n0 n1) | (at_builtin; refine append_lit (w0 := w) w.heap.size rfl (.tmp 66) (.tmp 70) rfl _ _ [_, _] rfl rfl HO.out hB.out (by exact hB.out.size) (by have h4 : (ByteArray.mk #[92, 117, 48, 48]).size = 4 := rfl; have h5 : (ByteArray.mk #[92, 117, 50, 48, 50]).size = 5 := rfl; (try simp only [List.length_append, List.length_cons, List.length_nil, bytesOf_length, h4, h5]); omega) ?_; intro v1 w1 n0 n1 _ _; clear HO hB; have HO := Lib.hid n0; have hB := Lib.hid n1; clear n0 n1) | (at_builtin; refine append_lit (w0 := w) w.heap.size rfl (.tmp 106) (.tmp 111) rfl _ _ [_] rfl rfl HO.out hB.out (by exact hB.out.size) (by have h4 : (ByteArray.mk #[92, 117, 48, 48]).size = 4 := rfl; have h5 : (ByteArray.mk #[92, 117, 50, 48, 50]).size = 5 := rfl; (try simp only [List.length_append, List.length_cons, List.length_nil, bytesOf_length, h4, h5]); omega) ?_; intro v1 w1 n0 n1 _ _; clear HO hB; have HO := Lib.hid n0; have hB := Lib.hid n1; clear n0 n1) | (at_builtin; refine append_lit (w0 := w) w.heap.size rfl (.tmp 116) (.tmp 117) rfl _ _ [_] rfl rfl HO.out hB.out (by exact hB.out.size) (by have h4 : (ByteArray.mk #[92, 117, 48, 48]).size = 4 := rfl; have h5 : (ByteArray.mk #[92, 117, 50, 48, 50]).size = 5 := rfl; (try simp only [List.length_append, List.length_cons, List.length_nil, bytesOf_length, h4, h5]); omega) ?_; intro v1 w1 n0 n1 _ _; clear HO hB; have HO := Lib.hid n0; have hB := Lib.hid n1; clear n0 n1) | (at_builtin; refine append_str (w0 := w) w.heap.size rfl (.tmp 27) (.tmp 33) rfl _ _ _ rfl rfl HO.out hB.out (by exact hB.out.size) (by have h4 : (ByteArray.mk #[92, 117, 48, 48]).size = 4 := rfl; have h5 : (ByteArray.mk #[92, 117, 50, 48, 50]).size = 5 := rfl; (try simp only [List.length_append, List.length_cons, List.length_nil, bytesOf_length, h4, h5]); omega) ?_; intro v1 w1 n0 n1 _; clear HO hB; have HO := Lib.hid n0; have hB := Lib.hid n1; clear n0 n1) | (at_builtin; refine append_str (w0 := w) w.heap.size rfl (.tmp 92) (.tmp 95) rfl _ _ _ rfl rfl HO.out hB.out (by exact hB.out.size) (by have h4 : (ByteArray.mk #[92, 117, 48, 48]).size = 4 := rfl; have h5 : (ByteArray.mk #[92, 117, 50, 48, 50]).size = 5 := rfl; (try simp only [List.length_append, List.length_cons, List.length_nil, bytesOf_length, h4, h5]); omega) ?_; intro v1 w1 n0 n1 _; clear HO hB; have HO := Lib.hid n0; have hB := Lib.hid n1; clear n0 n1) | (at_builtin; refine append_str (w0 := w) w.heap.size rfl (.tmp 90) (.const (.string ⟨#[92, 117, 48, 48]⟩)) rfl _ _ _ rfl rfl HO.out hB.out (by exact hB.out.size) (by have h4 : (ByteArray.mk #[92, 117, 48, 48]).size = 4 := rfl; rw [h4]; (try simp only [List.length_append, List.length_cons, List.length_nil]); omega) ?_; intro v1 w1 n0 n1 _; clear HO hB; have HO := Lib.hid n0; have hB := Lib.hid n1; clear n0 n1) | (at_builtin; refine append_str (w0 := w) w.heap.size rfl (.tmp 104) (.const (.string ⟨#[92, 117, 50, 48, 50]⟩)) rfl _ _ _ rfl rfl HO.out hB.out (by exact hB.out.size) (by have h4 : (ByteArray.mk #[92, 117, 50, 48, 50]).size = 5 := rfl; rw [h4]; (try simp only [List.length_append, List.length_cons, List.length_nil]); omega) ?_; intro v1 w1 n0 n1 _; clear HO hB; have HO := Lib.hid n0; have hB := Lib.hid n1; clear n0 n1))
          go_roundw
          case rel =>
            refine ⟨k + N, f, _, by omega, by omega, by first | go_num | (congr 1; omega), hU, HO.out, ?_, ?_, hB.out⟩
            · show _ = _
              rw [← hX.out, hstep.out]
              simp [escC, List.append_assoc]
              try rfl
            · have h4 : (ByteArray.mk #[92, 117, 48, 48]).size = 4 := rfl
              have h5 : (ByteArray.mk #[92, 117, 50, 48, 50]).size = 5 := rfl
              simp only [List.length_append, List.length_cons, List.length_nil, bytesOf_length, h4, h5]; omega
          case measure => simp [intOf]; omega
        by_cases z13 : c = 13
        · subst z13
          go_wp2_with (first | (at_builtin; refine append_lit (w0 := w) w.heap.size rfl (.tmp 42) (.tmp 45) rfl _ _ [_, _] rfl rfl HO.out hB.out (by exact hB.out.size) (by have h4 : (ByteArray.mk #[92, 117, 48, 48]).size = 4 := rfl; have h5 : (ByteArray.mk #[92, 117, 50, 48, 50]).size = 5 := rfl; (try simp only [List.length_append, List.length_cons, List.length_nil, bytesOf_length, h4, h5]); omega) ?_; intro v1 w1 n0 n1 _ _; clear HO hB; have HO := Lib.hid n0; have hB := Lib.hid n1; clear n0 n1) | (at_builtin; refine append_lit (w0 := w) w.heap.size rfl (.tmp 66) (.tmp 70) rfl _ _ [_, _] rfl rfl HO.out hB.out (by exact hB.out.size) (by have h4 : (ByteArray.mk #[92, 117, 48, 48]).size = 4 := rfl; have h5 : (ByteArray.mk #[92, 117, 50, 48, 50]).size = 5 := rfl; (try simp only [List.length_append, List.length_cons, List.length_nil, bytesOf_length, h4, h5]); omega) ?_; intro v1 w1 n0 n1 _ _; clear HO hB; have HO := Lib.hid n0; have hB := Lib.hid n1; clear n0 n1) | (at_builtin; refine append_lit (w0 := w) w.heap.size rfl (.tmp 106) (.tmp 111) rfl _ _ [_] rfl rfl HO.out hB.out (by exact hB.out.size) (by have h4 : (ByteArray.mk #[92, 117, 48, 48]).size = 4 := rfl; have h5 : (ByteArray.mk #[92, 117, 50, 48, 50]).size = 5 := rfl; (try simp only [List.length_append, List.length_cons, List.length_nil, bytesOf_length, h4, h5]); omega) ?_; intro v1 w1 n0 n1 _ _; clear HO hB; have HO := Lib.hid n0; have hB := Lib.hid n1; clear n0 n1) | (at_builtin; refine append_lit (w0 := w) w.heap.size rfl (.tmp 116) (.tmp 117) rfl _ _ [_] rfl rfl HO.out hB.out (by exact hB.out.size) (by have h4 : (ByteArray.mk #[92, 117, 48, 48]).size = 4 := rfl; have h5 : (ByteArray.mk #[92, 117, 50, 48, 50]).size = 5 := rfl; (try simp only [List.length_append, List.length_cons, List.length_nil, bytesOf_length, h4, h5]); omega) ?_; intro v1 w1 n0 n1 _ _; clear HO hB; have HO := Lib.hid n0; have hB := Lib.hid n1; clear n0 n1) | (at_builtin; refine append_str (w0 := w) w.heap.size rfl (.tmp 27) (.tmp 33) rfl _ _ _ rfl rfl HO.out hB.out (by exact hB.out.size) (by have h4 : (ByteArray.mk #[92, 117, 48, 48]).size = 4 := rfl; have h5 : (ByteArray.mk #[92, 117, 50, 48, 50]).size = 5 := rfl; (try simp only [List.length_append, List.length_cons, List.length_nil, bytesOf_length, h4, h5]); omega) ?_; intro v1 w1 n0 n1 _; clear HO hB; have HO := Lib.hid n0; have hB := Lib.hid n1; clear n0 n1) | (at_builtin; refine append_str (w0 := w) w.heap.size rfl (.tmp 92) (.tmp 95) rfl _ _ _ rfl rfl HO.out hB.out (by exact hB.out.size) (by have h4 : (ByteArray.mk #[92, 117, 48, 48]).size = 4 := rfl; have h5 : (ByteArray.mk #[92, 117, 50, 48, 50]).size = 5 := rfl; (try simp only [List.length_append, List.length_cons, List.length_nil, bytesOf_length, h4, h5]); omega) ?_; intro v1 w1 n0 n1 _; clear HO hB; have HO := Lib.hid n0; have hB := Lib.hid n1; clear n0 n1) | (at_builtin; refine append_str (w0 := w) w.heap.size rfl (.tmp 90) (.const (.string ⟨#[92, 117, 48, 48]⟩)) rfl _ _ _ rfl rfl HO.out hB.out (by exact hB.out.size) (by have h4 : (ByteArray.mk #[92, 117, 48, 48]).size = 4 := rfl; rw [h4]; (try simp only [List.length_append, List.length_cons, List.length_nil]); omega) ?_; intro v1 w1 n0 n1 _; clear HO hB; have HO := Lib.hid n0; have hB := Lib.hid n1; clear n0 n1) | (at_builtin; refine append_str (w0 := w) w.heap.size rfl (.tmp 104) (.const (.string ⟨#[92, 117, 50, 48, 50]⟩)) rfl _ _ _ rfl rfl HO.out hB.out (by exact hB.out.size) (by have h4 : (ByteArray.mk #[92, 117, 50, 48, 50]).size = 5 := rfl; rw [h4]; (try simp only [List.length_append, List.length_cons, List.length_nil]); omega) ?_; intro v1 w1 n0 n1 _; clear HO hB; have HO := Lib.hid n0; have hB := Lib.hid n1; clear n0 n1))
          go_roundw
          case rel =>
            refine ⟨k + N, f, _, by omega, by omega, by first | go_num | (congr 1; omega), hU, HO.out, ?_, ?_, hB.out⟩
            · show _ = _
              rw [← hX.out, hstep.out]
              simp [escC, List.append_assoc]
              try rfl
            · have h4 : (ByteArray.mk #[92, 117, 48, 48]).size = 4 := rfl
              have h5 : (ByteArray.mk #[92, 117, 50, 48, 50]).size = 5 := rfl
              simp only [List.length_append, List.length_cons, List.length_nil, bytesOf_length, h4, h5]; omega
          case measure => simp [intOf]; omega
        have HZ : Hid (c ≠ 34 ∧ c ≠ 92 ∧ c ≠ 8 ∧ c ≠ 9 ∧ c ≠ 10 ∧ c ≠ 12 ∧ c ≠ 13) := ⟨z34, z92, z8, z9, z10, z12, z13⟩
        have b34 : (c == 34) = false := by simp [z34]
        have b92 : (c == 92) = false := by simp [z92]
        have b8 : (c == 8) = false := by simp [z8]
        have b9 : (c == 9) = false := by simp [z9]
        have b10 : (c == 10) = false := by simp [z10]
        have b12 : (c == 12) = false := by simp [z12]
        have b13 : (c == 13) = false := by simp [z13]
        clear z34 z92 z8 z9 z10 z12 z13
        by_cases z32 : c < 32
        · have b32 : decide (c < 32) = true := decide_eq_true z32
          have hE : Hid (escC esc c (bytesOf (s.extract k (k + N))) = [92, 117, 48, 48, hexd (c / 16), hexd (c % 16)]) := by
            obtain ⟨a1, a2, a3, a4, a5, a6, a7⟩ := HZ.out
            show _ = _
            unfold escC
            rw [if_neg (by omega), if_neg a3, if_neg a4, if_neg a5, if_neg a6, if_neg a7, if_pos (Or.inl z32)]
          rw [hE.out] at hstep
          have vw : IntKind.u8.wrap c = c := by rw [IntKind.wrap_u8]; omega
          go_wp2_with (first | (at_builtin; refine append_lit (w0 := w) w.heap.size rfl (.tmp 42) (.tmp 45) rfl _ _ [_, _] rfl rfl HO.out hB.out (by exact hB.out.size) (by have h4 : (ByteArray.mk #[92, 117, 48, 48]).size = 4 := rfl; have h5 : (ByteArray.mk #[92, 117, 50, 48, 50]).size = 5 := rfl; (try simp only [List.length_append, List.length_cons, List.length_nil, bytesOf_length, h4, h5]); omega) ?_; intro v1 w1 n0 n1 _ _; clear HO hB; have HO := Lib.hid n0; have hB := Lib.hid n1; clear n0 n1) | (at_builtin; refine append_lit (w0 := w) w.heap.size rfl (.tmp 66) (.tmp 70) rfl _ _ [_, _] rfl rfl HO.out hB.out (by exact hB.out.size) (by have h4 : (ByteArray.mk #[92, 117, 48, 48]).size = 4 := rfl; have h5 : (ByteArray.mk #[92, 117, 50, 48, 50]).size = 5 := rfl; (try simp only [List.length_append, List.length_cons, List.length_nil, bytesOf_length, h4, h5]); omega) ?_; intro v1 w1 n0 n1 _ _; clear HO hB; have HO := Lib.hid n0; have hB := Lib.hid n1; clear n0 n1) | (at_builtin; refine append_lit (w0 := w) w.heap.size rfl (.tmp 106) (.tmp 111) rfl _ _ [_] rfl rfl HO.out hB.out (by exact hB.out.size) (by have h4 : (ByteArray.mk #[92, 117, 48, 48]).size = 4 := rfl; have h5 : (ByteArray.mk #[92, 117, 50, 48, 50]).size = 5 := rfl; (try simp only [List.length_append, List.length_cons, List.length_nil, bytesOf_length, h4, h5]); omega) ?_; intro v1 w1 n0 n1 _ _; clear HO hB; have HO := Lib.hid n0; have hB := Lib.hid n1; clear n0 n1) | (at_builtin; refine append_lit (w0 := w) w.heap.size rfl (.tmp 116) (.tmp 117) rfl _ _ [_] rfl rfl HO.out hB.out (by exact hB.out.size) (by have h4 : (ByteArray.mk #[92, 117, 48, 48]).size = 4 := rfl; have h5 : (ByteArray.mk #[92, 117, 50, 48, 50]).size = 5 := rfl; (try simp only [List.length_append, List.length_cons, List.length_nil, bytesOf_length, h4, h5]); omega) ?_; intro v1 w1 n0 n1 _ _; clear HO hB; have HO := Lib.hid n0; have hB := Lib.hid n1; clear n0 n1) | (at_builtin; refine append_str (w0 := w) w.heap.size rfl (.tmp 27) (.tmp 33) rfl _ _ _ rfl rfl HO.out hB.out (by exact hB.out.size) (by have h4 : (ByteArray.mk #[92, 117, 48, 48]).size = 4 := rfl; have h5 : (ByteArray.mk #[92, 117, 50, 48, 50]).size = 5 := rfl; (try simp only [List.length_append, List.length_cons, List.length_nil, bytesOf_length, h4, h5]); omega) ?_; intro v1 w1 n0 n1 _; clear HO hB; have HO := Lib.hid n0; have hB := Lib.hid n1; clear n0 n1) | (at_builtin; refine append_str (w0 := w) w.heap.size rfl (.tmp 92) (.tmp 95) rfl _ _ _ rfl rfl HO.out hB.out (by exact hB.out.size) (by have h4 : (ByteArray.mk #[92, 117, 48, 48]).size = 4 := rfl; have h5 : (ByteArray.mk #[92, 117, 50, 48, 50]).size = 5 := rfl; (try simp only [List.length_append, List.length_cons, List.length_nil, bytesOf_length, h4, h5]); omega) ?_; intro v1 w1 n0 n1 _; clear HO hB; have HO := Lib.hid n0; have hB := Lib.hid n1; clear n0 n1) | (at_builtin; refine append_str (w0 := w) w.heap.size rfl (.tmp 90) (.const (.string ⟨#[92, 117, 48, 48]⟩)) rfl _ _ _ rfl rfl HO.out hB.out (by exact hB.out.size) (by have h4 : (ByteArray.mk #[92, 117, 48, 48]).size = 4 := rfl; rw [h4]; (try simp only [List.length_append, List.length_cons, List.length_nil]); omega) ?_; intro v1 w1 n0 n1 _; clear HO hB; have HO := Lib.hid n0; have hB := Lib.hid n1; clear n0 n1) | (at_builtin; refine append_str (w0 := w) w.heap.size rfl (.tmp 104) (.const (.string ⟨#[92, 117, 50, 48, 50]⟩)) rfl _ _ _ rfl rfl HO.out hB.out (by exact hB.out.size) (by have h4 : (ByteArray.mk #[92, 117, 50, 48, 50]).size = 5 := rfl; rw [h4]; (try simp only [List.length_append, List.length_cons, List.length_nil]); omega) ?_; intro v1 w1 n0 n1 _; clear HO hB; have HO := Lib.hid n0; have hB := Lib.hid n1; clear n0 n1))
          refine (extHex_calls c (by omega) (by omega) _).mono ?_
          rintro e w2 ⟨u, rfl, hu, hb2⟩
          have hus : u.size ≤ 2 := hu.le (by simp)
          have hub := Lib.hid (hu.bytes (by intro x hx; rcases List.mem_cons.1 hx with rfl | hx; (· unfold hexd; split <;> omega); rw [List.mem_singleton] at hx; subst hx; unfold hexd; split <;> omega))
          have HO2 := Lib.hid (pw_own_below HO.out (hb2.mono (Nat.le_refl _)))
          have hB2 := Lib.hid (hB.out.trans (hb2.mono hB.out.size))
          clear HO hB hb2
          have HO := HO2
          have hB := hB2
          clear HO2 hB2
          go_wp2_with (first | (at_builtin; refine append_lit (w0 := w) w.heap.size rfl (.tmp 42) (.tmp 45) rfl _ _ [_, _] rfl rfl HO.out hB.out (by exact hB.out.size) (by have h4 : (ByteArray.mk #[92, 117, 48, 48]).size = 4 := rfl; have h5 : (ByteArray.mk #[92, 117, 50, 48, 50]).size = 5 := rfl; (try simp only [List.length_append, List.length_cons, List.length_nil, bytesOf_length, h4, h5]); omega) ?_; intro v1 w1 n0 n1 _ _; clear HO hB; have HO := Lib.hid n0; have hB := Lib.hid n1; clear n0 n1) | (at_builtin; refine append_lit (w0 := w) w.heap.size rfl (.tmp 66) (.tmp 70) rfl _ _ [_, _] rfl rfl HO.out hB.out (by exact hB.out.size) (by have h4 : (ByteArray.mk #[92, 117, 48, 48]).size = 4 := rfl; have h5 : (ByteArray.mk #[92, 117, 50, 48, 50]).size = 5 := rfl; (try simp only [List.length_append, List.length_cons, List.length_nil, bytesOf_length, h4, h5]); omega) ?_; intro v1 w1 n0 n1 _ _; clear HO hB; have HO := Lib.hid n0; have hB := Lib.hid n1; clear n0 n1) | (at_builtin; refine append_lit (w0 := w) w.heap.size rfl (.tmp 106) (.tmp 111) rfl _ _ [_] rfl rfl HO.out hB.out (by exact hB.out.size) (by have h4 : (ByteArray.mk #[92, 117, 48, 48]).size = 4 := rfl; have h5 : (ByteArray.mk #[92, 117, 50, 48, 50]).size = 5 := rfl; (try simp only [List.length_append, List.length_cons, List.length_nil, bytesOf_length, h4, h5]); omega) ?_; intro v1 w1 n0 n1 _ _; clear HO hB; have HO := Lib.hid n0; have hB := Lib.hid n1; clear n0 n1) | (at_builtin; refine append_lit (w0 := w) w.heap.size rfl (.tmp 116) (.tmp 117) rfl _ _ [_] rfl rfl HO.out hB.out (by exact hB.out.size) (by have h4 : (ByteArray.mk #[92, 117, 48, 48]).size = 4 := rfl; have h5 : (ByteArray.mk #[92, 117, 50, 48, 50]).size = 5 := rfl; (try simp only [List.length_append, List.length_cons, List.length_nil, bytesOf_length, h4, h5]); omega) ?_; intro v1 w1 n0 n1 _ _; clear HO hB; have HO := Lib.hid n0; have hB := Lib.hid n1; clear n0 n1) | (at_builtin; refine append_str (w0 := w) w.heap.size rfl (.tmp 27) (.tmp 33) rfl _ _ _ rfl rfl HO.out hB.out (by exact hB.out.size) (by have h4 : (ByteArray.mk #[92, 117, 48, 48]).size = 4 := rfl; have h5 : (ByteArray.mk #[92, 117, 50, 48, 50]).size = 5 := rfl; (try simp only [List.length_append, List.length_cons, List.length_nil, bytesOf_length, h4, h5]); omega) ?_; intro v1 w1 n0 n1 _; clear HO hB; have HO := Lib.hid n0; have hB := Lib.hid n1; clear n0 n1) | (at_builtin; refine append_str (w0 := w) w.heap.size rfl (.tmp 92) (.tmp 95) rfl _ _ _ rfl rfl HO.out hB.out (by exact hB.out.size) (by have h4 : (ByteArray.mk #[92, 117, 48, 48]).size = 4 := rfl; have h5 : (ByteArray.mk #[92, 117, 50, 48, 50]).size = 5 := rfl; (try simp only [List.length_append, List.length_cons, List.length_nil, bytesOf_length, h4, h5]); omega) ?_; intro v1 w1 n0 n1 _; clear HO hB; have HO := Lib.hid n0; have hB := Lib.hid n1; clear n0 n1) | (at_builtin; refine append_str (w0 := w) w.heap.size rfl (.tmp 90) (.const (.string ⟨#[92, 117, 48, 48]⟩)) rfl _ _ _ rfl rfl HO.out hB.out (by exact hB.out.size) (by have h4 : (ByteArray.mk #[92, 117, 48, 48]).size = 4 := rfl; rw [h4]; (try simp only [List.length_append, List.length_cons, List.length_nil]); omega) ?_; intro v1 w1 n0 n1 _; clear HO hB; have HO := Lib.hid n0; have hB := Lib.hid n1; clear n0 n1) | (at_builtin; refine append_str (w0 := w) w.heap.size rfl (.tmp 104) (.const (.string ⟨#[92, 117, 50, 48, 50]⟩)) rfl _ _ _ rfl rfl HO.out hB.out (by exact hB.out.size) (by have h4 : (ByteArray.mk #[92, 117, 50, 48, 50]).size = 5 := rfl; rw [h4]; (try simp only [List.length_append, List.length_cons, List.length_nil]); omega) ?_; intro v1 w1 n0 n1 _; clear HO hB; have HO := Lib.hid n0; have hB := Lib.hid n1; clear n0 n1))
          go_roundw
          case rel =>
            refine ⟨k + N, f, _, by omega, by omega, by first | go_num | (congr 1; omega), hU, HO.out, ?_, ?_, hB.out⟩
            · show _ = _
              rw [← hX.out, hstep.out, hub.out]
              have k0 : bytesOf ({ data := #[92, 117, 48, 48] } : ByteArray) = [92, 117, 48, 48] := rfl
              rw [k0]; simp [List.append_assoc]
            · have h4 : (ByteArray.mk #[92, 117, 48, 48]).size = 4 := rfl
              have h5 : (ByteArray.mk #[92, 117, 50, 48, 50]).size = 5 := rfl
              simp only [List.length_append, List.length_cons, List.length_nil, bytesOf_length, h4, h5]; omega
          case measure => simp [intOf]; omega
        have b32 : decide (c < 32) = false := decide_eq_false z32
        by_cases z60 : esc = true ∧ c = 60
        · obtain ⟨rfl, rfl⟩ := z60
          have hE : Hid (escC true 60 (bytesOf (s.extract k (k + N))) = [92, 117, 48, 48, hexd (60 / 16), hexd (60 % 16)]) := by
            show _ = _
            simp [escC]
          rw [hE.out] at hstep
          have vw : IntKind.u8.wrap 60 = 60 := by rw [IntKind.wrap_u8]; omega
          go_wp2_with (first | (at_builtin; refine append_lit (w0 := w) w.heap.size rfl (.tmp 42) (.tmp 45) rfl _ _ [_, _] rfl rfl HO.out hB.out (by exact hB.out.size) (by have h4 : (ByteArray.mk #[92, 117, 48, 48]).size = 4 := rfl; have h5 : (ByteArray.mk #[92, 117, 50, 48, 50]).size = 5 := rfl; (try simp only [List.length_append, List.length_cons, List.length_nil, bytesOf_length, h4, h5]); omega) ?_; intro v1 w1 n0 n1 _ _; clear HO hB; have HO := Lib.hid n0; have hB := Lib.hid n1; clear n0 n1) | (at_builtin; refine append_lit (w0 := w) w.heap.size rfl (.tmp 66) (.tmp 70) rfl _ _ [_, _] rfl rfl HO.out hB.out (by exact hB.out.size) (by have h4 : (ByteArray.mk #[92, 117, 48, 48]).size = 4 := rfl; have h5 : (ByteArray.mk #[92, 117, 50, 48, 50]).size = 5 := rfl; (try simp only [List.length_append, List.length_cons, List.length_nil, bytesOf_length, h4, h5]); omega) ?_; intro v1 w1 n0 n1 _ _; clear HO hB; have HO := Lib.hid n0; have hB := Lib.hid n1; clear n0 n1) | (at_builtin; refine append_lit (w0 := w) w.heap.size rfl (.tmp 106) (.tmp 111) rfl _ _ [_] rfl rfl HO.out hB.out (by exact hB.out.size) (by have h4 : (ByteArray.mk #[92, 117, 48, 48]).size = 4 := rfl; have h5 : (ByteArray.mk #[92, 117, 50, 48, 50]).size = 5 := rfl; (try simp only [List.length_append, List.length_cons, List.length_nil, bytesOf_length, h4, h5]); omega) ?_; intro v1 w1 n0 n1 _ _; clear HO hB; have HO := Lib.hid n0; have hB := Lib.hid n1; clear n0 n1) | (at_builtin; refine append_lit (w0 := w) w.heap.size rfl (.tmp 116) (.tmp 117) rfl _ _ [_] rfl rfl HO.out hB.out (by exact hB.out.size) (by have h4 : (ByteArray.mk #[92, 117, 48, 48]).size = 4 := rfl; have h5 : (ByteArray.mk #[92, 117, 50, 48, 50]).size = 5 := rfl; (try simp only [List.length_append, List.length_cons, List.length_nil, bytesOf_length, h4, h5]); omega) ?_; intro v1 w1 n0 n1 _ _; clear HO hB; have HO := Lib.hid n0; have hB := Lib.hid n1; clear n0 n1) | (at_builtin; refine append_str (w0 := w) w.heap.size rfl (.tmp 27) (.tmp 33) rfl _ _ _ rfl rfl HO.out hB.out (by exact hB.out.size) (by have h4 : (ByteArray.mk #[92, 117, 48, 48]).size = 4 := rfl; have h5 : (ByteArray.mk #[92, 117, 50, 48, 50]).size = 5 := rfl; (try simp only [List.length_append, List.length_cons, List.length_nil, bytesOf_length, h4, h5]); omega) ?_; intro v1 w1 n0 n1 _; clear HO hB; have HO := Lib.hid n0; have hB := Lib.hid n1; clear n0 n1) | (at_builtin; refine append_str (w0 := w) w.heap.size rfl (.tmp 92) (.tmp 95) rfl _ _ _ rfl rfl HO.out hB.out (by exact hB.out.size) (by have h4 : (ByteArray.mk #[92, 117, 48, 48]).size = 4 := rfl; have h5 : (ByteArray.mk #[92, 117, 50, 48, 50]).size = 5 := rfl; (try simp only [List.length_append, List.length_cons, List.length_nil, bytesOf_length, h4, h5]); omega) ?_; intro v1 w1 n0 n1 _; clear HO hB; have HO := Lib.hid n0; have hB := Lib.hid n1; clear n0 n1) | (at_builtin; refine append_str (w0 := w) w.heap.size rfl (.tmp 90) (.const (.string ⟨#[92, 117, 48, 48]⟩)) rfl _ _ _ rfl rfl HO.out hB.out (by exact hB.out.size) (by have h4 : (ByteArray.mk #[92, 117, 48, 48]).size = 4 := rfl; rw [h4]; (try simp only [List.length_append, List.length_cons, List.length_nil]); omega) ?_; intro v1 w1 n0 n1 _; clear HO hB; have HO := Lib.hid n0; have hB := Lib.hid n1; clear n0 n1) | (at_builtin; refine append_str (w0 := w) w.heap.size rfl (.tmp 104) (.const (.string ⟨#[92, 117, 50, 48, 50]⟩)) rfl _ _ _ rfl rfl HO.out hB.out (by exact hB.out.size) (by have h4 : (ByteArray.mk #[92, 117, 50, 48, 50]).size = 5 := rfl; rw [h4]; (try simp only [List.length_append, List.length_cons, List.length_nil]); omega) ?_; intro v1 w1 n0 n1 _; clear HO hB; have HO := Lib.hid n0; have hB := Lib.hid n1; clear n0 n1))
          refine (extHex_calls 60 (by omega) (by omega) _).mono ?_
          rintro e w2 ⟨u, rfl, hu, hb2⟩
          have hus : u.size ≤ 2 := hu.le (by simp)
          have hub := Lib.hid (hu.bytes (by intro x hx; rcases List.mem_cons.1 hx with rfl | hx; (· unfold hexd; split <;> omega); rw [List.mem_singleton] at hx; subst hx; unfold hexd; split <;> omega))
          have HO2 := Lib.hid (pw_own_below HO.out (hb2.mono (Nat.le_refl _)))
          have hB2 := Lib.hid (hB.out.trans (hb2.mono hB.out.size))
          clear HO hB hb2
          have HO := HO2
          have hB := hB2
          clear HO2 hB2
          go_wp2_with (first | (at_builtin; refine append_lit (w0 := w) w.heap.size rfl (.tmp 42) (.tmp 45) rfl _ _ [_, _] rfl rfl HO.out hB.out (by exact hB.out.size) (by have h4 : (ByteArray.mk #[92, 117, 48, 48]).size = 4 := rfl; have h5 : (ByteArray.mk #[92, 117, 50, 48, 50]).size = 5 := rfl; (try simp only [List.length_append, List.length_cons, List.length_nil, bytesOf_length, h4, h5]); omega) ?_; intro v1 w1 n0 n1 _ _; clear HO hB; have HO := Lib.hid n0; have hB := Lib.hid n1; clear n0 n1) | (at_builtin; refine append_lit (w0 := w) w.heap.size rfl (.tmp 66) (.tmp 70) rfl _ _ [_, _] rfl rfl HO.out hB.out (by exact hB.out.size) (by have h4 : (ByteArray.mk #[92, 117, 48, 48]).size = 4 := rfl; have h5 : (ByteArray.mk #[92, 117, 50, 48, 50]).size = 5 := rfl; (try simp only [List.length_append, List.length_cons, List.length_nil, bytesOf_length, h4, h5]); omega) ?_; intro v1 w1 n0 n1 _ _; clear HO hB; have HO := Lib.hid n0; have hB := Lib.hid n1; clear n0 n1) | (at_builtin; refine append_lit (w0 := w) w.heap.size rfl (.tmp 106) (.tmp 111) rfl _ _ [_] rfl rfl HO.out hB.out (by exact hB.out.size) (by have h4 : (ByteArray.mk #[92, 117, 48, 48]).size = 4 := rfl; have h5 : (ByteArray.mk #[92, 117, 50, 48, 50]).size = 5 := rfl; (try simp only [List.length_append, List.length_cons, List.length_nil, bytesOf_length, h4, h5]); omega) ?_; intro v1 w1 n0 n1 _ _; clear HO hB; have HO := Lib.hid n0; have hB := Lib.hid n1; clear n0 n1) | (at_builtin; refine append_lit (w0 := w) w.heap.size rfl (.tmp 116) (.tmp 117) rfl _ _ [_] rfl rfl HO.out hB.out (by exact hB.out.size) (by have h4 : (ByteArray.mk #[92, 117, 48, 48]).size = 4 := rfl; have h5 : (ByteArray.mk #[92, 117, 50, 48, 50]).size = 5 := rfl; (try simp only [List.length_append, List.length_cons, List.length_nil, bytesOf_length, h4, h5]); omega) ?_; intro v1 w1 n0 n1 _ _; clear HO hB; have HO := Lib.hid n0; have hB := Lib.hid n1; clear n0 n1) | (at_builtin; refine append_str (w0 := w) w.heap.size rfl (.tmp 27) (.tmp 33) rfl _ _ _ rfl rfl HO.out hB.out (by exact hB.out.size) (by have h4 : (ByteArray.mk #[92, 117, 48, 48]).size = 4 := rfl; have h5 : (ByteArray.mk #[92, 117, 50, 48, 50]).size = 5 := rfl; (try simp only [List.length_append, List.length_cons, List.length_nil, bytesOf_length, h4, h5]); omega) ?_; intro v1 w1 n0 n1 _; clear HO hB; have HO := Lib.hid n0; have hB := Lib.hid n1; clear n0 n1) | (at_builtin; refine append_str (w0 := w) w.heap.size rfl (.tmp 92) (.tmp 95) rfl _ _ _ rfl rfl HO.out hB.out (by exact hB.out.size) (by have h4 : (ByteArray.mk #[92, 117, 48, 48]).size = 4 := rfl; have h5 : (ByteArray.mk #[92, 117, 50, 48, 50]).size = 5 := rfl; (try simp only [List.length_append, List.length_cons, List.length_nil, bytesOf_length, h4, h5]); omega) ?_; intro v1 w1 n0 n1 _; clear HO hB; have HO := Lib.hid n0; have hB := Lib.hid n1; clear n0 n1) | (at_builtin; refine append_str (w0 := w) w.heap.size rfl (.tmp 90) (.const (.string ⟨#[92, 117, 48, 48]⟩)) rfl _ _ _ rfl rfl HO.out hB.out (by exact hB.out.size) (by have h4 : (ByteArray.mk #[92, 117, 48, 48]).size = 4 := rfl; rw [h4]; (try simp only [List.length_append, List.length_cons, List.length_nil]); omega) ?_; intro v1 w1 n0 n1 _; clear HO hB; have HO := Lib.hid n0; have hB := Lib.hid n1; clear n0 n1) | (at_builtin; refine append_str (w0 := w) w.heap.size rfl (.tmp 104) (.const (.string ⟨#[92, 117, 50, 48, 50]⟩)) rfl _ _ _ rfl rfl HO.out hB.out (by exact hB.out.size) (by have h4 : (ByteArray.mk #[92, 117, 50, 48, 50]).size = 5 := rfl; rw [h4]; (try simp only [List.length_append, List.length_cons, List.length_nil]); omega) ?_; intro v1 w1 n0 n1 _; clear HO hB; have HO := Lib.hid n0; have hB := Lib.hid n1; clear n0 n1))
          go_roundw
          case rel =>
            refine ⟨k + N, f, _, by omega, by omega, by first | go_num | (congr 1; omega), hU, HO.out, ?_, ?_, hB.out⟩
            · show _ = _
              rw [← hX.out, hstep.out, hub.out]
              have k0 : bytesOf ({ data := #[92, 117, 48, 48] } : ByteArray) = [92, 117, 48, 48] := rfl
              rw [k0]; simp [List.append_assoc]
            · have h4 : (ByteArray.mk #[92, 117, 48, 48]).size = 4 := rfl
              have h5 : (ByteArray.mk #[92, 117, 50, 48, 50]).size = 5 := rfl
              simp only [List.length_append, List.length_cons, List.length_nil, bytesOf_length, h4, h5]; omega
          case measure => simp [intOf]; omega
        by_cases z62 : esc = true ∧ c = 62
        · obtain ⟨rfl, rfl⟩ := z62
          have hE : Hid (escC true 62 (bytesOf (s.extract k (k + N))) = [92, 117, 48, 48, hexd (62 / 16), hexd (62 % 16)]) := by
            show _ = _
            simp [escC]
          rw [hE.out] at hstep
          have vw : IntKind.u8.wrap 62 = 62 := by rw [IntKind.wrap_u8]; omega
          go_wp2_with (first | (at_builtin; refine append_lit (w0 := w) w.heap.size rfl (.tmp 42) (.tmp 45) rfl _ _ [_, _] rfl rfl HO.out hB.out (by exact hB.out.size) (by have h4 : (ByteArray.mk #[92, 117, 48, 48]).size = 4 := rfl; have h5 : (ByteArray.mk #[92, 117, 50, 48, 50]).size = 5 := rfl; (try simp only [List.length_append, List.length_cons, List.length_nil, bytesOf_length, h4, h5]); omega) ?_; intro v1 w1 n0 n1 _ _; clear HO hB; have HO := Lib.hid n0; have hB := Lib.hid n1; clear n0 n1) | (at_builtin; refine append_lit (w0 := w) w.heap.size rfl (.tmp 66) (.tmp 70) rfl _ _ [_, _] rfl rfl HO.out hB.out (by exact hB.out.size) (by have h4 : (ByteArray.mk #[92, 117, 48, 48]).size = 4 := rfl; have h5 : (ByteArray.mk #[92, 117, 50, 48, 50]).size = 5 := rfl; (try simp only [List.length_append, List.length_cons, List.length_nil, bytesOf_length, h4, h5]); omega) ?_; intro v1 w1 n0 n1 _ _; clear HO hB; have HO := Lib.hid n0; have hB := Lib.hid n1; clear n0 n1) | (at_builtin; refine append_lit (w0 := w) w.heap.size rfl (.tmp 106) (.tmp 111) rfl _ _ [_] rfl rfl HO.out hB.out (by exact hB.out.size) (by have h4 : (ByteArray.mk #[92, 117, 48, 48]).size = 4 := rfl; have h5 : (ByteArray.mk #[92, 117, 50, 48, 50]).size = 5 := rfl; (try simp only [List.length_append, List.length_cons, List.length_nil, bytesOf_length, h4, h5]); omega) ?_; intro v1 w1 n0 n1 _ _; clear HO hB; have HO := Lib.hid n0; have hB := Lib.hid n1; clear n0 n1) | (at_builtin; refine append_lit (w0 := w) w.heap.size rfl (.tmp 116) (.tmp 117) rfl _ _ [_] rfl rfl HO.out hB.out (by exact hB.out.size) (by have h4 : (ByteArray.mk #[92, 117, 48, 48]).size = 4 := rfl; have h5 : (ByteArray.mk #[92, 117, 50, 48, 50]).size = 5 := rfl; (try simp only [List.length_append, List.length_cons, List.length_nil, bytesOf_length, h4, h5]); omega) ?_; intro v1 w1 n0 n1 _ _; clear HO hB; have HO := Lib.hid n0; have hB := Lib.hid n1; clear n0 n1) | (at_builtin; refine append_str (w0 := w) w.heap.size rfl (.tmp 27) (.tmp 33) rfl _ _ _ rfl rfl HO.out hB.out (by exact hB.out.size) (by have h4 : (ByteArray.mk #[92, 117, 48, 48]).size = 4 := rfl; have h5 : (ByteArray.mk #[92, 117, 50, 48, 50]).size = 5 := rfl; (try simp only [List.length_append, List.length_cons, List.length_nil, bytesOf_length, h4, h5]); omega) ?_; intro v1 w1 n0 n1 _; clear HO hB; have HO := Lib.hid n0; have hB := Lib.hid n1; clear n0 n1) | (at_builtin; refine append_str (w0 := w) w.heap.size rfl (.tmp 92) (.tmp 95) rfl _ _ _ rfl rfl HO.out hB.out (by exact hB.out.size) (by have h4 : (ByteArray.mk #[92, 117, 48, 48]).size = 4 := rfl; have h5 : (ByteArray.mk #[92, 117, 50, 48, 50]).size = 5 := rfl; (try simp only [List.length_append, List.length_cons, List.length_nil, bytesOf_length, h4, h5]); omega) ?_; intro v1 w1 n0 n1 _; clear HO hB; have HO := Lib.hid n0; have hB := Lib.hid n1; clear n0 n1) | (at_builtin; refine append_str (w0 := w) w.heap.size rfl (.tmp 90) (.const (.string ⟨#[92, 117, 48, 48]⟩)) rfl _ _ _ rfl rfl HO.out hB.out (by exact hB.out.size) (by have h4 : (ByteArray.mk #[92, 117, 48, 48]).size = 4 := rfl; rw [h4]; (try simp only [List.length_append, List.length_cons, List.length_nil]); omega) ?_; intro v1 w1 n0 n1 _; clear HO hB; have HO := Lib.hid n0; have hB := Lib.hid n1; clear n0 n1) | (at_builtin; refine append_str (w0 := w) w.heap.size rfl (.tmp 104) (.const (.string ⟨#[92, 117, 50, 48, 50]⟩)) rfl _ _ _ rfl rfl HO.out hB.out (by exact hB.out.size) (by have h4 : (ByteArray.mk #[92, 117, 50, 48, 50]).size = 5 := rfl; rw [h4]; (try simp only [List.length_append, List.length_cons, List.length_nil]); omega) ?_; intro v1 w1 n0 n1 _; clear HO hB; have HO := Lib.hid n0; have hB := Lib.hid n1; clear n0 n1))
          refine (extHex_calls 62 (by omega) (by omega) _).mono ?_
          rintro e w2 ⟨u, rfl, hu, hb2⟩
          have hus : u.size ≤ 2 := hu.le (by simp)
          have hub := Lib.hid (hu.bytes (by intro x hx; rcases List.mem_cons.1 hx with rfl | hx; (· unfold hexd; split <;> omega); rw [List.mem_singleton] at hx; subst hx; unfold hexd; split <;> omega))
          have HO2 := Lib.hid (pw_own_below HO.out (hb2.mono (Nat.le_refl _)))
          have hB2 := Lib.hid (hB.out.trans (hb2.mono hB.out.size))
          clear HO hB hb2
          have HO := HO2
          have hB := hB2
          clear HO2 hB2
          go_wp2_with (first | (at_builtin; refine append_lit (w0 := w) w.heap.size rfl (.tmp 42) (.tmp 45) rfl _ _ [_, _] rfl rfl HO.out hB.out (by exact hB.out.size) (by have h4 : (ByteArray.mk #[92, 117, 48, 48]).size = 4 := rfl; have h5 : (ByteArray.mk #[92, 117, 50, 48, 50]).size = 5 := rfl; (try simp only [List.length_append, List.length_cons, List.length_nil, bytesOf_length, h4, h5]); omega) ?_; intro v1 w1 n0 n1 _ _; clear HO hB; have HO := Lib.hid n0; have hB := Lib.hid n1; clear n0 n1) | (at_builtin; refine append_lit (w0 := w) w.heap.size rfl (.tmp 66) (.tmp 70) rfl _ _ [_, _] rfl rfl HO.out hB.out (by exact hB.out.size) (by have h4 : (ByteArray.mk #[92, 117, 48, 48]).size = 4 := rfl; have h5 : (ByteArray.mk #[92, 117, 50, 48, 50]).size = 5 := rfl; (try simp only [List.length_append, List.length_cons, List.length_nil, bytesOf_length, h4, h5]); omega) ?_; intro v1 w1 n0 n1 _ _; clear HO hB; have HO := Lib.hid n0; have hB := Lib.hid n1; clear n0 n1) | (at_builtin; refine append_lit (w0 := w) w.heap.size rfl (.tmp 106) (.tmp 111) rfl _ _ [_] rfl rfl HO.out hB.out (by exact hB.out.size) (by have h4 : (ByteArray.mk #[92, 117, 48, 48]).size = 4 := rfl; have h5 : (ByteArray.mk #[92, 117, 50, 48, 50]).size = 5 := rfl; (try simp only [List.length_append, List.length_cons, List.length_nil, bytesOf_length, h4, h5]); omega) ?_; intro v1 w1 n0 n1 _ _; clear HO hB; have HO := Lib.hid n0; have hB := Lib.hid n1; clear n0 n1) | (at_builtin; refine append_lit (w0 := w) w.heap.size rfl (.tmp 116) (.tmp 117) rfl _ _ [_] rfl rfl HO.out hB.out (by exact hB.out.size) (by have h4 : (ByteArray.mk #[92, 117, 48, 48]).size = 4 := rfl; have h5 : (ByteArray.mk #[92, 117, 50, 48, 50]).size = 5 := rfl; (try simp only [List.length_append, List.length_cons, List.length_nil, bytesOf_length, h4, h5]); omega) ?_; intro v1 w1 n0 n1 _ _; clear HO hB; have HO := Lib.hid n0; have hB := Lib.hid n1; clear n0 n1) | (at_builtin; refine append_str (w0 := w) w.heap.size rfl (.tmp 27) (.tmp 33) rfl _ _ _ rfl rfl HO.out hB.out (by exact hB.out.size) (by have h4 : (ByteArray.mk #[92, 117, 48, 48]).size = 4 := rfl; have h5 : (ByteArray.mk #[92, 117, 50, 48, 50]).size = 5 := rfl; (try simp only [List.length_append, List.length_cons, List.length_nil, bytesOf_length, h4, h5]); omega) ?_; intro v1 w1 n0 n1 _; clear HO hB; have HO := Lib.hid n0; have hB := Lib.hid n1; clear n0 n1) | (at_builtin; refine append_str (w0 := w) w.heap.size rfl (.tmp 92) (.tmp 95) rfl _ _ _ rfl rfl HO.out hB.out (by exact hB.out.size) (by have h4 : (ByteArray.mk #[92, 117, 48, 48]).size = 4 := rfl; have h5 : (ByteArray.mk #[92, 117, 50, 48, 50]).size = 5 := rfl; (try simp only [List.length_append, List.length_cons, List.length_nil, bytesOf_length, h4, h5]); omega) ?_; intro v1 w1 n0 n1 _; clear HO hB; have HO := Lib.hid n0; have hB := Lib.hid n1; clear n0 n1) | (at_builtin; refine append_str (w0 := w) w.heap.size rfl (.tmp 90) (.const (.string ⟨#[92, 117, 48, 48]⟩)) rfl _ _ _ rfl rfl HO.out hB.out (by exact hB.out.size) (by have h4 : (ByteArray.mk #[92, 117, 48, 48]).size = 4 := rfl; rw [h4]; (try simp only [List.length_append, List.length_cons, List.length_nil]); omega) ?_; intro v1 w1 n0 n1 _; clear HO hB; have HO := Lib.hid n0; have hB := Lib.hid n1; clear n0 n1) | (at_builtin; refine append_str (w0 := w) w.heap.size rfl (.tmp 104) (.const (.string ⟨#[92, 117, 50, 48, 50]⟩)) rfl _ _ _ rfl rfl HO.out hB.out (by exact hB.out.size) (by have h4 : (ByteArray.mk #[92, 117, 50, 48, 50]).size = 5 := rfl; rw [h4]; (try simp only [List.length_append, List.length_cons, List.length_nil]); omega) ?_; intro v1 w1 n0 n1 _; clear HO hB; have HO := Lib.hid n0; have hB := Lib.hid n1; clear n0 n1))
          go_roundw
          case rel =>
            refine ⟨k + N, f, _, by omega, by omega, by first | go_num | (congr 1; omega), hU, HO.out, ?_, ?_, hB.out⟩
            · show _ = _
              rw [← hX.out, hstep.out, hub.out]
              have k0 : bytesOf ({ data := #[92, 117, 48, 48] } : ByteArray) = [92, 117, 48, 48] := rfl
              rw [k0]; simp [List.append_assoc]
            · have h4 : (ByteArray.mk #[92, 117, 48, 48]).size = 4 := rfl
              have h5 : (ByteArray.mk #[92, 117, 50, 48, 50]).size = 5 := rfl
              simp only [List.length_append, List.length_cons, List.length_nil, bytesOf_length, h4, h5]; omega
          case measure => simp [intOf]; omega
        by_cases z38 : esc = true ∧ c = 38
        · obtain ⟨rfl, rfl⟩ := z38
          have hE : Hid (escC true 38 (bytesOf (s.extract k (k + N))) = [92, 117, 48, 48, hexd (38 / 16), hexd (38 % 16)]) := by
            show _ = _
            simp [escC]
          rw [hE.out] at hstep
          have vw : IntKind.u8.wrap 38 = 38 := by rw [IntKind.wrap_u8]; omega
          go_wp2_with (first | (at_builtin; refine append_lit (w0 := w) w.heap.size rfl (.tmp 42) (.tmp 45) rfl _ _ [_, _] rfl rfl HO.out hB.out (by exact hB.out.size) (by have h4 : (ByteArray.mk #[92, 117, 48, 48]).size = 4 := rfl; have h5 : (ByteArray.mk #[92, 117, 50, 48, 50]).size = 5 := rfl; (try simp only [List.length_append, List.length_cons, List.length_nil, bytesOf_length, h4, h5]); omega) ?_; intro v1 w1 n0 n1 _ _; clear HO hB; have HO := Lib.hid n0; have hB := Lib.hid n1; clear n0 n1) | (at_builtin; refine append_lit (w0 := w) w.heap.size rfl (.tmp 66) (.tmp 70) rfl _ _ [_, _] rfl rfl HO.out hB.out (by exact hB.out.size) (by have h4 : (ByteArray.mk #[92, 117, 48, 48]).size = 4 := rfl; have h5 : (ByteArray.mk #[92, 117, 50, 48, 50]).size = 5 := rfl; (try simp only [List.length_append, List.length_cons, List.length_nil, bytesOf_length, h4, h5]); omega) ?_; intro v1 w1 n0 n1 _ _; clear HO hB; have HO := Lib.hid n0; have hB := Lib.hid n1; clear n0 n1) | (at_builtin; refine append_lit (w0 := w) w.heap.size rfl (.tmp 106) (.tmp 111) rfl _ _ [_] rfl rfl HO.out hB.out (by exact hB.out.size) (by have h4 : (ByteArray.mk #[92, 117, 48, 48]).size = 4 := rfl; have h5 : (ByteArray.mk #[92, 117, 50, 48, 50]).size = 5 := rfl; (try simp only [List.length_append, List.length_cons, List.length_nil, bytesOf_length, h4, h5]); omega) ?_; intro v1 w1 n0 n1 _ _; clear HO hB; have HO := Lib.hid n0; have hB := Lib.hid n1; clear n0 n1) | (at_builtin; refine append_lit (w0 := w) w.heap.size rfl (.tmp 116) (.tmp 117) rfl _ _ [_] rfl rfl HO.out hB.out (by exact hB.out.size) (by have h4 : (ByteArray.mk #[92, 117, 48, 48]).size = 4 := rfl; have h5 : (ByteArray.mk #[92, 117, 50, 48, 50]).size = 5 := rfl; (try simp only [List.length_append, List.length_cons, List.length_nil, bytesOf_length, h4, h5]); omega) ?_; intro v1 w1 n0 n1 _ _; clear HO hB; have HO := Lib.hid n0; have hB := Lib.hid n1; clear n0 n1) | (at_builtin; refine append_str (w0 := w) w.heap.size rfl (.tmp 27) (.tmp 33) rfl _ _ _ rfl rfl HO.out hB.out (by exact hB.out.size) (by have h4 : (ByteArray.mk #[92, 117, 48, 48]).size = 4 := rfl; have h5 : (ByteArray.mk #[92, 117, 50, 48, 50]).size = 5 := rfl; (try simp only [List.length_append, List.length_cons, List.length_nil, bytesOf_length, h4, h5]); omega) ?_; intro v1 w1 n0 n1 _; clear HO hB; have HO := Lib.hid n0; have hB := Lib.hid n1; clear n0 n1) | (at_builtin; refine append_str (w0 := w) w.heap.size rfl (.tmp 92) (.tmp 95) rfl _ _ _ rfl rfl HO.out hB.out (by exact hB.out.size) (by have h4 : (ByteArray.mk #[92, 117, 48, 48]).size = 4 := rfl; have h5 : (ByteArray.mk #[92, 117, 50, 48, 50]).size = 5 := rfl; (try simp only [List.length_append, List.length_cons, List.length_nil, bytesOf_length, h4, h5]); omega) ?_; intro v1 w1 n0 n1 _; clear HO hB; have HO := Lib.hid n0; have hB := Lib.hid n1; clear n0 n1) | (at_builtin; refine append_str (w0 := w) w.heap.size rfl (.tmp 90) (.const (.string ⟨#[92, 117, 48, 48]⟩)) rfl _ _ _ rfl rfl HO.out hB.out (by exact hB.out.size) (by have h4 : (ByteArray.mk #[92, 117, 48, 48]).size = 4 := rfl; rw [h4]; (try simp only [List.length_append, List.length_cons, List.length_nil]); omega) ?_; intro v1 w1 n0 n1 _; clear HO hB; have HO := Lib.hid n0; have hB := Lib.hid n1; clear n0 n1) | (at_builtin; refine append_str (w0 := w) w.heap.size rfl (.tmp 104) (.const (.string ⟨#[92, 117, 50, 48, 50]⟩)) rfl _ _ _ rfl rfl HO.out hB.out (by exact hB.out.size) (by have h4 : (ByteArray.mk #[92, 117, 50, 48, 50]).size = 5 := rfl; rw [h4]; (try simp only [List.length_append, List.length_cons, List.length_nil]); omega) ?_; intro v1 w1 n0 n1 _; clear HO hB; have HO := Lib.hid n0; have hB := Lib.hid n1; clear n0 n1))
          refine (extHex_calls 38 (by omega) (by omega) _).mono ?_
          rintro e w2 ⟨u, rfl, hu, hb2⟩
          have hus : u.size ≤ 2 := hu.le (by simp)
          have hub := Lib.hid (hu.bytes (by intro x hx; rcases List.mem_cons.1 hx with rfl | hx; (· unfold hexd; split <;> omega); rw [List.mem_singleton] at hx; subst hx; unfold hexd; split <;> omega))
          have HO2 := Lib.hid (pw_own_below HO.out (hb2.mono (Nat.le_refl _)))
          have hB2 := Lib.hid (hB.out.trans (hb2.mono hB.out.size))
          clear HO hB hb2
          have HO := HO2
          have hB := hB2
          clear HO2 hB2
          go_wp2_with (first | (at_builtin; refine append_lit (w0 := w) w.heap.size rfl (.tmp 42) (.tmp 45) rfl _ _ [_, _] rfl rfl HO.out hB.out (by exact hB.out.size) (by have h4 : (ByteArray.mk #[92, 117, 48, 48]).size = 4 := rfl; have h5 : (ByteArray.mk #[92, 117, 50, 48, 50]).size = 5 := rfl; (try simp only [List.length_append, List.length_cons, List.length_nil, bytesOf_length, h4, h5]); omega) ?_; intro v1 w1 n0 n1 _ _; clear HO hB; have HO := Lib.hid n0; have hB := Lib.hid n1; clear n0 n1) | (at_builtin; refine append_lit (w0 := w) w.heap.size rfl (.tmp 66) (.tmp 70) rfl _ _ [_, _] rfl rfl HO.out hB.out (by exact hB.out.size) (by have h4 : (ByteArray.mk #[92, 117, 48, 48]).size = 4 := rfl; have h5 : (ByteArray.mk #[92, 117, 50, 48, 50]).size = 5 := rfl; (try simp only [List.length_append, List.length_cons, List.length_nil, bytesOf_length, h4, h5]); omega) ?_; intro v1 w1 n0 n1 _ _; clear HO hB; have HO := Lib.hid n0; have hB := Lib.hid n1; clear n0 n1) | (at_builtin; refine append_lit (w0 := w) w.heap.size rfl (.tmp 106) (.tmp 111) rfl _ _ [_] rfl rfl HO.out hB.out (by exact hB.out.size) (by have h4 : (ByteArray.mk #[92, 117, 48, 48]).size = 4 := rfl; have h5 : (ByteArray.mk #[92, 117, 50, 48, 50]).size = 5 := rfl; (try simp only [List.length_append, List.length_cons, List.length_nil, bytesOf_length, h4, h5]); omega) ?_; intro v1 w1 n0 n1 _ _; clear HO hB; have HO := Lib.hid n0; have hB := Lib.hid n1; clear n0 n1) | (at_builtin; refine append_lit (w0 := w) w.heap.size rfl (.tmp 116) (.tmp 117) rfl _ _ [_] rfl rfl HO.out hB.out (by exact hB.out.size) (by have h4 : (ByteArray.mk #[92, 117, 48, 48]).size = 4 := rfl; have h5 : (ByteArray.mk #[92, 117, 50, 48, 50]).size = 5 := rfl; (try simp only [List.length_append, List.length_cons, List.length_nil, bytesOf_length, h4, h5]); omega) ?_; intro v1 w1 n0 n1 _ _; clear HO hB; have HO := Lib.hid n0; have hB := Lib.hid n1; clear n0 n1) | (at_builtin; refine append_str (w0 := w) w.heap.size rfl (.tmp 27) (.tmp 33) rfl _ _ _ rfl rfl HO.out hB.out (by exact hB.out.size) (by have h4 : (ByteArray.mk #[92, 117, 48, 48]).size = 4 := rfl; have h5 : (ByteArray.mk #[92, 117, 50, 48, 50]).size = 5 := rfl; (try simp only [List.length_append, List.length_cons, List.length_nil, bytesOf_length, h4, h5]); omega) ?_; intro v1 w1 n0 n1 _; clear HO hB; have HO := Lib.hid n0; have hB := Lib.hid n1; clear n0 n1) | (at_builtin; refine append_str (w0 := w) w.heap.size rfl (.tmp 92) (.tmp 95) rfl _ _ _ rfl rfl HO.out hB.out (by exact hB.out.size) (by have h4 : (ByteArray.mk #[92, 117, 48, 48]).size = 4 := rfl; have h5 : (ByteArray.mk #[92, 117, 50, 48, 50]).size = 5 := rfl; (try simp only [List.length_append, List.length_cons, List.length_nil, bytesOf_length, h4, h5]); omega) ?_; intro v1 w1 n0 n1 _; clear HO hB; have HO := Lib.hid n0; have hB := Lib.hid n1; clear n0 n1) | (at_builtin; refine append_str (w0 := w) w.heap.size rfl (.tmp 90) (.const (.string ⟨#[92, 117, 48, 48]⟩)) rfl _ _ _ rfl rfl HO.out hB.out (by exact hB.out.size) (by have h4 : (ByteArray.mk #[92, 117, 48, 48]).size = 4 := rfl; rw [h4]; (try simp only [List.length_append, List.length_cons, List.length_nil]); omega) ?_; intro v1 w1 n0 n1 _; clear HO hB; have HO := Lib.hid n0; have hB := Lib.hid n1; clear n0 n1) | (at_builtin; refine append_str (w0 := w) w.heap.size rfl (.tmp 104) (.const (.string ⟨#[92, 117, 50, 48, 50]⟩)) rfl _ _ _ rfl rfl HO.out hB.out (by exact hB.out.size) (by have h4 : (ByteArray.mk #[92, 117, 50, 48, 50]).size = 5 := rfl; rw [h4]; (try simp only [List.length_append, List.length_cons, List.length_nil]); omega) ?_; intro v1 w1 n0 n1 _; clear HO hB; have HO := Lib.hid n0; have hB := Lib.hid n1; clear n0 n1))
          go_roundw
          case rel =>
            refine ⟨k + N, f, _, by omega, by omega, by first | go_num | (congr 1; omega), hU, HO.out, ?_, ?_, hB.out⟩
            · show _ = _
              rw [← hX.out, hstep.out, hub.out]
              have k0 : bytesOf ({ data := #[92, 117, 48, 48] } : ByteArray) = [92, 117, 48, 48] := rfl
              rw [k0]; simp [List.append_assoc]
            · have h4 : (ByteArray.mk #[92, 117, 48, 48]).size = 4 := rfl
              have h5 : (ByteArray.mk #[92, 117, 50, 48, 50]).size = 5 := rfl
              simp only [List.length_append, List.length_cons, List.length_nil, bytesOf_length, h4, h5]; omega
          case measure => simp [intOf]; omega
        have HE3 : Hid (¬ (esc = true ∧ (c = 60 ∨ c = 62 ∨ c = 38))) := by
          show ¬ _
          rintro ⟨p, q | q | q⟩
          · exact z60 ⟨p, q⟩
          · exact z62 ⟨p, q⟩
          · exact z38 ⟨p, q⟩
        clear z60 z62 z38
        by_cases z8232 : c = 8232
        · subst z8232
          have hE : Hid (escC esc 8232 (bytesOf (s.extract k (k + N))) = [92, 117, 50, 48, 50, 56 + 8232 - 8232]) := by
            show _ = _
            simp [escC]
          rw [hE.out] at hstep
          cases esc
          · have vw : IntKind.u8.wrap (56 + 8232 - 8232) = 56 + 8232 - 8232 := by rw [IntKind.wrap_u8]; omega
            go_wp2_with (first | (at_builtin; refine append_lit (w0 := w) w.heap.size rfl (.tmp 42) (.tmp 45) rfl _ _ [_, _] rfl rfl HO.out hB.out (by exact hB.out.size) (by have h4 : (ByteArray.mk #[92, 117, 48, 48]).size = 4 := rfl; have h5 : (ByteArray.mk #[92, 117, 50, 48, 50]).size = 5 := rfl; (try simp only [List.length_append, List.length_cons, List.length_nil, bytesOf_length, h4, h5]); omega) ?_; intro v1 w1 n0 n1 _ _; clear HO hB; have HO := Lib.hid n0; have hB := Lib.hid n1; clear n0 n1) | (at_builtin; refine append_lit (w0 := w) w.heap.size rfl (.tmp 66) (.tmp 70) rfl _ _ [_, _] rfl rfl HO.out hB.out (by exact hB.out.size) (by have h4 : (ByteArray.mk #[92, 117, 48, 48]).size = 4 := rfl; have h5 : (ByteArray.mk #[92, 117, 50, 48, 50]).size = 5 := rfl; (try simp only [List.length_append, List.length_cons, List.length_nil, bytesOf_length, h4, h5]); omega) ?_; intro v1 w1 n0 n1 _ _; clear HO hB; have HO := Lib.hid n0; have hB := Lib.hid n1; clear n0 n1) | (at_builtin; refine append_lit (w0 := w) w.heap.size rfl (.tmp 106) (.tmp 111) rfl _ _ [_] rfl rfl HO.out hB.out (by exact hB.out.size) (by have h4 : (ByteArray.mk #[92, 117, 48, 48]).size = 4 := rfl; have h5 : (ByteArray.mk #[92, 117, 50, 48, 50]).size = 5 := rfl; (try simp only [List.length_append, List.length_cons, List.length_nil, bytesOf_length, h4, h5]); omega) ?_; intro v1 w1 n0 n1 _ _; clear HO hB; have HO := Lib.hid n0; have hB := Lib.hid n1; clear n0 n1) | (at_builtin; refine append_lit (w0 := w) w.heap.size rfl (.tmp 116) (.tmp 117) rfl _ _ [_] rfl rfl HO.out hB.out (by exact hB.out.size) (by have h4 : (ByteArray.mk #[92, 117, 48, 48]).size = 4 := rfl; have h5 : (ByteArray.mk #[92, 117, 50, 48, 50]).size = 5 := rfl; (try simp only [List.length_append, List.length_cons, List.length_nil, bytesOf_length, h4, h5]); omega) ?_; intro v1 w1 n0 n1 _ _; clear HO hB; have HO := Lib.hid n0; have hB := Lib.hid n1; clear n0 n1) | (at_builtin; refine append_str (w0 := w) w.heap.size rfl (.tmp 27) (.tmp 33) rfl _ _ _ rfl rfl HO.out hB.out (by exact hB.out.size) (by have h4 : (ByteArray.mk #[92, 117, 48, 48]).size = 4 := rfl; have h5 : (ByteArray.mk #[92, 117, 50, 48, 50]).size = 5 := rfl; (try simp only [List.length_append, List.length_cons, List.length_nil, bytesOf_length, h4, h5]); omega) ?_; intro v1 w1 n0 n1 _; clear HO hB; have HO := Lib.hid n0; have hB := Lib.hid n1; clear n0 n1) | (at_builtin; refine append_str (w0 := w) w.heap.size rfl (.tmp 92) (.tmp 95) rfl _ _ _ rfl rfl HO.out hB.out (by exact hB.out.size) (by have h4 : (ByteArray.mk #[92, 117, 48, 48]).size = 4 := rfl; have h5 : (ByteArray.mk #[92, 117, 50, 48, 50]).size = 5 := rfl; (try simp only [List.length_append, List.length_cons, List.length_nil, bytesOf_length, h4, h5]); omega) ?_; intro v1 w1 n0 n1 _; clear HO hB; have HO := Lib.hid n0; have hB := Lib.hid n1; clear n0 n1) | (at_builtin; refine append_str (w0 := w) w.heap.size rfl (.tmp 90) (.const (.string ⟨#[92, 117, 48, 48]⟩)) rfl _ _ _ rfl rfl HO.out hB.out (by exact hB.out.size) (by have h4 : (ByteArray.mk #[92, 117, 48, 48]).size = 4 := rfl; rw [h4]; (try simp only [List.length_append, List.length_cons, List.length_nil]); omega) ?_; intro v1 w1 n0 n1 _; clear HO hB; have HO := Lib.hid n0; have hB := Lib.hid n1; clear n0 n1) | (at_builtin; refine append_str (w0 := w) w.heap.size rfl (.tmp 104) (.const (.string ⟨#[92, 117, 50, 48, 50]⟩)) rfl _ _ _ rfl rfl HO.out hB.out (by exact hB.out.size) (by have h4 : (ByteArray.mk #[92, 117, 50, 48, 50]).size = 5 := rfl; rw [h4]; (try simp only [List.length_append, List.length_cons, List.length_nil]); omega) ?_; intro v1 w1 n0 n1 _; clear HO hB; have HO := Lib.hid n0; have hB := Lib.hid n1; clear n0 n1))
            go_roundw
            case rel =>
              refine ⟨k + N, f, _, by omega, by omega, by first | go_num | (congr 1; omega), hU, HO.out, ?_, ?_, hB.out⟩
              · show _ = _
                have k0 : bytesOf (ByteArray.mk #[92, 117, 50, 48, 50]) = [92, 117, 50, 48, 50] := rfl
                rw [← hX.out, hstep.out, k0]
                simp [List.append_assoc]
              · have h5 : (ByteArray.mk #[92, 117, 50, 48, 50]).size = 5 := rfl
                simp only [List.length_append, List.length_cons, List.length_nil, bytesOf_length, h5]; omega
            case measure => simp [intOf]; omega
          · have vw : IntKind.u8.wrap (56 + 8232 - 8232) = 56 + 8232 - 8232 := by rw [IntKind.wrap_u8]; omega
            go_wp2_with (first | (at_builtin; refine append_lit (w0 := w) w.heap.size rfl (.tmp 42) (.tmp 45) rfl _ _ [_, _] rfl rfl HO.out hB.out (by exact hB.out.size) (by have h4 : (ByteArray.mk #[92, 117, 48, 48]).size = 4 := rfl; have h5 : (ByteArray.mk #[92, 117, 50, 48, 50]).size = 5 := rfl; (try simp only [List.length_append, List.length_cons, List.length_nil, bytesOf_length, h4, h5]); omega) ?_; intro v1 w1 n0 n1 _ _; clear HO hB; have HO := Lib.hid n0; have hB := Lib.hid n1; clear n0 n1) | (at_builtin; refine append_lit (w0 := w) w.heap.size rfl (.tmp 66) (.tmp 70) rfl _ _ [_, _] rfl rfl HO.out hB.out (by exact hB.out.size) (by have h4 : (ByteArray.mk #[92, 117, 48, 48]).size = 4 := rfl; have h5 : (ByteArray.mk #[92, 117, 50, 48, 50]).size = 5 := rfl; (try simp only [List.length_append, List.length_cons, List.length_nil, bytesOf_length, h4, h5]); omega) ?_; intro v1 w1 n0 n1 _ _; clear HO hB; have HO := Lib.hid n0; have hB := Lib.hid n1; clear n0 n1) | (at_builtin; refine append_lit (w0 := w) w.heap.size rfl (.tmp 106) (.tmp 111) rfl _ _ [_] rfl rfl HO.out hB.out (by exact hB.out.size) (by have h4 : (ByteArray.mk #[92, 117, 48, 48]).size = 4 := rfl; have h5 : (ByteArray.mk #[92, 117, 50, 48, 50]).size = 5 := rfl; (try simp only [List.length_append, List.length_cons, List.length_nil, bytesOf_length, h4, h5]); omega) ?_; intro v1 w1 n0 n1 _ _; clear HO hB; have HO := Lib.hid n0; have hB := Lib.hid n1; clear n0 n1) | (at_builtin; refine append_lit (w0 := w) w.heap.size rfl (.tmp 116) (.tmp 117) rfl _ _ [_] rfl rfl HO.out hB.out (by exact hB.out.size) (by have h4 : (ByteArray.mk #[92, 117, 48, 48]).size = 4 := rfl; have h5 : (ByteArray.mk #[92, 117, 50, 48, 50]).size = 5 := rfl; (try simp only [List.length_append, List.length_cons, List.length_nil, bytesOf_length, h4, h5]); omega) ?_; intro v1 w1 n0 n1 _ _; clear HO hB; have HO := Lib.hid n0; have hB := Lib.hid n1; clear n0 n1) | (at_builtin; refine append_str (w0 := w) w.heap.size rfl (.tmp 27) (.tmp 33) rfl _ _ _ rfl rfl HO.out hB.out (by exact hB.out.size) (by have h4 : (ByteArray.mk #[92, 117, 48, 48]).size = 4 := rfl; have h5 : (ByteArray.mk #[92, 117, 50, 48, 50]).size = 5 := rfl; (try simp only [List.length_append, List.length_cons, List.length_nil, bytesOf_length, h4, h5]); omega) ?_; intro v1 w1 n0 n1 _; clear HO hB; have HO := Lib.hid n0; have hB := Lib.hid n1; clear n0 n1) | (at_builtin; refine append_str (w0 := w) w.heap.size rfl (.tmp 92) (.tmp 95) rfl _ _ _ rfl rfl HO.out hB.out (by exact hB.out.size) (by have h4 : (ByteArray.mk #[92, 117, 48, 48]).size = 4 := rfl; have h5 : (ByteArray.mk #[92, 117, 50, 48, 50]).size = 5 := rfl; (try simp only [List.length_append, List.length_cons, List.length_nil, bytesOf_length, h4, h5]); omega) ?_; intro v1 w1 n0 n1 _; clear HO hB; have HO := Lib.hid n0; have hB := Lib.hid n1; clear n0 n1) | (at_builtin; refine append_str (w0 := w) w.heap.size rfl (.tmp 90) (.const (.string ⟨#[92, 117, 48, 48]⟩)) rfl _ _ _ rfl rfl HO.out hB.out (by exact hB.out.size) (by have h4 : (ByteArray.mk #[92, 117, 48, 48]).size = 4 := rfl; rw [h4]; (try simp only [List.length_append, List.length_cons, List.length_nil]); omega) ?_; intro v1 w1 n0 n1 _; clear HO hB; have HO := Lib.hid n0; have hB := Lib.hid n1; clear n0 n1) | (at_builtin; refine append_str (w0 := w) w.heap.size rfl (.tmp 104) (.const (.string ⟨#[92, 117, 50, 48, 50]⟩)) rfl _ _ _ rfl rfl HO.out hB.out (by exact hB.out.size) (by have h4 : (ByteArray.mk #[92, 117, 50, 48, 50]).size = 5 := rfl; rw [h4]; (try simp only [List.length_append, List.length_cons, List.length_nil]); omega) ?_; intro v1 w1 n0 n1 _; clear HO hB; have HO := Lib.hid n0; have hB := Lib.hid n1; clear n0 n1))
            go_roundw
            case rel =>
              refine ⟨k + N, f, _, by omega, by omega, by first | go_num | (congr 1; omega), hU, HO.out, ?_, ?_, hB.out⟩
              · show _ = _
                have k0 : bytesOf (ByteArray.mk #[92, 117, 50, 48, 50]) = [92, 117, 50, 48, 50] := rfl
                rw [← hX.out, hstep.out, k0]
                simp [List.append_assoc]
              · have h5 : (ByteArray.mk #[92, 117, 50, 48, 50]).size = 5 := rfl
                simp only [List.length_append, List.length_cons, List.length_nil, bytesOf_length, h5]; omega
            case measure => simp [intOf]; omega
        by_cases z8233 : c = 8233
        · subst z8233
          have hE : Hid (escC esc 8233 (bytesOf (s.extract k (k + N))) = [92, 117, 50, 48, 50, 56 + 8233 - 8232]) := by
            show _ = _
            simp [escC]
          rw [hE.out] at hstep
          cases esc
          · have vw : IntKind.u8.wrap (56 + 8233 - 8232) = 56 + 8233 - 8232 := by rw [IntKind.wrap_u8]; omega
            go_wp2_with (first | (at_builtin; refine append_lit (w0 := w) w.heap.size rfl (.tmp 42) (.tmp 45) rfl _ _ [_, _] rfl rfl HO.out hB.out (by exact hB.out.size) (by have h4 : (ByteArray.mk #[92, 117, 48, 48]).size = 4 := rfl; have h5 : (ByteArray.mk #[92, 117, 50, 48, 50]).size = 5 := rfl; (try simp only [List.length_append, List.length_cons, List.length_nil, bytesOf_length, h4, h5]); omega) ?_; intro v1 w1 n0 n1 _ _; clear HO hB; have HO := Lib.hid n0; have hB := Lib.hid n1; clear n0 n1) | (at_builtin; refine append_lit (w0 := w) w.heap.size rfl (.tmp 66) (.tmp 70) rfl _ _ [_, _] rfl rfl HO.out hB.out (by exact hB.out.size) (by have h4 : (ByteArray.mk #[92, 117, 48, 48]).size = 4 := rfl; have h5 : (ByteArray.mk #[92, 117, 50, 48, 50]).size = 5 := rfl; (try simp only [List.length_append, List.length_cons, List.length_nil, bytesOf_length, h4, h5]); omega) ?_; intro v1 w1 n0 n1 _ _; clear HO hB; have HO := Lib.hid n0; have hB := Lib.hid n1; clear n0 n1) | (at_builtin; refine append_lit (w0 := w) w.heap.size rfl (.tmp 106) (.tmp 111) rfl _ _ [_] rfl rfl HO.out hB.out (by exact hB.out.size) (by have h4 : (ByteArray.mk #[92, 117, 48, 48]).size = 4 := rfl; have h5 : (ByteArray.mk #[92, 117, 50, 48, 50]).size = 5 := rfl; (try simp only [List.length_append, List.length_cons, List.length_nil, bytesOf_length, h4, h5]); omega) ?_; intro v1 w1 n0 n1 _ _; clear HO hB; have HO := Lib.hid n0; have hB := Lib.hid n1; clear n0 n1) | (at_builtin; refine append_lit (w0 := w) w.heap.size rfl (.tmp 116) (.tmp 117) rfl _ _ [_] rfl rfl HO.out hB.out (by exact hB.out.size) (by have h4 : (ByteArray.mk #[92, 117, 48, 48]).size = 4 := rfl; have h5 : (ByteArray.mk #[92, 117, 50, 48, 50]).size = 5 := rfl; (try simp only [List.length_append, List.length_cons, List.length_nil, bytesOf_length, h4, h5]); omega) ?_; intro v1 w1 n0 n1 _ _; clear HO hB; have HO := Lib.hid n0; have hB := Lib.hid n1; clear n0 n1) | (at_builtin; refine append_str (w0 := w) w.heap.size rfl (.tmp 27) (.tmp 33) rfl _ _ _ rfl rfl HO.out hB.out (by exact hB.out.size) (by have h4 : (ByteArray.mk #[92, 117, 48, 48]).size = 4 := rfl; have h5 : (ByteArray.mk #[92, 117, 50, 48, 50]).size = 5 := rfl; (try simp only [List.length_append, List.length_cons, List.length_nil, bytesOf_length, h4, h5]); omega) ?_; intro v1 w1 n0 n1 _; clear HO hB; have HO := Lib.hid n0; have hB := Lib.hid n1; clear n0 n1) | (at_builtin; refine append_str (w0 := w) w.heap.size rfl (.tmp 92) (.tmp 95) rfl _ _ _ rfl rfl HO.out hB.out (by exact hB.out.size) (by have h4 : (ByteArray.mk #[92, 117, 48, 48]).size = 4 := rfl; have h5 : (ByteArray.mk #[92, 117, 50, 48, 50]).size = 5 := rfl; (try simp only [List.length_append, List.length_cons, List.length_nil, bytesOf_length, h4, h5]); omega) ?_; intro v1 w1 n0 n1 _; clear HO hB; have HO := Lib.hid n0; have hB := Lib.hid n1; clear n0 n1) | (at_builtin; refine append_str (w0 := w) w.heap.size rfl (.tmp 90) (.const (.string ⟨#[92, 117, 48, 48]⟩)) rfl _ _ _ rfl rfl HO.out hB.out (by exact hB.out.size) (by have h4 : (ByteArray.mk #[92, 117, 48, 48]).size = 4 := rfl; rw [h4]; (try simp only [List.length_append, List.length_cons, List.length_nil]); omega) ?_; intro v1 w1 n0 n1 _; clear HO hB; have HO := Lib.hid n0; have hB := Lib.hid n1; clear n0 n1) | (at_builtin; refine append_str (w0 := w) w.heap.size rfl (.tmp 104) (.const (.string ⟨#[92, 117, 50, 48, 50]⟩)) rfl _ _ _ rfl rfl HO.out hB.out (by exact hB.out.size) (by have h4 : (ByteArray.mk #[92, 117, 50, 48, 50]).size = 5 := rfl; rw [h4]; (try simp only [List.length_append, List.length_cons, List.length_nil]); omega) ?_; intro v1 w1 n0 n1 _; clear HO hB; have HO := Lib.hid n0; have hB := Lib.hid n1; clear n0 n1))
            go_roundw
            case rel =>
              refine ⟨k + N, f, _, by omega, by omega, by first | go_num | (congr 1; omega), hU, HO.out, ?_, ?_, hB.out⟩
              · show _ = _
                have k0 : bytesOf (ByteArray.mk #[92, 117, 50, 48, 50]) = [92, 117, 50, 48, 50] := rfl
                rw [← hX.out, hstep.out, k0]
                simp [List.append_assoc]
              · have h5 : (ByteArray.mk #[92, 117, 50, 48, 50]).size = 5 := rfl
                simp only [List.length_append, List.length_cons, List.length_nil, bytesOf_length, h5]; omega
            case measure => simp [intOf]; omega
          · have vw : IntKind.u8.wrap (56 + 8233 - 8232) = 56 + 8233 - 8232 := by rw [IntKind.wrap_u8]; omega
            go_wp2_with (first | (at_builtin; refine append_lit (w0 := w) w.heap.size rfl (.tmp 42) (.tmp 45) rfl _ _ [_, _] rfl rfl HO.out hB.out (by exact hB.out.size) (by have h4 : (ByteArray.mk #[92, 117, 48, 48]).size = 4 := rfl; have h5 : (ByteArray.mk #[92, 117, 50, 48, 50]).size = 5 := rfl; (try simp only [List.length_append, List.length_cons, List.length_nil, bytesOf_length, h4, h5]); omega) ?_; intro v1 w1 n0 n1 _ _; clear HO hB; have HO := Lib.hid n0; have hB := Lib.hid n1; clear n0 n1) | (at_builtin; refine append_lit (w0 := w) w.heap.size rfl (.tmp 66) (.tmp 70) rfl _ _ [_, _] rfl rfl HO.out hB.out (by exact hB.out.size) (by have h4 : (ByteArray.mk #[92, 117, 48, 48]).size = 4 := rfl; have h5 : (ByteArray.mk #[92, 117, 50, 48, 50]).size = 5 := rfl; (try simp only [List.length_append, List.length_cons, List.length_nil, bytesOf_length, h4, h5]); omega) ?_; intro v1 w1 n0 n1 _ _; clear HO hB; have HO := Lib.hid n0; have hB := Lib.hid n1; clear n0 n1) | (at_builtin; refine append_lit (w0 := w) w.heap.size rfl (.tmp 106) (.tmp 111) rfl _ _ [_] rfl rfl HO.out hB.out (by exact hB.out.size) (by have h4 : (ByteArray.mk #[92, 117, 48, 48]).size = 4 := rfl; have h5 : (ByteArray.mk #[92, 117, 50, 48, 50]).size = 5 := rfl; (try simp only [List.length_append, List.length_cons, List.length_nil, bytesOf_length, h4, h5]); omega) ?_; intro v1 w1 n0 n1 _ _; clear HO hB; have HO := Lib.hid n0; have hB := Lib.hid n1; clear n0 n1) | (at_builtin; refine append_lit (w0 := w) w.heap.size rfl (.tmp 116) (.tmp 117) rfl _ _ [_] rfl rfl HO.out hB.out (by exact hB.out.size) (by have h4 : (ByteArray.mk #[92, 117, 48, 48]).size = 4 := rfl; have h5 : (ByteArray.mk #[92, 117, 50, 48, 50]).size = 5 := rfl; (try simp only [List.length_append, List.length_cons, List.length_nil, bytesOf_length, h4, h5]); omega) ?_; intro v1 w1 n0 n1 _ _; clear HO hB; have HO := Lib.hid n0; have hB := Lib.hid n1; clear n0 n1) | (at_builtin; refine append_str (w0 := w) w.heap.size rfl (.tmp 27) (.tmp 33) rfl _ _ _ rfl rfl HO.out hB.out (by exact hB.out.size) (by have h4 : (ByteArray.mk #[92, 117, 48, 48]).size = 4 := rfl; have h5 : (ByteArray.mk #[92, 117, 50, 48, 50]).size = 5 := rfl; (try simp only [List.length_append, List.length_cons, List.length_nil, bytesOf_length, h4, h5]); omega) ?_; intro v1 w1 n0 n1 _; clear HO hB; have HO := Lib.hid n0; have hB := Lib.hid n1; clear n0 n1) | (at_builtin; refine append_str (w0 := w) w.heap.size rfl (.tmp 92) (.tmp 95) rfl _ _ _ rfl rfl HO.out hB.out (by exact hB.out.size) (by have h4 : (ByteArray.mk #[92, 117, 48, 48]).size = 4 := rfl; have h5 : (ByteArray.mk #[92, 117, 50, 48, 50]).size = 5 := rfl; (try simp only [List.length_append, List.length_cons, List.length_nil, bytesOf_length, h4, h5]); omega) ?_; intro v1 w1 n0 n1 _; clear HO hB; have HO := Lib.hid n0; have hB := Lib.hid n1; clear n0 n1) | (at_builtin; refine append_str (w0 := w) w.heap.size rfl (.tmp 90) (.const (.string ⟨#[92, 117, 48, 48]⟩)) rfl _ _ _ rfl rfl HO.out hB.out (by exact hB.out.size) (by have h4 : (ByteArray.mk #[92, 117, 48, 48]).size = 4 := rfl; rw [h4]; (try simp only [List.length_append, List.length_cons, List.length_nil]); omega) ?_; intro v1 w1 n0 n1 _; clear HO hB; have HO := Lib.hid n0; have hB := Lib.hid n1; clear n0 n1) | (at_builtin; refine append_str (w0 := w) w.heap.size rfl (.tmp 104) (.const (.string ⟨#[92, 117, 50, 48, 50]⟩)) rfl _ _ _ rfl rfl HO.out hB.out (by exact hB.out.size) (by have h4 : (ByteArray.mk #[92, 117, 50, 48, 50]).size = 5 := rfl; rw [h4]; (try simp only [List.length_append, List.length_cons, List.length_nil]); omega) ?_; intro v1 w1 n0 n1 _; clear HO hB; have HO := Lib.hid n0; have hB := Lib.hid n1; clear n0 n1))
            go_roundw
            case rel =>
              refine ⟨k + N, f, _, by omega, by omega, by first | go_num | (congr 1; omega), hU, HO.out, ?_, ?_, hB.out⟩
              · show _ = _
                have k0 : bytesOf (ByteArray.mk #[92, 117, 50, 48, 50]) = [92, 117, 50, 48, 50] := rfl
                rw [← hX.out, hstep.out, k0]
                simp [List.append_assoc]
              · have h5 : (ByteArray.mk #[92, 117, 50, 48, 50]).size = 5 := rfl
                simp only [List.length_append, List.length_cons, List.length_nil, bytesOf_length, h5]; omega
            case measure => simp [intOf]; omega
        have hE : Hid (escC esc c (bytesOf (s.extract k (k + N))) = bytesOf (s.extract k (k + N))) := by
          obtain ⟨a1, a2, a3, a4, a5, a6, a7⟩ := HZ.out
          show _ = _
          unfold escC
          rw [if_neg (by omega), if_neg a3, if_neg a4, if_neg a5, if_neg a6, if_neg a7, if_neg (by rintro (h | h); exact z32 h; exact HE3.out h), if_neg (by omega)]
        rw [hE.out] at hstep
        have b8232 : (c == 8232) = false := by simp [z8232]
        have b8233 : (c == 8233) = false := by simp [z8233]
        clear z8232 z8233
        cases esc with
        | false =>
          go_wp2_with (first | (at_builtin; refine append_lit (w0 := w) w.heap.size rfl (.tmp 42) (.tmp 45) rfl _ _ [_, _] rfl rfl HO.out hB.out (by exact hB.out.size) (by have h4 : (ByteArray.mk #[92, 117, 48, 48]).size = 4 := rfl; have h5 : (ByteArray.mk #[92, 117, 50, 48, 50]).size = 5 := rfl; (try simp only [List.length_append, List.length_cons, List.length_nil, bytesOf_length, h4, h5]); omega) ?_; intro v1 w1 n0 n1 _ _; clear HO hB; have HO := Lib.hid n0; have hB := Lib.hid n1; clear n0 n1) | (at_builtin; refine append_lit (w0 := w) w.heap.size rfl (.tmp 66) (.tmp 70) rfl _ _ [_, _] rfl rfl HO.out hB.out (by exact hB.out.size) (by have h4 : (ByteArray.mk #[92, 117, 48, 48]).size = 4 := rfl; have h5 : (ByteArray.mk #[92, 117, 50, 48, 50]).size = 5 := rfl; (try simp only [List.length_append, List.length_cons, List.length_nil, bytesOf_length, h4, h5]); omega) ?_; intro v1 w1 n0 n1 _ _; clear HO hB; have HO := Lib.hid n0; have hB := Lib.hid n1; clear n0 n1) | (at_builtin; refine append_lit (w0 := w) w.heap.size rfl (.tmp 106) (.tmp 111) rfl _ _ [_] rfl rfl HO.out hB.out (by exact hB.out.size) (by have h4 : (ByteArray.mk #[92, 117, 48, 48]).size = 4 := rfl; have h5 : (ByteArray.mk #[92, 117, 50, 48, 50]).size = 5 := rfl; (try simp only [List.length_append, List.length_cons, List.length_nil, bytesOf_length, h4, h5]); omega) ?_; intro v1 w1 n0 n1 _ _; clear HO hB; have HO := Lib.hid n0; have hB := Lib.hid n1; clear n0 n1) | (at_builtin; refine append_lit (w0 := w) w.heap.size rfl (.tmp 116) (.tmp 117) rfl _ _ [_] rfl rfl HO.out hB.out (by exact hB.out.size) (by have h4 : (ByteArray.mk #[92, 117, 48, 48]).size = 4 := rfl; have h5 : (ByteArray.mk #[92, 117, 50, 48, 50]).size = 5 := rfl; (try simp only [List.length_append, List.length_cons, List.length_nil, bytesOf_length, h4, h5]); omega) ?_; intro v1 w1 n0 n1 _ _; clear HO hB; have HO := Lib.hid n0; have hB := Lib.hid n1; clear n0 n1) | (at_builtin; refine append_str (w0 := w) w.heap.size rfl (.tmp 27) (.tmp 33) rfl _ _ _ rfl rfl HO.out hB.out (by exact hB.out.size) (by have h4 : (ByteArray.mk #[92, 117, 48, 48]).size = 4 := rfl; have h5 : (ByteArray.mk #[92, 117, 50, 48, 50]).size = 5 := rfl; (try simp only [List.length_append, List.length_cons, List.length_nil, bytesOf_length, h4, h5]); omega) ?_; intro v1 w1 n0 n1 _; clear HO hB; have HO := Lib.hid n0; have hB := Lib.hid n1; clear n0 n1) | (at_builtin; refine append_str (w0 := w) w.heap.size rfl (.tmp 92) (.tmp 95) rfl _ _ _ rfl rfl HO.out hB.out (by exact hB.out.size) (by have h4 : (ByteArray.mk #[92, 117, 48, 48]).size = 4 := rfl; have h5 : (ByteArray.mk #[92, 117, 50, 48, 50]).size = 5 := rfl; (try simp only [List.length_append, List.length_cons, List.length_nil, bytesOf_length, h4, h5]); omega) ?_; intro v1 w1 n0 n1 _; clear HO hB; have HO := Lib.hid n0; have hB := Lib.hid n1; clear n0 n1) | (at_builtin; refine append_str (w0 := w) w.heap.size rfl (.tmp 90) (.const (.string ⟨#[92, 117, 48, 48]⟩)) rfl _ _ _ rfl rfl HO.out hB.out (by exact hB.out.size) (by have h4 : (ByteArray.mk #[92, 117, 48, 48]).size = 4 := rfl; rw [h4]; (try simp only [List.length_append, List.length_cons, List.length_nil]); omega) ?_; intro v1 w1 n0 n1 _; clear HO hB; have HO := Lib.hid n0; have hB := Lib.hid n1; clear n0 n1) | (at_builtin; refine append_str (w0 := w) w.heap.size rfl (.tmp 104) (.const (.string ⟨#[92, 117, 50, 48, 50]⟩)) rfl _ _ _ rfl rfl HO.out hB.out (by exact hB.out.size) (by have h4 : (ByteArray.mk #[92, 117, 50, 48, 50]).size = 5 := rfl; rw [h4]; (try simp only [List.length_append, List.length_cons, List.length_nil]); omega) ?_; intro v1 w1 n0 n1 _; clear HO hB; have HO := Lib.hid n0; have hB := Lib.hid n1; clear n0 n1))
          go_roundw
          case rel =>
            refine ⟨k + N, f, _, by omega, by omega, by first | go_num | (congr 1; omega), hU, HO.out, ?_, ?_, hB.out⟩
            · show _ = _
              rw [← hX.out, hstep.out]
              simp [List.append_assoc]
            · simp only [List.length_append, List.length_cons, List.length_nil, bytesOf_length]; omega
          case measure => simp [intOf]; omega
        | true =>
          have y60 : (c == 60) = false := by have := HE3.out; simp only [true_and, not_or] at this; simp [this.1]
          have y62 : (c == 62) = false := by have := HE3.out; simp only [true_and, not_or] at this; simp [this.2.1]
          have y38 : (c == 38) = false := by have := HE3.out; simp only [true_and, not_or] at this; simp [this.2.2]
          go_wp2_with (first | (at_builtin; refine append_lit (w0 := w) w.heap.size rfl (.tmp 42) (.tmp 45) rfl _ _ [_, _] rfl rfl HO.out hB.out (by exact hB.out.size) (by have h4 : (ByteArray.mk #[92, 117, 48, 48]).size = 4 := rfl; have h5 : (ByteArray.mk #[92, 117, 50, 48, 50]).size = 5 := rfl; (try simp only [List.length_append, List.length_cons, List.length_nil, bytesOf_length, h4, h5]); omega) ?_; intro v1 w1 n0 n1 _ _; clear HO hB; have HO := Lib.hid n0; have hB := Lib.hid n1; clear n0 n1) | (at_builtin; refine append_lit (w0 := w) w.heap.size rfl (.tmp 66) (.tmp 70) rfl _ _ [_, _] rfl rfl HO.out hB.out (by exact hB.out.size) (by have h4 : (ByteArray.mk #[92, 117, 48, 48]).size = 4 := rfl; have h5 : (ByteArray.mk #[92, 117, 50, 48, 50]).size = 5 := rfl; (try simp only [List.length_append, List.length_cons, List.length_nil, bytesOf_length, h4, h5]); omega) ?_; intro v1 w1 n0 n1 _ _; clear HO hB; have HO := Lib.hid n0; have hB := Lib.hid n1; clear n0 n1) | (at_builtin; refine append_lit (w0 := w) w.heap.size rfl (.tmp 106) (.tmp 111) rfl _ _ [_] rfl rfl HO.out hB.out (by exact hB.out.size) (by have h4 : (ByteArray.mk #[92, 117, 48, 48]).size = 4 := rfl; have h5 : (ByteArray.mk #[92, 117, 50, 48, 50]).size = 5 := rfl; (try simp only [List.length_append, List.length_cons, List.length_nil, bytesOf_length, h4, h5]); omega) ?_; intro v1 w1 n0 n1 _ _; clear HO hB; have HO := Lib.hid n0; have hB := Lib.hid n1; clear n0 n1) | (at_builtin; refine append_lit (w0 := w) w.heap.size rfl (.tmp 116) (.tmp 117) rfl _ _ [_] rfl rfl HO.out hB.out (by exact hB.out.size) (by have h4 : (ByteArray.mk #[92, 117, 48, 48]).size = 4 := rfl; have h5 : (ByteArray.mk #[92, 117, 50, 48, 50]).size = 5 := rfl; (try simp only [List.length_append, List.length_cons, List.length_nil, bytesOf_length, h4, h5]); omega) ?_; intro v1 w1 n0 n1 _ _; clear HO hB; have HO := Lib.hid n0; have hB := Lib.hid n1; clear n0 n1) | (at_builtin; refine append_str (w0 := w) w.heap.size rfl (.tmp 27) (.tmp 33) rfl _ _ _ rfl rfl HO.out hB.out (by exact hB.out.size) (by have h4 : (ByteArray.mk #[92, 117, 48, 48]).size = 4 := rfl; have h5 : (ByteArray.mk #[92, 117, 50, 48, 50]).size = 5 := rfl; (try simp only [List.length_append, List.length_cons, List.length_nil, bytesOf_length, h4, h5]); omega) ?_; intro v1 w1 n0 n1 _; clear HO hB; have HO := Lib.hid n0; have hB := Lib.hid n1; clear n0 n1) | (at_builtin; refine append_str (w0 := w) w.heap.size rfl (.tmp 92) (.tmp 95) rfl _ _ _ rfl rfl HO.out hB.out (by exact hB.out.size) (by have h4 : (ByteArray.mk #[92, 117, 48, 48]).size = 4 := rfl; have h5 : (ByteArray.mk #[92, 117, 50, 48, 50]).size = 5 := rfl; (try simp only [List.length_append, List.length_cons, List.length_nil, bytesOf_length, h4, h5]); omega) ?_; intro v1 w1 n0 n1 _; clear HO hB; have HO := Lib.hid n0; have hB := Lib.hid n1; clear n0 n1) | (at_builtin; refine append_str (w0 := w) w.heap.size rfl (.tmp 90) (.const (.string ⟨#[92, 117, 48, 48]⟩)) rfl _ _ _ rfl rfl HO.out hB.out (by exact hB.out.size) (by have h4 : (ByteArray.mk #[92, 117, 48, 48]).size = 4 := rfl; rw [h4]; (try simp only [List.length_append, List.length_cons, List.length_nil]); omega) ?_; intro v1 w1 n0 n1 _; clear HO hB; have HO := Lib.hid n0; have hB := Lib.hid n1; clear n0 n1) | (at_builtin; refine append_str (w0 := w) w.heap.size rfl (.tmp 104) (.const (.string ⟨#[92, 117, 50, 48, 50]⟩)) rfl _ _ _ rfl rfl HO.out hB.out (by exact hB.out.size) (by have h4 : (ByteArray.mk #[92, 117, 50, 48, 50]).size = 5 := rfl; rw [h4]; (try simp only [List.length_append, List.length_cons, List.length_nil]); omega) ?_; intro v1 w1 n0 n1 _; clear HO hB; have HO := Lib.hid n0; have hB := Lib.hid n1; clear n0 n1))
          go_roundw
          case rel =>
            refine ⟨k + N, f, _, by omega, by omega, by first | go_num | (congr 1; omega), hU, HO.out, ?_, ?_, hB.out⟩
            · show _ = _
              rw [← hX.out, hstep.out]
              simp [List.append_assoc]
            · simp only [List.length_append, List.length_cons, List.length_nil, bytesOf_length]; omega
          case measure => simp [intOf]; omega

    · have hfin : Hid (xs ++ [34] = extStrF s esc) := by
        show _ = _
        have hX2 := hX.out
        have h4 : extStrL s esc f k = [] := by
          cases f with
          | zero => rfl
          | succ f => unfold extStrL; rw [if_neg hlt]
        rw [h4, List.append_nil] at hX2
        rw [hX2]; rfl
      go_wp2_with (at_builtin; refine append_lit (w0 := w) w.heap.size rfl (.tmp 116) (.tmp 117) rfl _ _ [_] rfl rfl HO.out hB.out (by exact hB.out.size) (by have h4 : (ByteArray.mk #[92, 117, 48, 48]).size = 4 := rfl; have h5 : (ByteArray.mk #[92, 117, 50, 48, 50]).size = 5 := rfl; (try simp only [List.length_append, List.length_cons, List.length_nil, bytesOf_length, h4, h5]); omega) ?_; intro v1 w1 n0 n1 _ _; clear HO hB; have HO := Lib.hid n0; have hB := Lib.hid n1; clear n0 n1; have ho := own_str HO.out)
      go_ret
      exact ⟨_, rfl, ⟨by rw [hfin.out]⟩, hB.out⟩
end Go.Proofs.YtlgmlfhalgnppaaGreatDoor
/-! The bytes of a string of JSON between its quotes, and of blanks. -/
set_option linter.unusedSimpArgs false
set_option linter.unusedVariables false
namespace Go.Proofs.YtlgmlfhalgnppaaGreatDoor
open Go.RowKit
open Go.Proofs.YtlgmlfhalgnppaaGreatDoorW.PrintWords hiding bt bt_at bt_range

/-- The value of a hexadecimal digit, -1 of what is none. -/
def hv (x : Int) : Int := if 48 ≤ x ∧ x ≤ 57 then x - 48 else if 97 ≤ x ∧ x ≤ 102 then x - 87 else if 65 ≤ x ∧ x ≤ 70 then x - 55 else -1
/-- The letters behind a backslash that stand for themselves or for a control character. -/
def escB (x : Int) : Bool := x == 34 || x == 92 || x == 47 || x == 98 || x == 102 || x == 110 || x == 114 || x == 116
def u4 (a b c d : Int) : Int := ((hv a * 16 + hv b) * 16 + hv c) * 16 + hv d
def hx (x : Int) : Prop := 0 ≤ hv x
/-- Bytes that may stand between the quotes of a string of JSON. -/
inductive JB : List Int → Prop
  | nil : JB []
  | byte (x : Int) (l : List Int) : 0 ≤ x → x ≤ 255 → x ≠ 34 → x ≠ 92 → JB l → JB (x :: l)
  | esc (x : Int) (l : List Int) : escB x = true → JB l → JB (92 :: x :: l)
  | uni (a b c d : Int) (l : List Int) : hx a → hx b → hx c → hx d → (u4 a b c d < 55296 ∨ 57344 ≤ u4 a b c d) → JB l → JB (92 :: 117 :: a :: b :: c :: d :: l)
  | pair (a b c d e f g h : Int) (l : List Int) : hx a → hx b → hx c → hx d → 55296 ≤ u4 a b c d → u4 a b c d < 57344 → hx e → hx f → hx g → hx h → JB l →
      JB (92 :: 117 :: a :: b :: c :: d :: 92 :: 117 :: e :: f :: g :: h :: l)
theorem JB.append {a b : List Int} (h : JB a) (k : JB b) : JB (a ++ b) := by
  induction h with
  | nil => exact k
  | byte x l h1 h2 h3 h4 _ ih => exact JB.byte x _ h1 h2 h3 h4 ih
  | esc x l h1 _ ih => exact JB.esc x _ h1 ih
  | uni a b c d l h1 h2 h3 h4 h5 _ ih => exact JB.uni a b c d _ h1 h2 h3 h4 h5 ih
  | pair a b c d e f g h l h1 h2 h3 h4 h5 h6 h7 h8 h9 h10 _ ih => exact JB.pair a b c d e f g h _ h1 h2 h3 h4 h5 h6 h7 h8 h9 h10 ih
theorem JB.raw : ∀ l : List Int, (∀ x ∈ l, 0 ≤ x ∧ x ≤ 255 ∧ x ≠ 34 ∧ x ≠ 92) → JB l
  | [], _ => JB.nil
  | x :: l, h => by
    obtain ⟨h1, h2, h3, h4⟩ := h x (List.mem_cons_self ..)
    exact JB.byte x l h1 h2 h3 h4 (JB.raw l (fun y hy => h y (List.mem_cons_of_mem _ hy)))
/-- A digit in one of two alphabets. -/
def hexu (up : Bool) (n : Int) : Int := if n < 10 then 48 + n else if up then 55 + n else 87 + n
theorem hv_hexu (up : Bool) (n : Int) (h0 : 0 ≤ n) (h1 : n < 16) : hv (hexu up n) = n := by
  unfold hv hexu
  cases up <;> simp <;> (repeat' split) <;> omega
theorem hexu_range (up : Bool) (n : Int) (h0 : 0 ≤ n) (h1 : n < 16) : 0 ≤ hexu up n ∧ hexu up n ≤ 255 := by
  unfold hexu
  cases up <;> simp <;> (repeat' split) <;> omega
/-- The six bytes of a code unit. -/
def unitL (up : Bool) (c : Int) : List Int := [92, 117, hexu up (c / 4096 % 16), hexu up (c / 256 % 16), hexu up (c / 16 % 16), hexu up (c % 16)]
theorem unit_u4 (up : Bool) (c : Int) (h0 : 0 ≤ c) (h1 : c < 65536) : u4 (hexu up (c / 4096 % 16)) (hexu up (c / 256 % 16)) (hexu up (c / 16 % 16)) (hexu up (c % 16)) = c := by
  unfold u4
  rw [hv_hexu _ _ (by omega) (by omega), hv_hexu _ _ (by omega) (by omega), hv_hexu _ _ (by omega) (by omega), hv_hexu _ _ (by omega) (by omega)]
  omega
theorem hx_hexu (up : Bool) (n : Int) (h0 : 0 ≤ n) (h1 : n < 16) : hx (hexu up n) := by
  unfold hx
  rw [hv_hexu _ _ h0 h1]
  exact h0
theorem JB.unit (up : Bool) (c : Int) (h0 : 0 ≤ c) (h1 : c < 65536) (hs : c < 55296 ∨ 57344 ≤ c) : JB (unitL up c) :=
  JB.uni _ _ _ _ [] (hx_hexu _ _ (by omega) (by omega)) (hx_hexu _ _ (by omega) (by omega)) (hx_hexu _ _ (by omega) (by omega)) (hx_hexu _ _ (by omega) (by omega)) (by rw [unit_u4 up c h0 h1]; exact hs) JB.nil
theorem JB.units (up up' : Bool) (c d : Int) (h0 : 55296 ≤ c) (h1 : c < 57344) : JB (unitL up c ++ unitL up' d) :=
  JB.pair _ _ _ _ _ _ _ _ [] (hx_hexu _ _ (by omega) (by omega)) (hx_hexu _ _ (by omega) (by omega)) (hx_hexu _ _ (by omega) (by omega)) (hx_hexu _ _ (by omega) (by omega)) (by rw [unit_u4 up c (by omega) (by omega)]; exact h0) (by rw [unit_u4 up c (by omega) (by omega)]; exact h1)
    (hx_hexu _ _ (by omega) (by omega)) (hx_hexu _ _ (by omega) (by omega)) (hx_hexu _ _ (by omega) (by omega)) (hx_hexu _ _ (by omega) (by omega)) JB.nil
theorem unitL_range (up : Bool) (c : Int) : ∀ x ∈ unitL up c, 0 ≤ x ∧ x ≤ 255 := by
  intro x hx
  simp only [unitL, List.mem_cons, List.not_mem_nil, or_false] at hx
  rcases hx with rfl | rfl | rfl | rfl | rfl | rfl
  · omega
  · omega
  all_goals exact hexu_range _ _ (by omega) (by omega)
theorem unitL_length (up : Bool) (c : Int) : (unitL up c).length = 6 := rfl
/-- Blanks. -/
def Bl (l : List Int) : Prop := ∀ x ∈ l, x = 32 ∨ x = 9 ∨ x = 10 ∨ x = 13
theorem Bl.nil : Bl [] := fun x h => absurd h (List.not_mem_nil)
theorem Bl.range {l : List Int} (h : Bl l) : ∀ x ∈ l, 0 ≤ x ∧ x ≤ 255 := fun x hx => by have := h x hx; omega
/-- All are bytes. -/
def By (l : List Int) : Prop := ∀ x ∈ l, 0 ≤ x ∧ x ≤ 255
theorem By.append {a b : List Int} (h : By a) (k : By b) : By (a ++ b) := fun x hx => by
  rcases List.mem_append.1 hx with h1 | h1
  · exact h x h1
  · exact k x h1
theorem escB_range {x : Int} (h : escB x = true) : 0 ≤ x ∧ x ≤ 255 := by
  simp only [escB, Bool.or_eq_true, beq_iff_eq] at h
  omega
theorem hx_range {x : Int} (h : hx x) : 0 ≤ x ∧ x ≤ 255 := by
  unfold hx hv at h
  (repeat' split at h) <;> omega
theorem JB.by {l : List Int} (h : JB l) : By l := by
  induction h with
  | nil => exact fun x h => absurd h (List.not_mem_nil)
  | byte x l h1 h2 h3 h4 _ ih => 
    intro y hy
    rcases List.mem_cons.1 hy with rfl | hy
    · exact ⟨h1, h2⟩
    · exact ih y hy
  | esc x l h1 _ ih =>
    intro y hy
    simp only [List.mem_cons] at hy
    rcases hy with rfl | rfl | hy
    · omega
    · exact escB_range h1
    · exact ih y hy
  | uni a b c d l h1 h2 h3 h4 h5 _ ih =>
    intro y hy
    simp only [List.mem_cons] at hy
    rcases hy with rfl | rfl | rfl | rfl | rfl | rfl | hy
    · omega
    · omega
    · exact hx_range h1
    · exact hx_range h2
    · exact hx_range h3
    · exact hx_range h4
    · exact ih y hy
  | pair a b c d e f g h l h1 h2 h3 h4 h5 h6 h7 h8 h9 h10 _ ih =>
    intro y hy
    simp only [List.mem_cons] at hy
    rcases hy with rfl | rfl | rfl | rfl | rfl | rfl | rfl | rfl | rfl | rfl | rfl | rfl | hy
    · omega
    · omega
    · exact hx_range h1
    · exact hx_range h2
    · exact hx_range h3
    · exact hx_range h4
    · omega
    · omega
    · exact hx_range h7
    · exact hx_range h8
    · exact hx_range h9
    · exact hx_range h10
    · exact ih y hy
theorem runeTail_raw {b : Nat → Int} {sz n : Nat} {m least : Int} (hn : 2 ≤ n) (h128 : 128 ≤ b 0) (h : 1 ≤ (runeTail b sz n m least).1) :
    ((runeTail b sz n m least).2 < 55296 ∨ 57344 ≤ (runeTail b sz n m least).2) ∧ ∀ j : Nat, (j : Int) < (runeTail b sz n m least).1 → 128 ≤ b j := by
  unfold runeTail at h ⊢
  by_cases h1 : sz < n
  · rw [if_pos h1] at h
    exact absurd h (by decide)
  · rw [if_neg h1] at h ⊢
    by_cases h2 : (List.range n).all (fun j => j == 0 || b j / 64 == 2) = true
    · rw [if_pos h2] at h ⊢
      by_cases h3 : accR b m n < least ∨ 1114111 < accR b m n ∨ (55296 ≤ accR b m n ∧ accR b m n < 57344)
      · rw [if_pos h3] at h
        exact absurd h (by decide)
      · rw [if_neg h3]
        refine ⟨by show accR b m n < _ ∨ _ ≤ accR b m n; omega, fun j hj => ?_⟩
        have hj : (j : Int) < (n : Int) := hj
        rw [List.all_eq_true] at h2
        have := h2 j (List.mem_range.2 (by omega))
        simp only [Bool.or_eq_true, beq_iff_eq] at this
        rcases this with rfl | h4
        · exact h128
        · omega
    · rw [if_neg h2] at h
      exact absurd h (by decide)
theorem runeF_raw (b : Nat → Int) (sz : Nat) (h : 1 ≤ (runeF b sz).1) :
    ((runeF b sz).2 < 55296 ∨ 57344 ≤ (runeF b sz).2) ∧ (((runeF b sz).1 = 1 ∧ (runeF b sz).2 = b 0) ∨ ∀ j : Nat, (j : Int) < (runeF b sz).1 → 128 ≤ b j) := by
  unfold runeF at h ⊢
  by_cases h0 : sz = 0
  · rw [if_pos h0] at h
    exact absurd h (by decide)
  rw [if_neg h0] at h ⊢
  by_cases h1 : b 0 < 128
  · rw [if_pos h1]
    exact ⟨Or.inl (by show b 0 < 55296; omega), Or.inl ⟨rfl, rfl⟩⟩
  rw [if_neg h1] at h ⊢
  by_cases h2 : 194 ≤ b 0 ∧ b 0 < 224
  · rw [if_pos h2] at h ⊢
    have := runeTail_raw (by omega) (by omega) h
    exact ⟨this.1, Or.inr this.2⟩
  rw [if_neg h2] at h ⊢
  by_cases h3 : 224 ≤ b 0 ∧ b 0 < 240
  · rw [if_pos h3] at h ⊢
    have := runeTail_raw (by omega) (by omega) h
    exact ⟨this.1, Or.inr this.2⟩
  rw [if_neg h3] at h ⊢
  by_cases h4 : 240 ≤ b 0 ∧ b 0 < 245
  · rw [if_pos h4] at h ⊢
    have := runeTail_raw (by omega) (by omega) h
    exact ⟨this.1, Or.inr this.2⟩
  rw [if_neg h4] at h
  exact absurd h (by decide)
end Go.Proofs.YtlgmlfhalgnppaaGreatDoor
