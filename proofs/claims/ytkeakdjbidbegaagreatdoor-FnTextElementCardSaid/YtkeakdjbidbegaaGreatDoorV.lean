/- A part of the proof that laws.FnTextElement returns true at every input: Alls, Allv, Laws, Lawt. -/
import Derived.Test.YtkeakdjbidbegaaGreatDoorU
import Derived.Test.YtkeakdjbidbegaaGreatDoorQa
import Derived.Test.YtkeakdjbidbegaaGreatDoorRa
import Derived.Test.YtkeakdjbidbegaaGreatDoorQ
import Derived.Test.YtkeakdjbidbegaaGreatDoorS
import Derived.Test.YtkeakdjbidbegaaGreatDoorSa
import Derived.Lib.OthersKept
set_option linter.unusedSimpArgs false
set_option linter.unusedVariables false
set_option maxRecDepth 100000
set_option maxHeartbeats 8000000
namespace Go.Proofs.YtkeakdjbidbegaaGreatDoor
open Go.RowKit
open Go.Proofs.YtkeakdjbidbegaaGreatDoorW.PrintWords
abbrev StrNOf1 (l : List Int) (k : Int) (b o m c : Nat) (w : World) : Prop := ∀ n : Int, n = -1 ∨ (1 ≤ n ∧ n ≤ 65535) → Calls Tryz.prog 36 #[.agg #[.int .u8 k, .slice (some ⟨b, o, none⟩) m c], .int .i64 n] w (StrN l n w)
abbrev ArrNOf (l : List Int) (b o m c : Nat) (w : World) : Prop := ∀ n : Int, n = -1 ∨ (1 ≤ n ∧ n ≤ 65535) → Calls Tryz.prog 38 #[.slice (some ⟨b, o, none⟩) m c, .int .i64 n] w (StrN l n w)
theorem docOf_length (body : List Int) : (docOf body).length = body.length + 5 := by unfold docOf; simp [leI_length]; omega
theorem known_mod {k : Int} (h : knownF k = true) : k % 256 = k ∧ 0 ≤ k := by
 rcases known_cases h with h | h | h | h | h | h | h | h | h | h | h | h | h | h | h | h | h | h | h | h | h <;> subst h <;> decide
theorem elemB_eq {d : Nat} {x : ByteArray × VT} (h : knownF x.2.kind = true) (rest : List Int) : elemB d x ++ rest = x.2.kind :: (bytesOf x.1 ++ 0 :: (VT.doc d x.2 ++ rest)) := by
 unfold elemB headB
 rw [(known_mod h).1]
 simp
theorem elemB_len (d : Nat) (x : ByteArray × VT) : (elemB d x).length = x.1.size + 2 + (VT.doc d x.2).length := by
 unfold elemB
 rw [List.length_append, headB_length]
theorem doc_leaf {d : Nat} {t : VT} (h3 : t.kind ≠ 3) (h4 : t.kind ≠ 4) : t.doc (d + 1) = leafB t := by
 show (if t.kind = 3 ∨ t.kind = 4 then _ else _) = _
 rw [if_neg (by omega)]
theorem doc_kids {d : Nat} {t : VT} (h : t.kind = 3 ∨ t.kind = 4) : t.doc (d + 1) = docOf ((t.kids.map (elemB d)).flatten) := by
 show (if t.kind = 3 ∨ t.kind = 4 then _ else _) = _
 rw [if_pos h]
 rfl
theorem long_doc {D : Int → List Int} {d : Nat} {t : VT} (h : t.kind = 3) : t.long D (d + 1) = preL 123 (fun x => memL x.1 (VT.long D d x.2)) t.kids t.kids.length ++ [125] := by
 rw [preL_all]
 show (if t.kind = 3 then _ else _) = _
 rw [if_pos h]
 rfl
theorem long_arr {D : Int → List Int} {d : Nat} {t : VT} (h : t.kind = 4) : t.long D (d + 1) = preL 91 (fun x => VT.long D d x.2) t.kids t.kids.length ++ [93] := by
 rw [preL_all]
 show (if t.kind = 3 then _ else if t.kind = 4 then _ else _) = _
 rw [if_neg (by omega), if_pos h]
 rfl
theorem lba_calls {body : List Int} {b o m c : Nat} {w : World} (hA : LeafAt (docOf body) b o m c w) (hml : m ≤ 800000000) : Calls Tryz.prog 137 #[.slice (some ⟨b, o, none⟩) m c] w (RdAns (.slice (some ⟨b, o, none⟩) m c) b (o + m) 0 (c - m) w) := by
 have hl := docOf_length body
 have hm := hA.len
 have h := readLengthBytes_calls b o m c m (body ++ [0]) w (by
  have h := hA.byt
  unfold docOf at h
  rwa [show ((body.length : Int) + 5) = (m : Int) by omega] at h) (by omega) (by rw [List.length_append, List.length_singleton]; omega) hA.cap hA.mx (by omega)
 rwa [Nat.sub_self] at h
theorem elem_of {D : Int → List Int} {d : Nat} {name : ByteArray} {t : VT} {b o m c : Nat} {w : World} (hok : t.Ok D (d + 1)) (hX : Own8 (t.long D (d + 1))) (hXl : (t.long D (d + 1)).length ≤ 80000000) (hN : NameOk name) (hA : LeafAt (elemB (d + 1) (name, t)) b o m c w) (hml : m ≤ 800000000)
  (hS : ∀ o' W, Below w.heap.size w W → LeafAt (t.doc (d + 1)) b o' (t.doc (d + 1)).length (c - (name.size + 2)) W → StrNOf1 (t.long D (d + 1)) t.kind b o' (t.doc (d + 1)).length (c - (name.size + 2)) W ∧ (t.kind = 4 → ArrNOf (t.long D (d + 1)) b o' (t.doc (d + 1)).length (c - (name.size + 2)) W))
  (n : Int) (hn : n = -1 ∨ (0 ≤ n ∧ n ≤ 65535)) : Calls Tryz.prog 16 #[.slice (some ⟨b, o, none⟩) m c, .int .i64 n] w (StrN (memL name (t.long D (d + 1))) n w) := by
 have O := hok.1
 obtain ⟨vb, hvb⟩ : ∃ vb, t.doc (d + 1) = vb := ⟨_, rfl⟩
 obtain ⟨L, hL⟩ : ∃ L, vb.length = L := ⟨_, rfl⟩
 obtain ⟨nl, hnl⟩ : ∃ nl, name.size = nl := ⟨_, rfl⟩
 obtain ⟨X, hXe⟩ : ∃ X, t.long D (d + 1) = X := ⟨_, rfl⟩
 have hm : m = nl + 2 + L := by have := hA.len; rw [elemB_len, hvb, hL, hnl] at this; exact this
 have hB : Byt w b o (t.kind :: (bytesOf name ++ 0 :: vb)) := by
  have h := hA.byt
  have e := elemB_eq (d := d + 1) (x := (name, t)) O.known []
  rw [List.append_nil, List.append_nil, hvb] at e
  rwa [e] at h
 have hc := hA.cap
 have hmx := hA.mx
 have hbw := hA.lt
 have hbl := bytesOf_length name
 obtain ⟨o', hco⟩ : ∃ o', (c = nl + 2 ∧ o' = o) ∨ (c ≠ nl + 2 ∧ o' = o + (nl + 2)) := by
  by_cases h : c = nl + 2
  ·exact ⟨o, .inl ⟨h, rfl⟩⟩
  ·exact ⟨_, .inr ⟨h, rfl⟩⟩
 have hvB : Byt w b o' vb := by
  rcases hco with ⟨h1, h2⟩ | ⟨h1, h2⟩
  ·have : vb = [] := List.eq_nil_of_length_eq_zero (by omega)
   rw [this]
   intro j hj
   cases hj
  ·rw [h2]
   have e : t.kind :: (bytesOf name ++ 0 :: vb) = (t.kind :: (bytesOf name ++ [0])) ++ vb := by simp
   rw [e] at hB
   have h := hB.right
   have e2 : (t.kind :: (bytesOf name ++ [(0 : Int)])).length = nl + 2 := by simp [hbl, hnl]
   rwa [e2] at h
 have hLA : ∀ W, Below w.heap.size w W → LeafAt vb b o' L (c - (nl + 2)) W := fun W hW => ⟨hvB.below hW hbw, Nat.lt_of_lt_of_le hbw hW.size, hL.symm, by omega, by omega⟩
 rw [hvb, hL, hnl, hXe] at hS
 rw [hXe] at hX hXl ⊢
 rw [hm] at hc hml ⊢
 have hV : ∀ W, Below w.heap.size w W → Calls Tryz.prog 108 #[.slice (some ⟨b, o', none⟩) L (c - (nl + 2)), .int .u8 t.kind] W (LenAns L W) := fun W hW => by
  have h := vlen_all hok (b := b) (o := o') (m := L) (c := c - (nl + 2)) (w := W) [] (by rw [hvb]; exact ((hLA W hW).byt).nil_right) (by rw [hvb, hL]; rfl) (by omega) (by omega) (by omega)
  rwa [hvb, hL] at h
 have hSV : ∀ W, Below w.heap.size w W → Calls Tryz.prog 35 #[.agg #[.int .u8 t.kind, .slice (some ⟨b, o', none⟩) L (c - (nl + 2))]] W fun e w' => (∃ s, e = .returned (.tuple #[.string s, .bool (t.kind == 2)])) ∧ Below W.heap.size W w' := fun W hW => by
  by_cases k2 : t.kind = 2
  ·have e : vb = txtB t.text := by rw [← hvb, doc_leaf (by omega) (by omega)]; unfold leafB; simp only [k2]; rfl
   have hl := txtB_length t.text
   have h := StringValueOK_ok (V := .string t.text) (v := .slice (some ⟨b, o', none⟩) L (c - (nl + 2))) (w := W) fun W2 h2 => ReadString_rd (readstring_calls b o' L (c - (nl + 2)) t.text [] W2 (by
    have h3 := (hLA W2 (hW.trans (h2.mono hW.size))).byt
    rw [e] at h3
    exact h3.nil_right) O.text.1 (by rw [← hL, e, hl]; rfl) (by omega) (by omega) (by omega))
   rw [k2]
   exact h.mono fun e w' h => ⟨⟨_, h.1⟩, h.2⟩
  ·have hf : (t.kind == 2) = false := beq_eq_false_iff_ne.2 k2
   rw [hf]
   exact (StringValueOK_no t.kind _ W k2).mono fun e w' h => ⟨⟨_, h.1⟩, h.2⟩
 have hAO : ∀ W, Below w.heap.size w W → Calls Tryz.prog 37 #[.agg #[.int .u8 t.kind, .slice (some ⟨b, o', none⟩) L (c - (nl + 2))]] W fun e w' => (∃ v, e = .returned (.tuple #[v, .bool (t.kind == 4)]) ∧ (t.kind = 4 → v = .slice (some ⟨b, o', none⟩) L (c - (nl + 2)))) ∧ Below W.heap.size W w' := fun W hW => by
  by_cases k4 : t.kind = 4
  ·have h := ArrayOK_ok (V := .slice (some ⟨b, o', none⟩) L (c - (nl + 2))) (v := .slice (some ⟨b, o', none⟩) L (c - (nl + 2))) (w := W) fun W2 h2 => ReadArray_rd (lba_calls (by
    have h3 := hLA W2 (hW.trans (h2.mono hW.size))
    rw [← hvb, doc_kids (.inr k4)] at h3
    exact h3) (by omega))
   rw [k4]
   exact h.mono fun e w' h => ⟨⟨_, h.1, fun _ => rfl⟩, h.2⟩
  ·have hf : (t.kind == 4) = false := beq_eq_false_iff_ne.2 k4
   rw [hf]
   exact (ArrayOK_no t.kind _ W k4).mono fun e w' h => ⟨⟨_, h.1, fun h => absurd h k4⟩, h.2⟩
 have hSS : ∀ W, Below w.heap.size w W → ∀ n' : Int, n' = -1 ∨ (1 ≤ n' ∧ n' ≤ 65535) → Calls Tryz.prog 36 #[.agg #[.int .u8 t.kind, .slice (some ⟨b, o', none⟩) L (c - (nl + 2))], .int .i64 n'] W (StrN X n' W) := fun W hW n' hn' => (hS o' W hW (hLA W hW)).1 n' hn'
 have hAS : t.kind = 4 → ∀ W, Below w.heap.size w W → ∀ n' : Int, n' = -1 ∨ (1 ≤ n' ∧ n' ≤ 65535) → Calls Tryz.prog 38 #[.slice (some ⟨b, o', none⟩) L (c - (nl + 2)), .int .i64 n'] W (StrN X n' W) := fun k4 W hW n' hn' => (hS o' W hW (hLA W hW)).2 k4 n' hn'
 have hlL : L ≤ 800000000 := by omega
 rcases hn with rfl | ⟨hn0, hn1⟩
 ·exact ElemN_all hB hL hbw hN hnl hc hmx hlL hX (by omega) hco hV hSV hAO hSS hAS
 ·obtain ⟨N, rfl⟩ : ∃ N : Nat, n = N := ⟨n.toNat, by omega⟩
  rcases (by omega : N = 0 ∨ N = 1 ∨ (2 ≤ N ∧ N ≤ nl) ∨ (nl < N ∧ N < nl + 4 ∧ 2 ≤ N) ∨ N = nl + 4 ∨ nl + 4 < N) with rfl | rfl | ⟨h1, h2⟩ | ⟨h1, h2, _⟩ | h1 | h1
  ·exact ElemN_0 (X := X) hB hL hbw hN hnl hc hmx hlL
  ·exact ElemN_1 (X := X) hB hL hbw hN hnl hc hmx hlL
  ·exact ElemN_short (X := X) hB hL hbw hN hnl hc hmx hlL N h1 h2
  ·exact ElemN_mid (X := X) hB hL hbw hN hnl hc hmx hlL N (N - (nl + 1)) (by omega) (by omega)
  ·exact ElemN_full (X := X) hB hL hbw hN hnl hc hmx hlL hX N h1
  ·exact ElemN_long hB hL hbw hN hnl hc hmx hlL hX (by omega) hco hV hSV hAO hSS hAS N (N - (nl + 4)) (by omega) (by omega) (by omega) (by omega)
structure KidsAt (d : Nat) (kids : List (ByteArray × VT)) (S b o c : Nat) (w : World) : Prop where
 lt : b < w.heap.size
 size : ((kids.map (elemB d)).flatten).length = S
 cap : S + 5 ≤ c
 mx : c ≤ maxLen
 small : S ≤ 799999000
 all : Byt w b (o + 4) ((kids.map (elemB d)).flatten ++ [0])
 len : Byt w b o (leI 4 ((S : Int) + 5) ++ ((kids.map (elemB d)).flatten ++ [0]))
theorem KidsAt.below {d : Nat} {kids : List (ByteArray × VT)} {S b o c : Nat} {w w' : World} (h : KidsAt d kids S b o c w) (k : Below w.heap.size w w') : KidsAt d kids S b o c w' :=
 ⟨Nat.lt_of_lt_of_le h.lt k.size, h.size, h.cap, h.mx, h.small, h.all.below k h.lt, h.len.below k h.lt⟩
theorem KidsAt.of {d : Nat} {kids : List (ByteArray × VT)} {b o m c : Nat} {w : World} (h : LeafAt (docOf ((kids.map (elemB d)).flatten)) b o m c w) (hs : m ≤ 799999000) : KidsAt d kids ((kids.map (elemB d)).flatten).length b o c w := by
 have hl := docOf_length ((kids.map (elemB d)).flatten)
 have hm := h.len
 have hc := h.cap
 have hb := h.byt
 unfold docOf at hb
 have h4 := hb.right
 rw [leI_length] at h4
 exact ⟨h.lt, rfl, by omega, h.mx, by omega, h4, hb⟩
theorem KidsAt.kid {d : Nat} {kids : List (ByteArray × VT)} {S b o c : Nat} {w : World} (h : KidsAt d kids S b o c w) {k : Nat} (hk : k < kids.length) : ∃ r, Byt w b (o + (4 + posL (elemB d) kids k)) (elemB d (kidAt kids k) ++ (r ++ [0])) ∧ S = posL (elemB d) kids k + (elemB d (kidAt kids k)).length + r.length := by
 have e := flat_split (elemB d) kids k hk
 refine ⟨((kids.drop (k + 1)).map (elemB d)).flatten, ?_, ?_⟩
 ·have h1 := h.all
  rw [e, List.append_assoc] at h1
  have h2 := h1.right
  rw [show o + 4 + ((List.map (elemB d) (List.take k kids)).flatten).length = o + (4 + posL (elemB d) kids k) by unfold posL; omega, List.append_assoc] at h2
  exact h2
 ·have h1 := h.size
  rw [e, List.length_append, List.length_append] at h1
  unfold posL
  omega
theorem posL_succ (f : ByteArray × VT → List Int) (l : List (ByteArray × VT)) (k : Nat) (hk : k < l.length) : posL f l (k + 1) = posL f l k + (f (kidAt l k)).length := by
 unfold posL
 rw [take_map_succ f l k hk]
 simp
theorem KidsAt.rl {d : Nat} {kids : List (ByteArray × VT)} {S b o c : Nat} {w : World} (h : KidsAt d kids S b o c w) : Calls Tryz.prog 91 #[.slice (some ⟨b, o, none⟩) (S + 5) c] w (RdAns (.int .i32 ((S + 5 : Nat) : Int)) b (o + 4) (S + 1) (c - 4) w) := by
 have hs := h.size
 have hsm := h.small
 have hl : ((kids.map (elemB d)).flatten ++ [(0 : Int)]).length = S + 1 := by rw [List.length_append, List.length_singleton, hs]
 have hr := ReadLength_calls b o (S + 5) c ((S : Int) + 5) ((kids.map (elemB d)).flatten ++ [0]) w h.len (by omega) (by omega) h.cap h.mx
 refine hr.mono ?_
 rintro e w' ⟨o', h1, h2, h3⟩
 refine ⟨some ⟨b, o', none⟩, ?_, ⟨o', rfl, by omega⟩, h3⟩
 rw [h1, hl]
 rfl
theorem KidsAt.read {D : Int → List Int} {d : Nat} {kids : List (ByteArray × VT)} {S b o c : Nat} {w : World} (h : KidsAt (d + 1) kids S b o c w) {k : Nat} (hk : k < kids.length) (hN : NameOk (kidAt kids k).1) (hok : (kidAt kids k).2.Ok D (d + 1)) :
  Calls Tryz.prog 92 #[.slice (some ⟨b, o + (4 + posL (elemB (d + 1)) kids k), none⟩) (S + 1 - posL (elemB (d + 1)) kids k) (c - (4 + posL (elemB (d + 1)) kids k))] w fun e w' => e = .returned (.tuple #[.slice (some ⟨b, o + (4 + posL (elemB (d + 1)) kids k), none⟩) ((elemB (d + 1) (kidAt kids k)).length) (c - (4 + posL (elemB (d + 1)) kids k)), .slice (some ⟨b, o + (4 + posL (elemB (d + 1)) kids (k + 1)), none⟩) (S + 1 - posL (elemB (d + 1)) kids (k + 1)) (c - (4 + posL (elemB (d + 1)) kids (k + 1))), .bool true]) ∧ Below w.heap.size w w' := by
 obtain ⟨r, h1, h2⟩ := h.kid hk
 have hps := posL_succ (elemB (d + 1)) kids k hk
 obtain ⟨⟨name, t⟩, hx⟩ : ∃ x, kidAt kids k = x := ⟨_, rfl⟩
 obtain ⟨P, hP⟩ : ∃ P, posL (elemB (d + 1)) kids k = P := ⟨_, rfl⟩
 rw [hx, hP] at h1 h2 hps
 rw [hx] at hN hok ⊢
 have hok : t.Ok D (d + 1) := hok
 have hN : NameOk name := hN
 rw [hps, hP]
 have hle : (elemB (d + 1) (name, t)).length = name.size + 2 + (VT.doc (d + 1) t).length := elemB_len (d + 1) (name, t)
 have hcap := h.cap
 have hmx := h.mx
 have hsm := h.small
 have heq : elemB (d + 1) (name, t) ++ (r ++ [0]) = t.kind :: (bytesOf name ++ 0 :: (VT.doc (d + 1) t ++ (r ++ [0]))) := elemB_eq (d := d + 1) (x := (name, t)) hok.1.known (r ++ [0])
 rw [heq] at h1
 have hbl := bytesOf_length name
 have hB0 : Byt w b (o + (4 + P)) (t.kind :: (bytesOf name ++ [0])) := by
  have e : (t.kind :: (bytesOf name ++ 0 :: (VT.doc (d + 1) t ++ (r ++ [0]))) : List Int) = (t.kind :: (bytesOf name ++ [0])) ++ (VT.doc (d + 1) t ++ (r ++ [0])) := by simp
  rw [e] at h1
  exact h1.left
 have hBv : Byt w b (o + (4 + P) + (name.size + 2)) (VT.doc (d + 1) t ++ (r ++ [0])) := by
  have e : (t.kind :: (bytesOf name ++ 0 :: (VT.doc (d + 1) t ++ (r ++ [0]))) : List Int) = (t.kind :: (bytesOf name ++ [0])) ++ (VT.doc (d + 1) t ++ (r ++ [0])) := by simp
  rw [e] at h1
  have h3 := h1.right
  rwa [show (t.kind :: (bytesOf name ++ [(0 : Int)])).length = name.size + 2 by simp [hbl]] at h3
 have hv := vlen_all hok (b := b) (o := o + (4 + P) + (name.size + 2)) (m := S + 1 - P - (name.size + 2)) (c := c - (4 + P) - (name.size + 2)) (w := w) (r ++ [0]) hBv (by rw [List.length_append, List.length_singleton]; omega) (by omega) (by omega) (by omega)
 have hx1 : name.size + 2 + (VT.doc (d + 1) t).length < S + 1 - P := by omega
 have hx2 : S + 1 - P ≤ c - (4 + P) := by omega
 have hx3 : c - (4 + P) ≤ maxLen := by omega
 have hx4 : S + 1 - P ≤ 900000000 := by omega
 have hr := ReadElement_calls b (o + (4 + P)) (S + 1 - P) (c - (4 + P)) name.size (VT.doc (d + 1) t).length t.kind name w hB0 h.lt hN.2.2.2.1 rfl hN.2.1 hx1 hx2 hx3 hx4 hv
 refine hr.mono fun e w' ⟨he, hb⟩ => ⟨?_, hb⟩
 rw [he, hle]
 rw [show o + (4 + (P + (name.size + 2 + (VT.doc (d + 1) t).length))) = o + (4 + P) + (name.size + 2 + (VT.doc (d + 1) t).length) by omega, show S + 1 - (P + (name.size + 2 + (VT.doc (d + 1) t).length)) = S + 1 - P - (name.size + 2 + (VT.doc (d + 1) t).length) by omega, show c - (4 + (P + (name.size + 2 + (VT.doc (d + 1) t).length))) = c - (4 + P) - (name.size + 2 + (VT.doc (d + 1) t).length) by omega]
theorem KidsAt.elem {d : Nat} {kids : List (ByteArray × VT)} {S b o c : Nat} {w : World} (h : KidsAt d kids S b o c w) {k : Nat} (hk : k < kids.length) : LeafAt (elemB d (kidAt kids k)) b (o + (4 + posL (elemB d) kids k)) (elemB d (kidAt kids k)).length (c - (4 + posL (elemB d) kids k)) w := by
 obtain ⟨r, h1, h2⟩ := h.kid hk
 have hcap := h.cap
 have hmx := h.mx
 exact ⟨h1.left, h.lt, rfl, by omega, by omega⟩
theorem kid_facts {D : Int → List Int} {d : Nat} {t : VT} (h34 : t.kind = 3 ∨ t.kind = 4) (hok : t.Ok D (d + 1)) (hr : t.Rng (d + 1)) {k : Nat} (hk : k < t.kids.length) : NameOk (kidAt t.kids k).1 ∧ (kidAt t.kids k).2.Ok D d ∧ (kidAt t.kids k).2.Rng d ∧ (kidAt t.kids k).2.cnt d < t.cnt (d + 1) := by
 have h := hok.2.2 k hk h34
 rw [kidAt_lt hk]
 exact ⟨h.1, h.2, hr.2 k hk, cnt_kid hk⟩
theorem val_all {D : Int → List Int} {w0 : World} (E : PEnv D w0) : ∀ (d : Nat) (t : VT), t.Ok D d → t.Rng d → t.cnt d ≤ 400 → ∀ (b o m c : Nat) (w : World), Below w0.heap.size w0 w → LeafAt (t.doc d) b o m c w →
  StrNOf1 (t.long D d) t.kind b o m c w ∧ (t.kind = 4 → ArrNOf (t.long D d) b o m c w) := by
 intro d
 induction d with
 | zero => intro t h; exact h.elim
 | succ d ih =>
  intro t hok hrng hcnt b o m c w hw hA
  have hdl := doc_length (d + 1) t hok
  have hll := long_length E.dbl.len (d + 1) t hok hrng
  by_cases h34 : t.kind = 3 ∨ t.kind = 4
  ·
   have hA0 := hA
   rw [doc_kids h34] at hA
   have hm0 := hA.len
   have hdk := doc_kids (d := d) h34
   have hKA := KidsAt.of hA (by rw [hm0, ← hdk]; omega)
   have hmS : m = ((t.kids.map (elemB d)).flatten).length + 5 := by rw [hm0, docOf_length]
   obtain ⟨S, hS⟩ : ∃ S, ((t.kids.map (elemB d)).flatten).length = S := ⟨_, rfl⟩
   rw [hS] at hKA hmS
   subst hmS
   have hKF := fun (k : Nat) (hk : k < t.kids.length) => kid_facts h34 hok hrng hk
   have hOwn : ∀ k, k < t.kids.length → Own8 ((kidAt t.kids k).2.long D d) := fun k hk => long_own E.dbl.low d _ (hKF k hk).2.1 ((hKF k hk).2.2.1.bys)
   have hcapc := hKA.cap
   have hmxc := hKA.mx
   have hRead : ∀ k, k < t.kids.length → ∀ W, Below w.heap.size w W → Calls Tryz.prog 92 #[.slice (some ⟨b, o + (4 + posL (elemB d) t.kids k), none⟩) (S + 1 - posL (elemB d) t.kids k) (c - (4 + posL (elemB d) t.kids k))] W fun e w' => e = .returned (.tuple #[.slice (some ⟨b, o + (4 + posL (elemB d) t.kids k), none⟩) ((elemB d (kidAt t.kids k)).length) (c - (4 + posL (elemB d) t.kids k)), .slice (some ⟨b, o + (4 + posL (elemB d) t.kids (k + 1)), none⟩) (S + 1 - posL (elemB d) t.kids (k + 1)) (c - (4 + posL (elemB d) t.kids (k + 1))), .bool true]) ∧ Below W.heap.size W w' := fun k hk W hW => by
    cases d with
    | zero => exact (hKF k hk).2.1.elim
    | succ d => exact (hKA.below hW).read hk (hKF k hk).1 (hKF k hk).2.1
   have hpos : ∀ k, k < t.kids.length → 1 ≤ (elemB d (kidAt t.kids k)).length := fun k hk => by rw [elemB_len]; omega
   have hOKd : ∀ W, Below w.heap.size w W → Calls Tryz.prog 137 #[.slice (some ⟨b, o, none⟩) (S + 5) c] W (RdAns (.slice (some ⟨b, o, none⟩) (S + 5) c) b (o + (S + 5)) 0 (c - (S + 5)) W) := fun W hW => lba_calls (hA.below hW) (by have := hKA.small; omega)
   rcases h34 with h3 | h4
   ·have e := long_doc (D := D) (d := d) h3
    rw [e] at hll ⊢
    have HP := parts_of (o1 := 123) (c1 := 125) t.kids (elemB d) (fun x => memL x.1 (VT.long D d x.2)) (by omega) (by omega) hpos (fun k hk => mem_own (hKF k hk).1.2.2.1 (hOwn k hk).u8) (by rw [hS]; have := hKA.small; omega) (by rw [List.length_append] at hll; omega)
    rw [hS] at HP
    have hStr : ∀ k, k < t.kids.length → ∀ W, Below w.heap.size w W → ∀ n', n' = -1 ∨ (1 ≤ n' ∧ n' ≤ 65535) → Calls Tryz.prog 16 #[.slice (some ⟨b, o + (4 + posL (elemB d) t.kids k), none⟩) ((elemB d (kidAt t.kids k)).length) (c - (4 + posL (elemB d) t.kids k)), .int .i64 n'] W (StrN (memL (kidAt t.kids k).1 (VT.long D d (kidAt t.kids k).2)) n' W) := fun k hk W hW n' hn' => by
     cases d with
     | zero => exact (hKF k hk).2.1.elim
     | succ d =>
      obtain ⟨f1, f2, f3, f4⟩ := hKF k hk
      have hkl := long_length E.dbl.len (d + 1) _ f2 f3
      have hEl := (hKA.below hW).elem hk
      have hsmall : (elemB (d + 1) (kidAt t.kids k)).length ≤ 800000000 := by
       obtain ⟨r, _, h2⟩ := hKA.kid hk
       have := hKA.small
       omega
      exact elem_of (name := (kidAt t.kids k).1) (t := (kidAt t.kids k).2) f2 (hOwn k hk) (by omega) f1 hEl hsmall (fun o' W2 h2 hL => ih _ f2 f3 (by omega) b o' _ _ W2 (hw.trans ((hW.trans (h2.mono hW.size)).mono hw.size)) hL) n' (by omega)
    refine ⟨?_, fun h => by omega⟩
    rw [h3]
    intro n hn
    refine StringN_3 (fun W hW => DocumentOK_ok fun W2 h2 => ReadDocument_rd (hOKd W2 (hW.trans (h2.mono hW.size)))) fun W hW => ?_
    have hRe : ∀ k, k < t.kids.length → ∀ W2, Below W.heap.size W W2 → _ := fun k hk W2 h2 => hRead k hk W2 (hW.trans (h2.mono hW.size))
    have hSt : ∀ k, k < t.kids.length → ∀ W2, Below W.heap.size W W2 → _ := fun k hk W2 h2 => hStr k hk W2 (hW.trans (h2.mono hW.size))
    rcases hn with rfl | ⟨hn1, hn2⟩
    ·exact Dsn_all o c t.kids.length S _ _ _ _ b W HP hcapc hmxc (hKA.below hW).lt (hKA.below hW).rl hRe hSt
    ·obtain ⟨N, rfl⟩ : ∃ N : Nat, n = N := ⟨n.toNat, by omega⟩
     exact Dsn_cut o c t.kids.length S _ _ _ _ b W HP hcapc hmxc (hKA.below hW).lt (hKA.below hW).rl hRe hSt N (by omega) (by omega)
   ·have e := long_arr (D := D) (d := d) h4
    rw [e] at hll ⊢
    have HP := parts_of (o1 := 91) (c1 := 93) t.kids (elemB d) (fun x => VT.long D d x.2) (by omega) (by omega) hpos hOwn (by rw [hS]; have := hKA.small; omega) (by rw [List.length_append] at hll; omega)
    rw [hS] at HP
    have hArr : ∀ W, Below w.heap.size w W → ArrNOf (preL 91 (fun x => VT.long D d x.2) t.kids t.kids.length ++ [93]) b o (S + 5) c W := by
     intro W hW n hn
     have hRe : ∀ k, k < t.kids.length → ∀ W2, Below W.heap.size W W2 → _ := fun k hk W2 h2 => hRead k hk W2 (hW.trans (h2.mono hW.size))
     have hVal : ∀ k, k < t.kids.length → ∀ W2, Below W.heap.size W W2 → Calls Tryz.prog 93 #[.slice (some ⟨b, o + (4 + posL (elemB d) t.kids k), none⟩) ((elemB d (kidAt t.kids k)).length) (c - (4 + posL (elemB d) t.kids k))] W2 fun e w' => e = .returned ((fun k => Value.agg #[.int .u8 (kidAt t.kids k).2.kind, .slice (some ⟨b, o + (4 + posL (elemB d) t.kids k) + ((kidAt t.kids k).1.size + 2), none⟩) ((VT.doc d (kidAt t.kids k).2).length) (c - (4 + posL (elemB d) t.kids k) - ((kidAt t.kids k).1.size + 2))]) k) ∧ Below W2.heap.size W2 w' := fun k hk W2 h2 => by
      cases d with
      | zero => exact (hKF k hk).2.1.elim
      | succ d =>
       obtain ⟨f1, f2, f3, f4⟩ := hKF k hk
       have hW2 := hW.trans (h2.mono hW.size)
       have hK2 := hKA.below hW2
       obtain ⟨r, q1, q2⟩ := hK2.kid hk
       have hle := elemB_len (d + 1) (kidAt t.kids k)
       have hsm := hKA.small
       rw [hle]
       have q3 := q1.left
       have heq := elemB_eq (d := d + 1) (x := kidAt t.kids k) f2.1.known []
       rw [List.append_nil, List.append_nil] at heq
       rw [heq] at q3
       refine EValue_calls b _ _ (kidAt t.kids k).1.size (VT.doc (d + 1) (kidAt t.kids k).2).length (kidAt t.kids k).2.kind (kidAt t.kids k).1 _ W2 q3 rfl hK2.lt f1.2.2.2.1 rfl f1.2.1 (by omega) (by omega) (by omega) fun W3 h3 => ?_
       have q4 := (q3.below h3 hK2.lt)
       have e2 : ((kidAt t.kids k).2.kind :: (bytesOf (kidAt t.kids k).1 ++ 0 :: VT.doc (d + 1) (kidAt t.kids k).2) : List Int) = ((kidAt t.kids k).2.kind :: (bytesOf (kidAt t.kids k).1 ++ [0])) ++ VT.doc (d + 1) (kidAt t.kids k).2 := by simp
       rw [e2] at q4
       have q5 := q4.right
       rw [show ((kidAt t.kids k).2.kind :: (bytesOf (kidAt t.kids k).1 ++ [(0 : Int)])).length = (kidAt t.kids k).1.size + 2 by simp [bytesOf_length]] at q5
       exact vlen_all f2 [] q5.nil_right (by rfl) (by omega) (by omega) (by omega)
     have hSt : ∀ k, k < t.kids.length → ∀ W2, Below W.heap.size W W2 → ∀ n', n' = -1 ∨ (1 ≤ n' ∧ n' ≤ 65535) → Calls Tryz.prog 36 #[(fun k => Value.agg #[.int .u8 (kidAt t.kids k).2.kind, .slice (some ⟨b, o + (4 + posL (elemB d) t.kids k) + ((kidAt t.kids k).1.size + 2), none⟩) ((VT.doc d (kidAt t.kids k).2).length) (c - (4 + posL (elemB d) t.kids k) - ((kidAt t.kids k).1.size + 2))]) k, .int .i64 n'] W2 (StrN (VT.long D d (kidAt t.kids k).2) n' W2) := fun k hk W2 h2 n' hn' => by
      obtain ⟨f1, f2, f3, f4⟩ := hKF k hk
      have hW2 := hW.trans (h2.mono hW.size)
      have hK2 := hKA.below hW2
      obtain ⟨r, q1, q2⟩ := hK2.kid hk
      have hle := elemB_len d (kidAt t.kids k)
      have hknown : knownF (kidAt t.kids k).2.kind = true := by
       cases d with
       | zero => exact f2.elim
       | succ d => exact f2.1.known
      have heq := elemB_eq (d := d) (x := kidAt t.kids k) hknown []
      rw [List.append_nil, List.append_nil] at heq
      have q3 := q1.left
      rw [heq] at q3
      have e2 : ((kidAt t.kids k).2.kind :: (bytesOf (kidAt t.kids k).1 ++ 0 :: VT.doc d (kidAt t.kids k).2) : List Int) = ((kidAt t.kids k).2.kind :: (bytesOf (kidAt t.kids k).1 ++ [0])) ++ VT.doc d (kidAt t.kids k).2 := by simp
      rw [e2] at q3
      have q5 := q3.right
      rw [show ((kidAt t.kids k).2.kind :: (bytesOf (kidAt t.kids k).1 ++ [(0 : Int)])).length = (kidAt t.kids k).1.size + 2 by simp [bytesOf_length]] at q5
      exact (ih _ f2 f3 (by omega) b _ _ _ W2 (hw.trans (hW2.mono hw.size)) ⟨q5, hK2.lt, rfl, by omega, by omega⟩).1 n' hn'
     rcases hn with rfl | ⟨hn1, hn2⟩
     ·exact Asn_all o c t.kids.length S _ _ _ _ _ b W HP hcapc hmxc (hKA.below hW).lt (hKA.below hW).rl hRe hVal hSt
     ·obtain ⟨N, rfl⟩ : ∃ N : Nat, n = N := ⟨n.toNat, by omega⟩
      exact Asn_cut o c t.kids.length S _ _ _ _ _ b W HP hcapc hmxc (hKA.below hW).lt (hKA.below hW).rl hRe hVal hSt N (by omega) (by omega)
    refine ⟨?_, fun _ => hArr w (Below.refl _ _)⟩
    rw [h4]
    intro n hn
    exact StringN_4 (fun W hW => ArrayOK_ok fun W2 h2 => ReadArray_rd (hOKd W2 (hW.trans (h2.mono hW.size)))) fun W hW => hArr W hW n hn
  ·have h3 : t.kind ≠ 3 := fun h => h34 (.inl h)
   have h4 : t.kind ≠ 4 := fun h => h34 (.inr h)
   have e : t.long D (d + 1) = leafL D t := by
    show (if t.kind = 3 then _ else if t.kind = 4 then _ else _) = _
    rw [if_neg h3, if_neg h4]
   rw [e]
   rw [doc_leaf h3 h4] at hA
   exact ⟨fun n hn => leaf_all E hok.1 hrng.1 h3 h4 hw hA n (by omega), fun h => absurd h h4⟩
theorem VT.In.less {w : World} : ∀ (d : Nat) (t : VT), t.In w (d + 1) → t.In w d := by
 intro d
 induction d with
 | zero => intro t _; trivial
 | succ d ih =>
  intro t h
  obtain ⟨h1, h2, h3, h4, h5, h6, h7, h8, h9, h10, h11, h12⟩ := h
  refine ⟨h1, h2, h3, h4, h5, h6, h7, h8, h9, h10, h11, fun hk => ?_⟩
  obtain ⟨ad, ha, hc⟩ := h12 hk
  refine ⟨ad, ha, fun i hi => ?_⟩
  obtain ⟨c1, c2, c3, c4⟩ := hc i hi
  exact ⟨c1, c2, c3, ih _ c4⟩
theorem VT.In.le {w : World} {d e : Nat} {t : VT} (h : t.In w d) (he : e ≤ d) : t.In w e := by
  induction d with
  | zero => obtain rfl : e = 0 := by omega
            exact h
  | succ d ih =>
    by_cases hh : e = d + 1
    · subst hh; exact h
    · exact ih h.less (by omega)
theorem VT.Fitx.few : ∀ {d : Nat} {t : VT}, t.Fitx d → t.Few d := by
 intro d
 induction d with
 | zero => intro t h; exact h
 | succ d ih => intro t h; exact ⟨h.2.1, fun i hi => ih (h.2.2 i hi).2⟩
theorem zzFits1_calls (t : VT) (w : World) (h1 : t.text.size ≤ maxLen) (h2 : t.more.size ≤ maxLen) (h3 : t.bs.length ≤ 9223372036854775807) (h4 : t.kids.length ≤ 9223372036854775807) :
  Calls Tryz.prog 4 #[t.val] w (AnsB (fun _ => True) w) := by
 obtain ⟨kind, text, more, n, bits, high, bA, bs, bc, kA, kids, kc⟩ := t
 simp only [VT.val, VT.kind, VT.text, VT.more, VT.n, VT.bits, VT.high, VT.bA, VT.bs, VT.bc, VT.kA, VT.kids, VT.kc] at *
 have g1 : text.size ≤ 9223372036854775807 := by unfold maxLen at h1; omega
 have g2 : more.size ≤ 9223372036854775807 := by unfold maxLen at h2; omega
 clear h1 h2
 by_cases k1 : 2147483647 < text.size
 ·have d1 : decide (2147483647 < (text.size : Int)) = true := by simp; omega
  go_enter Tryz.func4, Tryz.ntmps4
  go_wp2
  go_ret
  exact AnsB.of rfl trivial ((Below.refl _ _).alloc (Nat.le_refl _) _)
 have d1 : decide (2147483647 < (text.size : Int)) = false := by simp; omega
 by_cases k2 : 2147483647 < more.size
 ·have d2 : decide (2147483647 < (more.size : Int)) = true := by simp; omega
  go_enter Tryz.func4, Tryz.ntmps4
  go_wp2
  go_ret
  exact AnsB.of rfl trivial ((Below.refl _ _).alloc (Nat.le_refl _) _)
 have d2 : decide (2147483647 < (more.size : Int)) = false := by simp; omega
 by_cases k3 : 2147483647 < bs.length
 ·have d3 : decide (2147483647 < (bs.length : Int)) = true := by simp; omega
  go_enter Tryz.func4, Tryz.ntmps4
  go_wp2
  go_ret
  exact AnsB.of rfl trivial ((Below.refl _ _).alloc (Nat.le_refl _) _)
 have d3 : decide (2147483647 < (bs.length : Int)) = false := by simp; omega
 by_cases k4 : 2147483647 < kids.length
 ·have d4 : decide (2147483647 < (kids.length : Int)) = true := by simp; omega
  go_enter Tryz.func4, Tryz.ntmps4
  go_wp2
  go_ret
  exact AnsB.of rfl trivial ((Below.refl _ _).alloc (Nat.le_refl _) _)
 have d4 : decide (2147483647 < (kids.length : Int)) = false := by simp; omega
 go_enter Tryz.func4, Tryz.ntmps4
 go_wp2
 go_ret
 exact AnsB.of rfl trivial ((Below.refl _ _).alloc (Nat.le_refl _) _)
def VT.one (k : Int) (name : ByteArray) (t : VT) (B : Nat) : VT := .mk k ⟨#[]⟩ ⟨#[]⟩ 0 0 0 none [] 0 (some ⟨B, 0, none⟩) [(name, t)] 1
theorem VT.one_in {k : Int} {name : ByteArray} {t : VT} {B d : Nat} {w : World} (hk : 0 ≤ k ∧ k ≤ 255) (hn : name.size ≤ maxLen) (ht : t.In w d) (h0 : w.cell? ⟨B, 0, none⟩ = some (.string name))
  (h1 : ∀ j (hj : j < 8), w.cell? ⟨B, 1 + j, none⟩ = some (t.cells[j]'(by simpa [VT.cells] using hj))) : (VT.one k name t B).In w (d + 1) := by
 refine ⟨by show -9223372036854775808 ≤ k ∧ k ≤ _; omega, by show (-9223372036854775808 : Int) ≤ 0 ∧ (0 : Int) ≤ _; omega, by show (0 : Int) ≤ 0 ∧ (0 : Int) < _; omega, by show (0 : Int) ≤ 0 ∧ (0 : Int) < _; omega, by show 0 ≤ maxLen; omega, by show 0 ≤ maxLen; omega, ⟨rfl, by show 0 ≤ _; omega, fun h => absurd h (by show ¬ 0 < 0; omega)⟩, by show 0 ≤ 0; omega, fun x hx => absurd hx (List.not_mem_nil), by show 1 ≤ 1; omega, by show 1 ≤ maxLen; unfold maxLen; omega, fun _ => ⟨⟨B, 0, none⟩, rfl, fun i hi => ?_⟩⟩
 have hi0 : i = 0 := by have : i < 1 := hi; omega
 subst hi0
 refine ⟨?_, hn, fun j hj => ?_, ht⟩
 ·rw [add_plain]; exact h0
 ·rw [add_plain]
  have e1 : 9 * 0 + 1 + j = 1 + j := by omega
  rw [e1]
  exact h1 j hj
theorem DocRight_calls (e : Nat) (t : VT) (w : World) (hin : t.In w 200) (hf : t.Few e) :
  Calls Tryz.prog 20 #[t.val] w (AnsB (fun b => b = true → Right 200 t) w) := by
 have HI := Lib.hid hin
 have HF := Lib.hid hf
 clear hin hf
 have HD := Lib.hid (fun (W : World) (h : t.In W 200) => docRight_calls 200 e t W h HF.out (by omega))
 simp only [VT.val] at HD ⊢
 go_enter Tryz.func20, Tryz.ntmps20
 go_wp2_with fail
 refine (HD.out _ (HI.out.below ((Below.refl _ _).alloc (Nat.le_refl _) _))).mono ?_
 rintro e w1 ⟨b, rfl, hb, hw⟩
 have HB := Lib.hid hb
 clear hb
 go_wp2
 go_ret
 exact AnsB.of rfl HB.out (((Below.refl _ _).alloc (Nat.le_refl _) _).trans (hw.mono (by simp)))
def FitsP (t : VT) : Prop := t.Fitx 12 ∧ t.cnt 12 ≤ 300 ∧ Right 200 t
theorem extFits_calls (t : VT) (w : World) (hin : t.In w 200) :
  Calls Tryz.prog 11 #[t.val] w (AnsB (fun b => b = true → FitsP t) w) := by
 have HI := Lib.hid hin
 clear hin
 have HCn := Lib.hid (fun (W : World) (L : Nat) (hb : Below w.heap.size w W) (hL : w.heap.size ≤ L) (hl : LeftAt L 300 W) => extCounts_calls 12 t w W L 300 (HI.out.le (by omega)) hb hL hl (by omega) (by omega) (by omega))
 have HD := Lib.hid (fun (W : World) (hb : Below w.heap.size w W) (hf : t.Fitx 12) => DocRight_calls 12 t W (HI.out.below hb) hf.few)
 simp only [VT.val] at HCn HD ⊢
 go_enter Tryz.func11, Tryz.ntmps11
 go_wp2_with fail
 refine (HCn.out _ (w.heap.size + 1) (((Below.refl _ _).alloc (Nat.le_refl _) _).alloc (by simp) _) (by omega) ⟨by simp, by simp [go_sem], by simp [go_sem]⟩).mono ?_
 rintro e w1 ⟨⟨b, c', rfl, hl, hb⟩, hk⟩
 have hbw : Below w.heap.size w w1 := (((Below.refl _ _).alloc (Nat.le_refl _) _).alloc (by simp) _).trans (hk.below (by simp; omega) (by intro s hs; simp at hs; omega))
 have q : ∀ j, w1.cell? ⟨w.heap.size, j, none⟩ = _ := fun j => hk.cell (p := ⟨w.heap.size, j, none⟩) (by simp; omega) (by simp)
 have q0 := (q 0).trans (by simp [go_sem]; rfl)
 have q1 := (q 1).trans (by simp [go_sem]; rfl)
 have q2 := (q 2).trans (by simp [go_sem]; rfl)
 have q3 := (q 3).trans (by simp [go_sem]; rfl)
 have q4 := (q 4).trans (by simp [go_sem]; rfl)
 have q5 := (q 5).trans (by simp [go_sem]; rfl)
 have q6 := (q 6).trans (by simp [go_sem]; rfl)
 have q7 := (q 7).trans (by simp [go_sem]; rfl)
 have HBW := Lib.hid hbw
 have HB := Lib.hid hb
 clear q hk hl hbw hb
 cases b
 ·go_wp2_with fail
  go_ret
  exact AnsB.of rfl (fun h => absurd h (by decide)) HBW.out
 ·have hf := HB.out rfl
  have HFT := Lib.hid hf
  clear hf
  go_wp2_with fail
  refine (HD.out _ HBW.out HFT.out.1).mono ?_
  rintro e w2 ⟨b, rfl, hb2, hw2⟩
  have HB2 := Lib.hid hb2
  clear hb2
  go_wp2
  go_ret
  refine AnsB.of rfl (fun h => ⟨HFT.out.1, ?_, HB2.out h⟩) (HBW.out.trans (hw2.mono HBW.out.size))
  have h1 := HFT.out.2.1
  have h2 := HFT.out.2.2
  omega
theorem extLong_calls {D : Int → List Int} {w0 : World} (E : DEnv D w0) (t : VT) (w : World) (hw : Below w0.heap.size w0 w) (hin : t.In w 200) :
  Calls Tryz.prog 5 #[t.val] w (AnsB (fun b => b = true → FitsP t ∧ t.LongP D 12) w) := by
 have HI := Lib.hid hin
 have HW00 := Lib.hid hw
 clear hin hw
 have HF := Lib.hid (fun (W : World) (hb : Below w.heap.size w W) => extFits_calls t W (HI.out.below hb))
 have HL := Lib.hid (fun (W : World) (hb : Below w.heap.size w W) (hf : FitsP t) => ExtLongFits_calls E 12 t W (HW00.out.trans (hb.mono HW00.out.size)) ((HI.out.below hb).le (by omega)) hf.1)
 simp only [VT.val] at HF HL ⊢
 have HB0 : Hid (Below w.heap.size w (w.alloc (.cells #[.int .i64 t.kind, .string t.text, .string t.more, .int .i64 t.n, .int .u64 t.bits, .int .u64 t.high, .slice t.bA t.bs.length t.bc, .slice t.kA t.kids.length t.kc] 26))) := (Below.refl _ _).alloc (Nat.le_refl _) _
 have q : ∀ j, (w.alloc (.cells #[.int .i64 t.kind, .string t.text, .string t.more, .int .i64 t.n, .int .u64 t.bits, .int .u64 t.high, .slice t.bA t.bs.length t.bc, .slice t.kA t.kids.length t.kc] 26)).cell? ⟨w.heap.size, j, none⟩ = _ := fun j => World.cell?_alloc_new ..
 go_enter Tryz.func5, Tryz.ntmps5
 go_wp2_with fail
 refine (HF.out _ HB0.out).mono ?_
 rintro e w1 ⟨b, rfl, hb, hw1⟩
 have HB1 := Lib.hid (HB0.out.trans (hw1.mono HB0.out.size))
 have p : ∀ j, w1.cell? ⟨w.heap.size, j, none⟩ = _ := fun j => (hw1.cell (p := ⟨w.heap.size, j, none⟩) (by simp)).trans (q j)
 have p0 := (p 0).trans (show _ = some (Value.int .i64 t.kind) from rfl)
 have p1 := (p 1).trans (show _ = some (Value.string t.text) from rfl)
 have p2 := (p 2).trans (show _ = some (Value.string t.more) from rfl)
 have p3 := (p 3).trans (show _ = some (Value.int .i64 t.n) from rfl)
 have p4 := (p 4).trans (show _ = some (Value.int .u64 t.bits) from rfl)
 have p5 := (p 5).trans (show _ = some (Value.int .u64 t.high) from rfl)
 have p6 := (p 6).trans (show _ = some (Value.slice t.bA t.bs.length t.bc) from rfl)
 have p7 := (p 7).trans (show _ = some (Value.slice t.kA t.kids.length t.kc) from rfl)
 have HBB := Lib.hid hb
 clear p q hb hw1
 cases b
 ·go_wp2_with fail
  go_ret
  exact AnsB.of rfl (fun h => by cases h) HB1.out
 ·go_wp2_with fail
  refine (HL.out _ HB1.out (HBB.out (by first | rfl | trivial))).mono ?_
  rintro e w2 ⟨b2, rfl, hb2, hw2⟩
  have HB2 := Lib.hid (HB1.out.trans (hw2.mono HB1.out.size))
  have HBC := Lib.hid hb2
  clear hb2 hw2
  go_wp2_with fail
  go_ret
  exact AnsB.of rfl (fun h => ⟨HBB.out (by first | rfl | trivial), HBC.out h⟩) HB2.out
theorem own_leaf {W : World} {base : Nat} {v : Value} {l : List Int} (h : Own W base v l) (h0 : 0 < l.length) : ∃ g c, v = .slice (some ⟨g, 0, none⟩) l.length c ∧ LeafAt l g 0 l.length c W := by
 obtain ⟨A, c1, hv, hr⟩ := own_reads h
 rcases h.2 with ⟨_, hz⟩ | ⟨g, cap, cur, rfl, hb, hh, hn, hm, _⟩
 ·omega
 ·obtain ⟨rfl, _, rfl⟩ := Value.slice.inj hv
  obtain ⟨ad, ha, hc⟩ := hr.2.2 h0
  obtain rfl := Option.some.inj ha
  refine ⟨g, cap, rfl, fun j hj => ?_, (Array.getElem?_eq_some_iff.1 hh).1, rfl, hn, hm⟩
  have := hc j hj
  unfold Addr.add at this
  by_cases hj0 : j = 0
  ·subst hj0
   exact this
  ·rw [if_neg hj0] at this
   exact this
theorem fits_kid {D : Int → List Int} {name : ByteArray} {t : VT} {B : Nat} (hf : FitsP (VT.one 3 name t B)) (hl : (VT.one 3 name t B).LongP D 12) : NameOk name ∧ t.Ok D 11 ∧ t.cnt 11 ≤ 300 := by
 have h := VT.ok_of 12 200 _ hf.2.2 hf.1 hl
 have hk := h.2.2 0 (by show 0 < 1; omega) (.inl rfl)
 have hc : 1 + (t.cnt 11 + 0) ≤ 300 := hf.2.1
 exact ⟨hk.1, hk.2, by omega⟩
theorem FnTextElement_calls {D : Int → List Int} (t : VT) (name : ByteArray) (n : Nat) (w : World) (hin : ∀ d, t.In w d) (hns : name.size ≤ maxLen) (hn : n ≤ 65535) (E : PEnv D w) :
  Calls Tryz.prog 3 #[t.val, .string name, .int .u16 n] w fun e w' => e = .returned (.bool true) ∧ Below w.heap.size w w' := by
 have HI := Lib.hid hin
 have HE := Lib.hid E
 have HNS := Lib.hid hns
 have HZF := Lib.hid (fun (W : World) => zzFits1_calls t W (HI.out 1).2.2.2.2.1 (HI.out 1).2.2.2.2.2.1 (HI.out 1).2.2.2.2.2.2.1.2.1 (by have := (HI.out 1).2.2.2.2.2.2.2.2.2.1; have h2 := (HI.out 1).2.2.2.2.2.2.2.2.2.2.1; unfold maxLen at h2; omega))
 have HXL := Lib.hid (fun (x : VT) (W : World) (hb : Below w.heap.size w W) (h : x.In W 200) => extLong_calls E.dbl x W hb h)
 have HB0 : Hid (Below w.heap.size w (w.alloc (.cells #[.int .i64 t.kind, .string t.text, .string t.more, .int .i64 t.n, .int .u64 t.bits, .int .u64 t.high, .slice t.bA t.bs.length t.bc, .slice t.kA t.kids.length t.kc] 26))) := (Below.refl _ _).alloc (Nat.le_refl _) _
 have hq0 : ∀ j, (w.alloc (.cells #[.int .i64 t.kind, .string t.text, .string t.more, .int .i64 t.n, .int .u64 t.bits, .int .u64 t.high, .slice t.bA t.bs.length t.bc, .slice t.kA t.kids.length t.kc] 26)).cell? ⟨w.heap.size, j, none⟩ = _ := fun j => World.cell?_alloc_new ..
 have HQ0 := Lib.hid hq0
 have hnl : name.size ≤ 9223372036854775807 := by unfold maxLen at hns; omega
 have hwn : IntKind.i64.wrap (n : Int) = (n : Int) := by rw [IntKind.wrap_i64]; omega
 clear hin hns E hq0
 simp only [VT.val] at HZF HXL ⊢
 by_cases hlen : 2147483647 < name.size
 ·have hd : decide (2147483647 < (name.size : Int)) = true := decide_eq_true (by omega)
  go_enter Tryz.func3, Tryz.ntmps3
  go_wp2_with fail
  refine (HZF.out _).mono ?_
  rintro e w1 ⟨b, rfl, _, hw⟩
  have HW := Lib.hid (HB0.out.trans (hw.mono HB0.out.size))
  clear hw
  cases b
  all_goals go_wp2_with fail
  all_goals go_ret
  all_goals exact ⟨rfl, HW.out⟩
 have hd : decide (2147483647 < (name.size : Int)) = false := decide_eq_false (by omega)
 clear hlen
 go_enter Tryz.func3, Tryz.ntmps3
 go_wp2_with fail
 refine (HZF.out _).mono ?_
 rintro e w1 ⟨b, rfl, _, hw⟩
 have HW1 := Lib.hid (HB0.out.trans (hw.mono HB0.out.size))
 have p : ∀ j, w1.cell? ⟨w.heap.size, j, none⟩ = _ := fun j => (hw.cell (p := ⟨w.heap.size, j, none⟩) (by simp)).trans (HQ0.out j)
 have p0 := (p 0).trans (show _ = some (Value.int .i64 t.kind) from rfl)
 have p1 := (p 1).trans (show _ = some (Value.string t.text) from rfl)
 have p2 := (p 2).trans (show _ = some (Value.string t.more) from rfl)
 have p3 := (p 3).trans (show _ = some (Value.int .i64 t.n) from rfl)
 have p4 := (p 4).trans (show _ = some (Value.int .u64 t.bits) from rfl)
 have p5 := (p 5).trans (show _ = some (Value.int .u64 t.high) from rfl)
 have p6 := (p 6).trans (show _ = some (Value.slice t.bA t.bs.length t.bc) from rfl)
 have p7 := (p 7).trans (show _ = some (Value.slice t.kA t.kids.length t.kc) from rfl)
 clear p hw
 cases b
 ·go_wp2_with fail
  go_ret
  exact ⟨rfl, HW1.out⟩
 obtain ⟨W2, hW2⟩ : ∃ W, w1.alloc (.cells #[.string name, .int .i64 t.kind, .string t.text, .string t.more, .int .i64 t.n, .int .u64 t.bits, .int .u64 t.high, .slice t.bA t.bs.length t.bc, .slice t.kA t.kids.length t.kc] 30) = W := ⟨_, rfl⟩
 have HW2 : Hid (Below w.heap.size w W2) := by rw [← hW2]; exact HW1.out.alloc HW1.out.size _
 have hs2 : W2.heap.size = w1.heap.size + 1 := by rw [← hW2]; simp
 have r : ∀ j, W2.cell? ⟨w1.heap.size, j, none⟩ = _ := fun j => by rw [← hW2, World.cell?_alloc_new]
 have r0 := (r 0).trans (show _ = some (Value.string name) from rfl)
 have r1 := (r 1).trans (show _ = some (Value.int .i64 t.kind) from rfl)
 have r2 := (r 2).trans (show _ = some (Value.string t.text) from rfl)
 have r3 := (r 3).trans (show _ = some (Value.string t.more) from rfl)
 have r4 := (r 4).trans (show _ = some (Value.int .i64 t.n) from rfl)
 have r5 := (r 5).trans (show _ = some (Value.int .u64 t.bits) from rfl)
 have r6 := (r 6).trans (show _ = some (Value.int .u64 t.high) from rfl)
 have r7 := (r 7).trans (show _ = some (Value.slice t.bA t.bs.length t.bc) from rfl)
 have r8 := (r 8).trans (show _ = some (Value.slice t.kA t.kids.length t.kc) from rfl)
 clear r
 obtain ⟨W3, hW3⟩ : ∃ W, W2.alloc (.cells #[.string name, .int .i64 t.kind, .string t.text, .string t.more, .int .i64 t.n, .int .u64 t.bits, .int .u64 t.high, .slice t.bA t.bs.length t.bc, .slice t.kA t.kids.length t.kc] 30) = W := ⟨_, rfl⟩
 have HW3 : Hid (Below w.heap.size w W3) := by rw [← hW3]; exact HW2.out.alloc HW2.out.size _
 have HW23 : Hid (Below W2.heap.size W2 W3) := by rw [← hW3]; exact (Below.refl _ _).alloc (Nat.le_refl _) _
 have HIN3 : Hid ((VT.one 3 name t W2.heap.size).In W3 200) := by
  refine VT.one_in (by omega) HNS.out ((HI.out 199).below HW3.out) (by rw [← hW3]; simp [go_sem]) (fun j hj => ?_)
  have h8 : j = 0 ∨ j = 1 ∨ j = 2 ∨ j = 3 ∨ j = 4 ∨ j = 5 ∨ j = 6 ∨ j = 7 := by omega
  rw [← hW3]
  rcases h8 with rfl | rfl | rfl | rfl | rfl | rfl | rfl | rfl <;> simp [go_sem, VT.cells]
 rw [hs2] at HIN3
 go_wp2_with fail
 refine (HXL.out (VT.one 3 name t (w1.heap.size + 1)) W3 HW3.out HIN3.out).mono ?_
 rintro e w4 ⟨b, rfl, hb, hw4⟩
 have HB4 := Lib.hid (HW3.out.trans (hw4.mono HW3.out.size))
 have hlt3 : w1.heap.size < W3.heap.size := by have := HW23.out.size; omega
 have HQ9 : Hid (∀ W, Below w4.heap.size w4 W → W.cell? ⟨w1.heap.size, 0, none⟩ = some (.string name) ∧ W.cell? ⟨w1.heap.size, 1, none⟩ = some (.int .i64 t.kind) ∧ W.cell? ⟨w1.heap.size, 2, none⟩ = some (.string t.text) ∧ W.cell? ⟨w1.heap.size, 3, none⟩ = some (.string t.more) ∧ W.cell? ⟨w1.heap.size, 4, none⟩ = some (.int .i64 t.n) ∧ W.cell? ⟨w1.heap.size, 5, none⟩ = some (.int .u64 t.bits) ∧ W.cell? ⟨w1.heap.size, 6, none⟩ = some (.int .u64 t.high) ∧ W.cell? ⟨w1.heap.size, 7, none⟩ = some (.slice t.bA t.bs.length t.bc) ∧ W.cell? ⟨w1.heap.size, 8, none⟩ = some (.slice t.kA t.kids.length t.kc)) := by
  intro W h
  have hs : w1.heap.size < w4.heap.size := Nat.lt_of_lt_of_le hlt3 hw4.size
  have key : ∀ j (v : Value), W2.cell? ⟨w1.heap.size, j, none⟩ = some v → W.cell? ⟨w1.heap.size, j, none⟩ = some v := fun j v hv => (h.cell (p := ⟨w1.heap.size, j, none⟩) hs).trans ((hw4.cell (p := ⟨w1.heap.size, j, none⟩) hlt3).trans ((HW23.out.cell (p := ⟨w1.heap.size, j, none⟩) (by show w1.heap.size < W2.heap.size; omega)).trans hv))
  exact ⟨key 0 _ r0, key 1 _ r1, key 2 _ r2, key 3 _ r3, key 4 _ r4, key 5 _ r5, key 6 _ r6, key 7 _ r7, key 8 _ r8⟩
 have HBB := Lib.hid hb
 clear hb hw4 hlt3 r0 r1 r2 r3 r4 r5 r6 r7 r8 p0 p1 p2 p3 p4 p5 p6 p7 HIN3 HW23 HXL HZF HQ0
 clear hW3 hW2 hs2
 cases b
 ·go_wp2_with fail
  go_ret
  exact ⟨rfl, HB4.out⟩
 obtain ⟨hf, hl⟩ := HBB.out (by first | rfl | trivial)
 obtain ⟨hN, hok, hcnt⟩ := fits_kid hf hl
 have hrng := (HI.out 11).rng
 have hown := long_own HE.out.dbl.low 11 t hok hrng.bys
 have hlg := long_length HE.out.dbl.len 11 t hok hrng
 have hdl := doc_length 11 t hok
 obtain ⟨EB, hEB⟩ : ∃ l, elemB 11 (name, t) = l := ⟨_, rfl⟩
 have hEl : EB.length = name.size + 2 + (VT.doc 11 t).length := by rw [← hEB]; exact elemB_len 11 (name, t)
 obtain ⟨L, hL⟩ : ∃ l, memL name (t.long D 11) = l := ⟨_, rfl⟩
 have hLl : L.length ≤ 90000000 := by rw [← hL]; have := hN.2.1; have hb := bytesOf_length name; simp only [memL, List.length_cons, List.length_append, List.length_nil, hb]; omega
 have hLu : U8 L := by rw [← hL]; exact (mem_own hN.2.2.1 hown.u8).u8
 obtain ⟨S0, hS0⟩ : ∃ s, strOfNums L = s := ⟨_, rfl⟩
 have hS0s : S0.size = L.length := by rw [← hS0]; exact StrIs.size (.of L)
 have hls : (t.long D 11).length ≤ 80000000 := by omega
 have hEs : EB.length ≤ 800000000 := by have := hN.2.1; omega
 have hct : t.cnt 11 ≤ 400 := by omega
 have HDE : Hid (∀ W, Below w.heap.size w W → Calls Tryz.prog 6 #[elemVal name t] W (Grew W.heap.size W [] EB)) := fun W h => by
  rw [← hEB]
  exact DocElem_all 11 name t W hN.2.1 ((HI.out 11).below h) hok (by omega)
 have HEM : Hid (∀ W, Below w.heap.size w W → Calls Tryz.prog 7 #[elemVal name t] W fun e w' => e = .returned (.string S0) ∧ Below W.heap.size W w') := fun W h => by
  have h1 := ExtMember_calls name t (t.long D 11) hN.2.1 (by omega) W fun W2 h2 => ExtLong_all HE.out 11 t W2 (h.trans (h2.mono h.size)) ((HI.out 11).below (h.trans (h2.mono h.size))) hok (by omega)
  refine h1.mono ?_
  rintro e w' ⟨⟨u, he, hu⟩, hb⟩
  exact ⟨by rw [he, hu.out, hL, hS0], hb⟩
 have HEL : Hid (∀ g c W, LeafAt EB g 0 EB.length c W → Below w.heap.size w W → ∀ n' : Int, n' = -1 ∨ (0 ≤ n' ∧ n' ≤ 65535) → Calls Tryz.prog 16 #[.slice (some ⟨g, 0, none⟩) EB.length c, .int .i64 n'] W (StrN L n' W)) := fun g c W hA hW n' hn' => by
  rw [← hL]
  refine elem_of (d := 10) hok hown hls hN (by rw [hEB]; exact hA) hEs (fun o' W2 h2 hLA => ?_) n' hn'
  exact val_all HE.out 11 t hok hrng hct g o' _ _ W2 (hW.trans (h2.mono hW.size)) hLA
 have HTN : Hid (∀ g c W, LeafAt EB g 0 EB.length c W → Below w.heap.size w W → Calls Tryz.prog 8 #[.slice (some ⟨g, 0, none⟩) EB.length c, .int .i64 n] W fun e w' => e = .returned (.tuple #[.string (strOfNums (cutL L n)), .bool (decide (n < L.length))]) ∧ Below W.heap.size W w') := fun g c W hA hW => by
  refine (ElementTextN_calls (HEL.out g c W hA hW n (.inr ⟨by omega, by omega⟩))).mono ?_
  rintro e w' ⟨u, he, hu, hb⟩
  rw [if_neg (by omega)] at hu
  refine ⟨?_, hb⟩
  rw [he, hu.out]
  congr 5
  simp
 have HTX : Hid (∀ g c W, LeafAt EB g 0 EB.length c W → Below w.heap.size w W → Calls Tryz.prog 9 #[.slice (some ⟨g, 0, none⟩) EB.length c] W fun e w' => e = .returned (.string S0) ∧ Below W.heap.size W w') := fun g c W hA hW => by
  refine (ElementText_calls (HEL.out g c W hA hW (-1) (.inl rfl))).mono ?_
  rintro e w' ⟨⟨u, he, hu⟩, hb⟩
  exact ⟨by rw [he, hu.out, hS0], hb⟩
 have HCU : Hid (∀ W, Calls Tryz.prog 10 #[.string S0, .int .i64 n] W fun e w' => e = .returned (.string (strOfNums (cutL L n))) ∧ w' = W) := fun W => by
  rw [← hS0]
  refine (ExtCut_calls (strOfNums L) L n (.of L) hLu (by omega) hn W).mono ?_
  rintro e w' ⟨u, he, hu, hb⟩
  exact ⟨by rw [he, hu.out], hb⟩
 have HEP : Hid (0 < EB.length) := by show _ < _; omega
 obtain ⟨CU, hCU⟩ : ∃ s, strOfNums (cutL L n) = s := ⟨_, rfl⟩
 rw [hCU] at HTN HCU
 obtain ⟨tb, htb⟩ : ∃ tb, decide (n < L.length) = tb := ⟨_, rfl⟩
 rw [htb] at HTN
 have htc : decide ((n : Int) < (S0.size : Int)) = tb := by rw [← htb, hS0s]; simp
 have htd : decide (n < S0.size) = tb := by rw [← htb, hS0s]
 have hsz : S0.size ≤ 90000000 := by omega
 simp only [elemVal] at HDE HEM
 clear hls hEs hct hf hl hN hok hcnt hrng hown hlg hdl hEB hEl hL hLl hLu hS0 hS0s hCU htb HBB HE HNS HEL HI
 obtain ⟨z0, z1, z2, z3, z4, z5, z6, z7, z8⟩ := HQ9.out _ (Below.refl _ _)
 go_wp2_with fail
 go_region_with (first | (go_at_call 6; refine (HDE.out _ (by first | exact HB4.out | exact HB4.out.drew)).mono ?_; rintro e w5 ⟨v, rfl, ho, hw5⟩; have HW5 : Hid (Below w4.heap.size w4 w5) := (by first | exact hw5 | exact (Below.refl _ _).drew.trans hw5); obtain ⟨g, cc, rfl, hlf⟩ := own_leaf (own_cast ho (List.nil_append _)) HEP.out; have HLF := Lib.hid hlf; obtain ⟨y0, y1, y2, y3, y4, y5, y6, y7, y8⟩ := HQ9.out _ HW5.out; clear ho hw5 hlf) | (go_at_call 7; refine (HEM.out _ (by first | exact HB4.out.trans (HW5.out.mono HB4.out.size) | exact (HB4.out.trans (HW5.out.mono HB4.out.size)).drew)).mono ?_; rintro e w6 ⟨rfl, hw6⟩; have HW6 : Hid (Below w5.heap.size w5 w6) := (by first | exact hw6 | exact (Below.refl _ _).drew.trans hw6); have HL6 := Lib.hid (HLF.out.below HW6.out); have HB6 := Lib.hid ((HB4.out.trans (HW5.out.mono HB4.out.size)).trans (HW6.out.mono (HB4.out.trans (HW5.out.mono HB4.out.size)).size)); clear hw6))
 all_goals go_wp2_with fail
 all_goals refine (HTN.out _ _ _ (by first | exact HL6.out | exact HL6.out.below (Below.refl _ _).drew) (by first | exact HB6.out | exact HB6.out.drew)).mono ?_
 all_goals rintro e w7 ⟨rfl, hw7⟩
 all_goals have HL7 : Hid (LeafAt EB g 0 EB.length cc w7) := (by first | exact HL6.out.below hw7 | exact HL6.out.below ((Below.refl _ _).drew.trans hw7))
 all_goals have HB7 : Hid (Below w.heap.size w w7) := (by first | exact HB6.out.trans (hw7.mono HB6.out.size) | exact HB6.out.drew.trans (hw7.mono HB6.out.size))
 all_goals clear hw7
 all_goals go_wp2_with fail
 all_goals refine (HTX.out _ _ _ HL7.out HB7.out).mono ?_
 all_goals rintro e w8 ⟨rfl, hw8⟩
 all_goals have HB8 := Lib.hid (HB7.out.trans (hw8.mono HB7.out.size))
 all_goals clear hw8
 all_goals go_wp2_with fail
 all_goals refine (HCU.out _).mono ?_
 all_goals rintro e w9 ⟨rfl, hw9⟩
 all_goals have hwe := hw9.symm
 all_goals subst hwe
 all_goals go_wp2_with fail
 all_goals go_ret
 all_goals exact ⟨rfl, HB8.out⟩
end Go.Proofs.YtkeakdjbidbegaaGreatDoor
