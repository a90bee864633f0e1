/- A part of the proof that laws.FnTextElement returns true at every input: Okx, Prt. -/
import Derived.Test.YtkeakdjbidbegaaGreatDoorCa
import Derived.Test.YtkeakdjbidbegaaGreatDoorCb
import Derived.Test.YtkeakdjbidbegaaGreatDoorP
set_option linter.unusedSimpArgs false
set_option linter.unusedVariables false
set_option maxRecDepth 100000
set_option maxHeartbeats 8000000
namespace Go.Proofs.YtkeakdjbidbegaaGreatDoor
open Go.RowKit
open Go.Proofs.YtkeakdjbidbegaaGreatDoorW.PrintWords
def VT.LongP (D : Int → List Int) : Nat → VT → Prop
 | 0, _ => False
 | d + 1, t => (t.kind ≠ 15 ∧ (t.kind = 1 → ∀ x ∈ D t.bits, x ≠ 69)) ∧ ∀ i (h : i < t.kids.length), (0 < t.kids[i].1.size ∧ extStrF t.kids[i].1 true = quoL (bytesOf t.kids[i].1)) ∧ VT.LongP D d t.kids[i].2
theorem VT.ok_of {D : Int → List Int} : ∀ (e d : Nat) (t : VT), Right d t → t.Fitx e → t.LongP D e → t.Ok D e := by
 intro e
 induction e with
 | zero => intro d t _ h; exact h.elim
 | succ e ih =>
  intro d t hr hf hl
  cases d with
  | zero => exact hr.elim
  | succ d =>
   obtain ⟨hR, hRk⟩ := hr
   obtain ⟨hC, hk, hkid⟩ := hf
   obtain ⟨⟨h15, h1⟩, hL⟩ := hl
   refine ⟨⟨hR.known, h15, hC.text, hC.more, hC.bs, hR.bin, hR.id, hR.bool, hR.int, fun h => ⟨(hR.rex h).1, (hR.rex h).2, hC.rest.rex h⟩, hC.rest.dec, fun h => ⟨h1 h, hC.rest.nan h⟩⟩, hk, fun i hi h3 => ?_⟩
   have h3' : t.kind = 3 ∨ t.kind = 4 ∨ t.kind = 15 := by omega
   exact ⟨⟨(hL i hi).1.1, (hkid i hi).1.1, (hkid i hi).1.2, (hRk h3' i hi).1, (hL i hi).1.2⟩, ih d _ (hRk h3' i hi).2 (hkid i hi).2 (hL i hi).2⟩
def VT.Rng : Nat → VT → Prop
 | 0, _ => True
 | d + 1, t => LeafR t ∧ ∀ i (h : i < t.kids.length), VT.Rng d t.kids[i].2
theorem VT.In.rng {w : World} : ∀ {d : Nat} {t : VT}, t.In w d → t.Rng d := by
 intro d
 induction d with
 | zero => intro t _; trivial
 | succ d ih =>
  intro t h
  obtain ⟨h1, h2, h3, h4, h5, h6, h7, h8, h9, h10, h11, h12⟩ := h
  refine ⟨⟨h2, h3, h4, h9⟩, fun i hi => ?_⟩
  obtain ⟨ad, ha, hc⟩ := h12 (by omega)
  exact ih (hc i hi).2.2.2
theorem VT.Rng.bys : ∀ {d : Nat} {t : VT}, t.Rng d → t.Bys d := by
 intro d
 induction d with
 | zero => intro t _; trivial
 | succ d ih =>
  intro t h
  exact ⟨h.1.bs, fun i hi => ih (h.2 i hi)⟩
theorem cnt_kid {d i : Nat} {t : VT} (hi : i < t.kids.length) : (t.kids[i].2).cnt d < t.cnt (d + 1) := by
 show _ < 1 + _
 have key : ∀ (l : List (ByteArray × VT)) (i : Nat) (h : i < l.length), l[i].2.cnt d ≤ (l.map fun x => VT.cnt d x.2).sum := by
  intro l
  induction l with
  | nil => intro i h; cases h
  | cons x r ih =>
   intro i h
   rw [List.map_cons, List.sum_cons]
   cases i with
   | zero => exact Nat.le_add_right _ _
   | succ i => have := ih i (by simpa using h); simp only [List.getElem_cons_succ]; omega
 have := key t.kids i hi
 omega
theorem join_le (f : ByteArray × VT → List Int) (g : ByteArray × VT → Nat) (M : Nat) : ∀ l : List (ByteArray × VT), (∀ x ∈ l, (f x).length + 1 ≤ M * g x) → (joinL (l.map f)).length ≤ M * (l.map g).sum := by
 intro l h
 have key : ∀ r : List (ByteArray × VT), (∀ x ∈ r, (f x).length + 1 ≤ M * g x) → (((r.map f).map fun y => 44 :: y).flatten).length ≤ M * (r.map g).sum := by
  intro r
  induction r with
  | nil => intro _; simp
  | cons x r ih =>
   intro h
   have h1 := h x (by simp)
   have h2 := ih fun y hy => h y (by simp [hy])
   simp only [List.map_cons, List.flatten_cons, List.length_append, List.length_cons, List.sum_cons, Nat.mul_add]
   omega
 cases l with
 | nil => simp [joinL]
 | cons x r =>
  have h1 := h x (by simp)
  have h2 := key r fun y hy => h y (by simp [hy])
  simp only [List.map_cons, joinL, List.length_append, List.sum_cons, Nat.mul_add]
  omega
theorem long_length {D : Int → List Int} (hD : ∀ x, (D x).length ≤ 400) : ∀ (d : Nat) (t : VT), t.Ok D d → t.Rng d → (t.long D d).length + 400 ≤ 6500 * t.cnt d := by
 intro d
 induction d with
 | zero => intro t h; exact h.elim
 | succ d ih =>
  intro t h hr
  obtain ⟨hl, hk, hkid⟩ := h
  have hin : ∀ x ∈ t.kids, ∃ i, ∃ (h : i < t.kids.length), t.kids[i] = x := fun x hx => List.getElem_of_mem hx
  have hc : t.cnt (d + 1) = 1 + (t.kids.map fun x => VT.cnt d x.2).sum := rfl
  unfold VT.long
  by_cases h3 : t.kind = 3
  ·rw [if_pos h3]
   have := join_le (fun x => memL x.1 (VT.long D d x.2)) (fun x => VT.cnt d x.2) 6500 t.kids (fun x hx => by
    obtain ⟨i, hi, rfl⟩ := hin x hx
    obtain ⟨hn, ho⟩ := hkid i hi (.inl h3)
    have h1 := ih _ ho (hr.2 i hi)
    have h2 := hn.2.1
    have h4 := bytesOf_length t.kids[i].1
    simp only [memL, List.length_append, List.length_cons, List.length_nil, h4]
    omega)
   rw [List.length_cons, List.length_append, List.length_singleton, hc]
   omega
  ·rw [if_neg h3]
   by_cases h4 : t.kind = 4
   ·rw [if_pos h4]
    have := join_le (fun x => VT.long D d x.2) (fun x => VT.cnt d x.2) 6500 t.kids (fun x hx => by
     obtain ⟨i, hi, rfl⟩ := hin x hx
     have h1 := ih _ (hkid i hi (.inr h4)).2 (hr.2 i hi)
     omega)
    rw [List.length_cons, List.length_append, List.length_singleton, hc]
    omega
   ·rw [if_neg h4]
    have h5 := leafL_length hl hD hr.1.n hr.1.bits hr.1.high
    have h6 := VT.cnt_pos (d + 1) t
    omega
def kidAt (l : List (ByteArray × VT)) (k : Nat) : ByteArray × VT := l.getD k (⟨#[]⟩, .mk 0 ⟨#[]⟩ ⟨#[]⟩ 0 0 0 none [] 0 none [] 0)
theorem kidAt_lt {l : List (ByteArray × VT)} {k : Nat} (h : k < l.length) : kidAt l k = l[k] := by
 unfold kidAt
 rw [List.getD_eq_getElem?_getD, List.getElem?_eq_getElem h]
 rfl
theorem take_map_succ {α : Type} (f : ByteArray × VT → α) (l : List (ByteArray × VT)) (k : Nat) (h : k < l.length) : (l.take (k + 1)).map f = (l.take k).map f ++ [f (kidAt l k)] := by
 rw [List.take_add_one, List.getElem?_eq_getElem h, kidAt_lt h, Option.toList_some, List.map_append]
 rfl
def posL (f : ByteArray × VT → List Int) (l : List (ByteArray × VT)) (k : Nat) : Nat := (((l.take k).map f).flatten).length
def preL (o1 : Int) (g : ByteArray × VT → List Int) (l : List (ByteArray × VT)) (k : Nat) : List Int := o1 :: joinL ((l.take k).map g)
theorem flat_split (f : ByteArray × VT → List Int) (l : List (ByteArray × VT)) (k : Nat) (h : k < l.length) : (l.map f).flatten = ((l.take k).map f).flatten ++ (f (kidAt l k) ++ ((l.drop (k + 1)).map f).flatten) := by
 have e : l = l.take k ++ (l[k] :: l.drop (k + 1)) := by rw [← List.drop_eq_getElem_cons h, List.take_append_drop]
 rw [kidAt_lt h]
 have e2 := congrArg (fun z => (z.map f).flatten) e
 simp only [List.map_append, List.map_cons, List.flatten_append, List.flatten_cons] at e2
 exact e2
theorem preL_succ (o1 : Int) (g : ByteArray × VT → List Int) (l : List (ByteArray × VT)) (k : Nat) (hk : k < l.length) : preL o1 g l (k + 1) = preL o1 g l k ++ (if k = 0 then [] else [44]) ++ g (kidAt l k) := by
 unfold preL
 rw [take_map_succ g l k hk, joinL_snoc]
 by_cases h0 : k = 0
 ·subst h0
  simp [joinL]
 ·have hne : (l.take k).map g ≠ [] := fun h => by
   have := congrArg List.length h
   simp only [List.length_map, List.length_take, List.length_nil] at this
   omega
  rw [if_neg h0, if_neg hne]
  simp
theorem preL_le (o1 : Int) (g : ByteArray × VT → List Int) (l : List (ByteArray × VT)) : ∀ j k, j + k = l.length → (preL o1 g l j).length ≤ (preL o1 g l l.length).length := by
 intro j k
 induction k generalizing j with
 | zero => intro h; rw [show j = l.length by omega]; omega
 | succ k ih =>
  intro h
  have := ih (j + 1) (by omega)
  rw [preL_succ o1 g l j (by omega), List.length_append, List.length_append] at this
  omega
theorem preL_all (o1 : Int) (g : ByteArray × VT → List Int) (l : List (ByteArray × VT)) : preL o1 g l l.length = o1 :: joinL (l.map g) := by unfold preL; rw [List.take_length]
theorem parts_of {o1 c1 : Int} (l : List (ByteArray × VT)) (f g : ByteArray × VT → List Int) (h1 : 0 ≤ o1 ∧ o1 < 128) (h2 : 0 ≤ c1 ∧ c1 < 128) (hp : ∀ k, k < l.length → 1 ≤ (f (kidAt l k)).length) (hg : ∀ k, k < l.length → Own8 (g (kidAt l k)))
  (hS : ((l.map f).flatten).length ≤ 800000000) (hl : (preL o1 g l l.length).length ≤ 100000000) :
  Parts o1 c1 l.length ((l.map f).flatten).length (posL f l) (fun k => (f (kidAt l k)).length) (fun k => g (kidAt l k)) (preL o1 g l) where
 p0 := rfl
 ps := fun k hk => by
  unfold posL
  rw [take_map_succ f l k hk]
  simp
 pK := by unfold posL; rw [List.take_length]
 pos := hp
 small := hS
 pre0 := rfl
 pres := fun k hk => preL_succ o1 g l k hk
 own := hg
 c1 := h2
 o1 := h1
 le := hl
end Go.Proofs.YtkeakdjbidbegaaGreatDoor
