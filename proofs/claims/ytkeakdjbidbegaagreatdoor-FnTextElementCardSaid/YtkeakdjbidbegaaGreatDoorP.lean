/- A part of the proof that laws.FnTextElement returns true at every input: Vlf, Rel, Dsn. -/
import Derived.Test.YtkeakdjbidbegaaGreatDoorK
import Derived.Test.YtkeakdjbidbegaaGreatDoorKb
import Derived.Test.YtkeakdjbidbegaaGreatDoorKc
import Derived.Test.YtkeakdjbidbegaaGreatDoorKa
import Derived.Test.YtkeakdjbidbegaaGreatDoorI
import Derived.Test.YtkeakdjbidbegaaGreatDoorL
import Derived.Test.YtkeakdjbidbegaaGreatDoorO
import Derived.Test.YtkeakdjbidbegaaGreatDoorM
import Derived.Deep.Cut
import Derived.Deep.CutRange
import Derived.Deep.CutBlock
import Derived.Deep.DeepCutAuto
set_option linter.unusedSimpArgs false
set_option linter.unusedVariables false
set_option maxRecDepth 100000
set_option maxHeartbeats 8000000
namespace Go.Proofs.YtkeakdjbidbegaaGreatDoor
open Go.RowKit
open Go.Proofs.YtkeakdjbidbegaaGreatDoorW.PrintWords
theorem Pow10W.below {w w' : World} (h : Pow10W w) (hb : Below w.heap.size w w') : Pow10W w' := by
 unfold Pow10W Lib.TabIs at h ⊢
 unfold World.var? at h ⊢
 cases hg : Tryz.prog.globalNamed "internal/strconv.uint64pow10" with
 | none => simp [hg] at h
 | some g =>
  simp only [hg, Option.bind_some] at h ⊢
  have hlt : g < w.heap.size := by
   rcases Nat.lt_or_ge g w.heap.size with h' | h'
   ·exact h'
   ·simp [Array.getElem?_eq_none h'] at h
  rw [hb.block g hlt]
  exact h
structure PEnv (D : Int → List Int) (w0 : World) : Prop where
 pow : Pow10W w0
 esc : EscEnv w0
 dbl : DEnv D w0
structure LeafR (t : VT) : Prop where
 n : -9223372036854775808 ≤ t.n ∧ t.n ≤ 9223372036854775807
 bits : 0 ≤ t.bits ∧ t.bits < 18446744073709551616
 high : 0 ≤ t.high ∧ t.high < 18446744073709551616
 bs : ∀ x ∈ t.bs, 0 ≤ x ∧ x ≤ 255
structure LeafAt (l : List Int) (b o m c : Nat) (w : World) : Prop where
 byt : Byt w b o l
 lt : b < w.heap.size
 len : m = l.length
 cap : m ≤ c
 mx : c ≤ maxLen
theorem LeafAt.below {l : List Int} {b o m c : Nat} {w w' : World} (h : LeafAt l b o m c w) (k : Below w.heap.size w w') : LeafAt l b o m c w' := ⟨h.byt.below k h.lt, Nat.lt_of_lt_of_le h.lt k.size, h.len, h.cap, h.mx⟩
theorem Byt.nil_right {w : World} {b o : Nat} {l : List Int} (h : Byt w b o l) : Byt w b o (l ++ []) := by rw [List.append_nil]; exact h
abbrev StrNOf (l : List Int) (k : Int) (b o m c : Nat) (w : World) : Prop := ∀ n : Int, n = -1 ∨ (0 ≤ n ∧ n ≤ 65535) → Calls Tryz.prog 36 #[.agg #[.int .u8 k, .slice (some ⟨b, o, none⟩) m c], .int .i64 n] w (StrN l n w)
theorem esc_txt {D : Int → List Int} {w0 w : World} (E : PEnv D w0) (hw : Below w0.heap.size w0 w) {s : ByteArray} (hs : s.size ≤ 300) (hu : utf8F s = true) : Calls Tryz.prog 65 #[.string s] w (TxtIs (extStrF s true) w) :=
 (escapeString_calls s (by omega) hu w (E.esc.below hw)).mono fun e w' ⟨u, he, hu, hb⟩ => ⟨⟨u, he, hu⟩, hb⟩
theorem id_txt {l : List Int} (hl : l.length = 12) (hr : ∀ x ∈ l, 0 ≤ x ∧ x ≤ 255) (w : World) : Calls Tryz.prog 74 #[idV l] w (TxtIs (hexL l) w) :=
 (idHex_calls l hl hr w).mono fun e w' ⟨he, hb⟩ => ⟨⟨_, he, .of _⟩, hb⟩
theorem leaf_6 {D : Int → List Int} {w0 : World} (E : PEnv D w0) {t : VT} (O : LeafOk D t) (R : LeafR t) {b o m c : Nat} {w : World} (hw : Below w0.heap.size w0 w) (hk : t.kind = 6) (hA : LeafAt (leafB t) b o m c w) (hr : ∀ z ∈ leafL D t, 0 ≤ z ∧ z ≤ 255) (hl : (leafL D t).length ≤ 6000) : StrNOf (leafL D t) 6 b o m c w := by
 intro n hn
 have eL : leafL D t = wrapL [36, 117, 110, 100, 101, 102, 105, 110, 101, 100] ([116, 114, 117, 101]) := by
  unfold leafL
  simp only [hk]
  rfl
 have eB : leafB t = [] := by
  unfold leafB
  simp only [hk]
  rfl
 rw [eL] at hr hl ⊢
 rw [eB] at hA
 have hc := hA.cap
 have hmx := hA.mx
 have hmm := hA.len
 refine (StringN_6  n hn (fun z hz => hr z (by simpa [wrapL, quoL] using hz))).mono fun e w' h => h.cast (by simp [wrapL, quoL])
theorem leaf_255 {D : Int → List Int} {w0 : World} (E : PEnv D w0) {t : VT} (O : LeafOk D t) (R : LeafR t) {b o m c : Nat} {w : World} (hw : Below w0.heap.size w0 w) (hk : t.kind = 255) (hA : LeafAt (leafB t) b o m c w) (hr : ∀ z ∈ leafL D t, 0 ≤ z ∧ z ≤ 255) (hl : (leafL D t).length ≤ 6000) : StrNOf (leafL D t) 255 b o m c w := by
 intro n hn
 have eL : leafL D t = wrapL [36, 109, 105, 110, 75, 101, 121] ([49]) := by
  unfold leafL
  simp only [hk]
  rfl
 have eB : leafB t = [] := by
  unfold leafB
  simp only [hk]
  rfl
 rw [eL] at hr hl ⊢
 rw [eB] at hA
 have hc := hA.cap
 have hmx := hA.mx
 have hmm := hA.len
 refine (StringN_255  n hn (fun z hz => hr z (by simpa [wrapL, quoL] using hz))).mono fun e w' h => h.cast (by simp [wrapL, quoL])
theorem leaf_127 {D : Int → List Int} {w0 : World} (E : PEnv D w0) {t : VT} (O : LeafOk D t) (R : LeafR t) {b o m c : Nat} {w : World} (hw : Below w0.heap.size w0 w) (hk : t.kind = 127) (hA : LeafAt (leafB t) b o m c w) (hr : ∀ z ∈ leafL D t, 0 ≤ z ∧ z ≤ 255) (hl : (leafL D t).length ≤ 6000) : StrNOf (leafL D t) 127 b o m c w := by
 intro n hn
 have eL : leafL D t = wrapL [36, 109, 97, 120, 75, 101, 121] ([49]) := by
  unfold leafL
  simp only [hk]
  rfl
 have eB : leafB t = [] := by
  unfold leafB
  simp only [hk]
  rfl
 rw [eL] at hr hl ⊢
 rw [eB] at hA
 have hc := hA.cap
 have hmx := hA.mx
 have hmm := hA.len
 refine (StringN_127  n hn (fun z hz => hr z (by simpa [wrapL, quoL] using hz))).mono fun e w' h => h.cast (by simp [wrapL, quoL])
theorem leaf_10 {D : Int → List Int} {w0 : World} (E : PEnv D w0) {t : VT} (O : LeafOk D t) (R : LeafR t) {b o m c : Nat} {w : World} (hw : Below w0.heap.size w0 w) (hk : t.kind = 10) (hA : LeafAt (leafB t) b o m c w) (hr : ∀ z ∈ leafL D t, 0 ≤ z ∧ z ≤ 255) (hl : (leafL D t).length ≤ 6000) : StrNOf (leafL D t) 10 b o m c w := by
 intro n hn
 have eL : leafL D t = [110, 117, 108, 108] := by
  unfold leafL
  simp only [hk]
  rfl
 have eB : leafB t = [] := by
  unfold leafB
  simp only [hk]
  rfl
 rw [eL] at hr hl ⊢
 rw [eB] at hA
 have hc := hA.cap
 have hmx := hA.mx
 have hmm := hA.len
 refine (StringN_10  n hn (fun z hz => hr z (by simpa [wrapL, quoL] using hz))).mono fun e w' h => h.cast (by simp [wrapL, quoL])
theorem leaf_9 {D : Int → List Int} {w0 : World} (E : PEnv D w0) {t : VT} (O : LeafOk D t) (R : LeafR t) {b o m c : Nat} {w : World} (hw : Below w0.heap.size w0 w) (hk : t.kind = 9) (hA : LeafAt (leafB t) b o m c w) (hr : ∀ z ∈ leafL D t, 0 ≤ z ∧ z ≤ 255) (hl : (leafL D t).length ≤ 6000) : StrNOf (leafL D t) 9 b o m c w := by
 intro n hn
 have eL : leafL D t = wrapL [36, 100, 97, 116, 101] ([123, 34, 36, 110, 117, 109, 98, 101, 114, 76, 111, 110, 103, 34, 58, 34] ++ numF t.n ++ [34, 125]) := by
  unfold leafL
  simp only [hk]
  rfl
 have eB : leafB t = leI 8 t.n := by
  unfold leafB
  simp only [hk]
  rfl
 rw [eL] at hr hl ⊢
 rw [eB] at hA
 have hc := hA.cap
 have hmx := hA.mx
 have hmm := hA.len
 have hlen : (leI 8 t.n).length = 8 := leI_length 8 t.n
 have hOK : ∀ W, Below w.heap.size w W → Calls Tryz.prog 77 #[.agg #[.int .u8 9, .slice (some ⟨b, o, none⟩) m c]] W (OkAns (.int .i64 t.n) W) := fun W hW =>
  DateTimeOK_ok fun W2 hW2 => ReadDateTime_rd (ReadI64_calls b o m c t.n [] W2 ((hA.byt.below hW hA.lt).below hW2 (Nat.lt_of_lt_of_le hA.lt hW.size)).nil_right R.n (by simp; omega) hc hmx (by omega))
 have hF : ∀ W, Below w.heap.size w W → Calls Tryz.prog 55 #[.int .i64 t.n, .int .i64 10] W (TxtIs (numF t.n) W) := fun W hW => FormatInt_calls t.n R.n.1 R.n.2 W (E.pow.below (hw.trans (hW.mono hw.size)))
 refine (StringN_9 hOK hF (by have := numF_len R.n.1 R.n.2; omega) n hn (fun z hz => hr z (by simpa [wrapL, quoL] using hz))).mono fun e w' h => h.cast (by simp [wrapL, quoL])
theorem leaf_18 {D : Int → List Int} {w0 : World} (E : PEnv D w0) {t : VT} (O : LeafOk D t) (R : LeafR t) {b o m c : Nat} {w : World} (hw : Below w0.heap.size w0 w) (hk : t.kind = 18) (hA : LeafAt (leafB t) b o m c w) (hr : ∀ z ∈ leafL D t, 0 ≤ z ∧ z ≤ 255) (hl : (leafL D t).length ≤ 6000) : StrNOf (leafL D t) 18 b o m c w := by
 intro n hn
 have eL : leafL D t = wrapL [36, 110, 117, 109, 98, 101, 114, 76, 111, 110, 103] (quoL (numF t.n)) := by
  unfold leafL
  simp only [hk]
  rfl
 have eB : leafB t = leI 8 t.n := by
  unfold leafB
  simp only [hk]
  rfl
 rw [eL] at hr hl ⊢
 rw [eB] at hA
 have hc := hA.cap
 have hmx := hA.mx
 have hmm := hA.len
 have hlen : (leI 8 t.n).length = 8 := leI_length 8 t.n
 have hOK : ∀ W, Below w.heap.size w W → Calls Tryz.prog 87 #[.agg #[.int .u8 18, .slice (some ⟨b, o, none⟩) m c]] W (OkAns (.int .i64 t.n) W) := fun W hW =>
  Int64OK_ok fun W2 hW2 => ReadInt64_rd (ReadI64_calls b o m c t.n [] W2 ((hA.byt.below hW hA.lt).below hW2 (Nat.lt_of_lt_of_le hA.lt hW.size)).nil_right R.n (by simp; omega) hc hmx (by omega))
 have hF : ∀ W, Below w.heap.size w W → Calls Tryz.prog 55 #[.int .i64 t.n, .int .i64 10] W (TxtIs (numF t.n) W) := fun W hW => FormatInt_calls t.n R.n.1 R.n.2 W (E.pow.below (hw.trans (hW.mono hw.size)))
 refine (StringN_18 hOK hF (by have := numF_len R.n.1 R.n.2; omega) n hn (fun z hz => hr z (by simpa [wrapL, quoL] using hz))).mono fun e w' h => h.cast (by simp [wrapL, quoL])
theorem leaf_16 {D : Int → List Int} {w0 : World} (E : PEnv D w0) {t : VT} (O : LeafOk D t) (R : LeafR t) {b o m c : Nat} {w : World} (hw : Below w0.heap.size w0 w) (hk : t.kind = 16) (hA : LeafAt (leafB t) b o m c w) (hr : ∀ z ∈ leafL D t, 0 ≤ z ∧ z ≤ 255) (hl : (leafL D t).length ≤ 6000) : StrNOf (leafL D t) 16 b o m c w := by
 intro n hn
 have eL : leafL D t = wrapL [36, 110, 117, 109, 98, 101, 114, 73, 110, 116] (quoL (numF t.n)) := by
  unfold leafL
  simp only [hk]
  rfl
 have eB : leafB t = leI 4 t.n := by
  unfold leafB
  simp only [hk]
  rfl
 rw [eL] at hr hl ⊢
 rw [eB] at hA
 have hc := hA.cap
 have hmx := hA.mx
 have hmm := hA.len
 have hlen : (leI 4 t.n).length = 4 := leI_length 4 t.n
 have hi := O.int hk
 have hOK : ∀ W, Below w.heap.size w W → Calls Tryz.prog 85 #[.agg #[.int .u8 16, .slice (some ⟨b, o, none⟩) m c]] W (OkAns (.int .i32 t.n) W) := fun W hW =>
  Int32OK_ok fun W2 hW2 => ReadInt32_rd (ReadI32_rd b o m c t.n [] W2 ((hA.byt.below hW hA.lt).below hW2 (Nat.lt_of_lt_of_le hA.lt hW.size)).nil_right hi (by simp; omega) hc hmx)
 have hF : ∀ W, Below w.heap.size w W → Calls Tryz.prog 55 #[.int .i64 t.n, .int .i64 10] W (TxtIs (numF t.n) W) := fun W hW => FormatInt_calls t.n R.n.1 R.n.2 W (E.pow.below (hw.trans (hW.mono hw.size)))
 refine (StringN_16 hOK hF (by have := numF_len R.n.1 R.n.2; omega) n hn (fun z hz => hr z (by simpa [wrapL, quoL] using hz)) hi).mono fun e w' h => h.cast (by simp [wrapL, quoL])
theorem leaf_1 {D : Int → List Int} {w0 : World} (E : PEnv D w0) {t : VT} (O : LeafOk D t) (R : LeafR t) {b o m c : Nat} {w : World} (hw : Below w0.heap.size w0 w) (hk : t.kind = 1) (hA : LeafAt (leafB t) b o m c w) (hr : ∀ z ∈ leafL D t, 0 ≤ z ∧ z ≤ 255) (hl : (leafL D t).length ≤ 6000) : StrNOf (leafL D t) 1 b o m c w := by
 intro n hn
 have eL : leafL D t = wrapL [36, 110, 117, 109, 98, 101, 114, 68, 111, 117, 98, 108, 101] (quoL (D t.bits)) := by
  unfold leafL
  simp only [hk]
  rfl
 have eB : leafB t = leI 8 t.bits := by
  unfold leafB
  simp only [hk]
  rfl
 rw [eL] at hr hl ⊢
 rw [eB] at hA
 have hc := hA.cap
 have hmx := hA.mx
 have hmm := hA.len
 have hlen : (leI 8 t.bits).length = 8 := leI_length 8 t.bits
 have hd := O.dbl hk
 have hOK : ∀ W, Below w.heap.size w W → Calls Tryz.prog 68 #[.agg #[.int .u8 1, .slice (some ⟨b, o, none⟩) m c]] W (OkAns (.float .f64 t.bits.toNat) W) := fun W hW =>
  DoubleOK_ok fun W2 hW2 => ReadDouble_calls b o m c t.bits [] W2 ((hA.byt.below hW hA.lt).below hW2 (Nat.lt_of_lt_of_le hA.lt hW.size)).nil_right R.bits (by simp; omega) hc hmx (by omega)
 have hF : ∀ W, Below w.heap.size w W → Calls Tryz.prog 69 #[.float .f64 t.bits.toNat] W (TxtIs (D t.bits) W) := fun W hW => (E.dbl.core t.bits W R.bits.1 R.bits.2 (hw.trans (hW.mono hw.size)) hd.1 hd.2).mono fun e w' h => h.txt
 refine (StringN_1 hOK hF (by have := E.dbl.len t.bits; omega) n hn (fun z hz => hr z (by simpa [wrapL, quoL] using hz))).mono fun e w' h => h.cast (by simp [wrapL, quoL])
theorem leaf_2 {D : Int → List Int} {w0 : World} (E : PEnv D w0) {t : VT} (O : LeafOk D t) (R : LeafR t) {b o m c : Nat} {w : World} (hw : Below w0.heap.size w0 w) (hk : t.kind = 2) (hA : LeafAt (leafB t) b o m c w) (hr : ∀ z ∈ leafL D t, 0 ≤ z ∧ z ≤ 255) (hl : (leafL D t).length ≤ 6000) : StrNOf (leafL D t) 2 b o m c w := by
 intro n hn
 have eL : leafL D t = extStrF t.text true := by
  unfold leafL
  simp only [hk]
  rfl
 have eB : leafB t = txtB t.text := by
  unfold leafB
  simp only [hk]
  rfl
 rw [eL] at hr hl ⊢
 rw [eB] at hA
 have hc := hA.cap
 have hmx := hA.mx
 have hmm := hA.len
 have hlen : (txtB t.text).length = t.text.size + 5 := txtB_length t.text
 have ht := O.text
 have hOK : ∀ W, Below w.heap.size w W → Calls Tryz.prog 35 #[.agg #[.int .u8 2, .slice (some ⟨b, o, none⟩) m c]] W (OkAns (.string t.text) W) := fun W hW =>
  StringValueOK_ok fun W2 hW2 => ReadString_rd (readstring_calls b o m c t.text [] W2 ((hA.byt.below hW hA.lt).below hW2 (Nat.lt_of_lt_of_le hA.lt hW.size)).nil_right ht.1 (by simp; omega) hc hmx (by omega))
 have hF : ∀ W, Below w.heap.size w W → Calls Tryz.prog 65 #[.string t.text] W (TxtIs (extStrF t.text true) W) := fun W hW => esc_txt E (hw.trans (hW.mono hw.size)) ht.1 ht.2
 refine (StringN_2 hOK hF (by have := extStrF_length true ht.2; omega) n hn (fun z hz => hr z (by simpa [wrapL, quoL] using hz))).mono fun e w' h => h.cast (by simp [wrapL, quoL])
theorem leaf_13 {D : Int → List Int} {w0 : World} (E : PEnv D w0) {t : VT} (O : LeafOk D t) (R : LeafR t) {b o m c : Nat} {w : World} (hw : Below w0.heap.size w0 w) (hk : t.kind = 13) (hA : LeafAt (leafB t) b o m c w) (hr : ∀ z ∈ leafL D t, 0 ≤ z ∧ z ≤ 255) (hl : (leafL D t).length ≤ 6000) : StrNOf (leafL D t) 13 b o m c w := by
 intro n hn
 have eL : leafL D t = wrapL [36, 99, 111, 100, 101] (extStrF t.text true) := by
  unfold leafL
  simp only [hk]
  rfl
 have eB : leafB t = txtB t.text := by
  unfold leafB
  simp only [hk]
  rfl
 rw [eL] at hr hl ⊢
 rw [eB] at hA
 have hc := hA.cap
 have hmx := hA.mx
 have hmm := hA.len
 have hlen : (txtB t.text).length = t.text.size + 5 := txtB_length t.text
 have ht := O.text
 have hOK : ∀ W, Below w.heap.size w W → Calls Tryz.prog 81 #[.agg #[.int .u8 13, .slice (some ⟨b, o, none⟩) m c]] W (OkAns (.string t.text) W) := fun W hW =>
  JavaScriptOK_ok fun W2 hW2 => ReadJavaScript_rd (readstring_calls b o m c t.text [] W2 ((hA.byt.below hW hA.lt).below hW2 (Nat.lt_of_lt_of_le hA.lt hW.size)).nil_right ht.1 (by simp; omega) hc hmx (by omega))
 have hF : ∀ W, Below w.heap.size w W → Calls Tryz.prog 65 #[.string t.text] W (TxtIs (extStrF t.text true) W) := fun W hW => esc_txt E (hw.trans (hW.mono hw.size)) ht.1 ht.2
 refine (StringN_13 hOK hF (by have := extStrF_length true ht.2; omega) n hn (fun z hz => hr z (by simpa [wrapL, quoL] using hz))).mono fun e w' h => h.cast (by simp [wrapL, quoL])
theorem leaf_14 {D : Int → List Int} {w0 : World} (E : PEnv D w0) {t : VT} (O : LeafOk D t) (R : LeafR t) {b o m c : Nat} {w : World} (hw : Below w0.heap.size w0 w) (hk : t.kind = 14) (hA : LeafAt (leafB t) b o m c w) (hr : ∀ z ∈ leafL D t, 0 ≤ z ∧ z ≤ 255) (hl : (leafL D t).length ≤ 6000) : StrNOf (leafL D t) 14 b o m c w := by
 intro n hn
 have eL : leafL D t = wrapL [36, 115, 121, 109, 98, 111, 108] (extStrF t.text true) := by
  unfold leafL
  simp only [hk]
  rfl
 have eB : leafB t = txtB t.text := by
  unfold leafB
  simp only [hk]
  rfl
 rw [eL] at hr hl ⊢
 rw [eB] at hA
 have hc := hA.cap
 have hmx := hA.mx
 have hmm := hA.len
 have hlen : (txtB t.text).length = t.text.size + 5 := txtB_length t.text
 have ht := O.text
 have hOK : ∀ W, Below w.heap.size w W → Calls Tryz.prog 82 #[.agg #[.int .u8 14, .slice (some ⟨b, o, none⟩) m c]] W (OkAns (.string t.text) W) := fun W hW =>
  SymbolOK_ok fun W2 hW2 => ReadSymbol_rd (readstring_calls b o m c t.text [] W2 ((hA.byt.below hW hA.lt).below hW2 (Nat.lt_of_lt_of_le hA.lt hW.size)).nil_right ht.1 (by simp; omega) hc hmx (by omega))
 have hF : ∀ W, Below w.heap.size w W → Calls Tryz.prog 65 #[.string t.text] W (TxtIs (extStrF t.text true) W) := fun W hW => esc_txt E (hw.trans (hW.mono hw.size)) ht.1 ht.2
 refine (StringN_14 hOK hF (by have := extStrF_length true ht.2; omega) n hn (fun z hz => hr z (by simpa [wrapL, quoL] using hz))).mono fun e w' h => h.cast (by simp [wrapL, quoL])
theorem leaf_8 {D : Int → List Int} {w0 : World} (E : PEnv D w0) {t : VT} (O : LeafOk D t) (R : LeafR t) {b o m c : Nat} {w : World} (hw : Below w0.heap.size w0 w) (hk : t.kind = 8) (hA : LeafAt (leafB t) b o m c w) (hr : ∀ z ∈ leafL D t, 0 ≤ z ∧ z ≤ 255) (hl : (leafL D t).length ≤ 6000) : StrNOf (leafL D t) 8 b o m c w := by
 intro n hn
 have eL : leafL D t = if t.n = 1 then [116, 114, 117, 101] else [102, 97, 108, 115, 101] := by
  unfold leafL
  simp only [hk]
  rfl
 have eB : leafB t = [t.n % 256] := by
  unfold leafB
  simp only [hk]
  rfl
 rw [eL] at hr hl ⊢
 rw [eB] at hA
 have hc := hA.cap
 have hmx := hA.mx
 have hmm := hA.len
 have hb := O.bool hk
 have hOK : ∀ W, Below w.heap.size w W → Calls Tryz.prog 75 #[.agg #[.int .u8 8, .slice (some ⟨b, o, none⟩) m c]] W (OkAns (.bool (t.n % 256 == 1)) W) := fun W hW =>
  BooleanOK_ok fun W2 hW2 => ReadBoolean_calls b o m c (t.n % 256) [] W2 ((hA.byt.below hW hA.lt).below hW2 (Nat.lt_of_lt_of_le hA.lt hW.size)) (by simpa using hmm) hc hmx (by simp at hmm; omega)
 have hF : ∀ W, Below w.heap.size w W → Calls Tryz.prog 76 #[.bool (t.n % 256 == 1)] W (TxtIs (if t.n = 1 then [116, 114, 117, 101] else [102, 97, 108, 115, 101]) W) := fun W hW =>
  (Tryz.strconv_FormatBool _ W).mono fun e w' ⟨he, hw'⟩ => ⟨⟨_, he, (strIs_arr _).cast (by rcases hb with h | h <;> rw [h] <;> rfl)⟩, by rw [hw']; exact Below.refl _ _⟩
 exact StringN_8 hOK hF (by omega) n hn hr
theorem leaf_17 {D : Int → List Int} {w0 : World} (E : PEnv D w0) {t : VT} (O : LeafOk D t) (R : LeafR t) {b o m c : Nat} {w : World} (hw : Below w0.heap.size w0 w) (hk : t.kind = 17) (hA : LeafAt (leafB t) b o m c w) (hr : ∀ z ∈ leafL D t, 0 ≤ z ∧ z ≤ 255) (hl : (leafL D t).length ≤ 6000) : StrNOf (leafL D t) 17 b o m c w := by
 intro n hn
 have eL : leafL D t = wrapL [36, 116, 105, 109, 101, 115, 116, 97, 109, 112] ([123, 34, 116, 34, 58] ++ digs (t.bits / 4294967296).toNat ++ [44, 34, 105, 34, 58] ++ digs (t.bits % 4294967296).toNat ++ [125]) := by
  unfold leafL
  simp only [hk]
  rfl
 have eB : leafB t = leI 8 t.bits := by
  unfold leafB
  simp only [hk]
  rfl
 rw [eL] at hr hl ⊢
 rw [eB] at hA
 have hc := hA.cap
 have hmx := hA.mx
 have hmm := hA.len
 have hlen : (leI 8 t.bits).length = 8 := leI_length 8 t.bits
 have hx := R.bits
 have hq : 0 ≤ t.bits / 4294967296 ∧ t.bits / 4294967296 < 4294967296 := by omega
 have hq2 : 0 ≤ t.bits % 4294967296 ∧ t.bits % 4294967296 < 4294967296 := by omega
 have e20 : (10 : Nat) ^ 20 = 100000000000000000000 := by decide
 have hOK : ∀ W, Below w.heap.size w W → Calls Tryz.prog 86 #[.agg #[.int .u8 17, .slice (some ⟨b, o, none⟩) m c]] W (OkAns2 (.int .u32 (t.bits / 4294967296)) (.int .u32 (t.bits % 4294967296)) W) := fun W hW =>
  TimestampOK_ok fun W2 hW2 => ReadTimestamp_calls b o m c (t.bits % 4294967296) (t.bits / 4294967296) [] W2 (by
   have h := (hA.byt.below hW hA.lt).below hW2 (Nat.lt_of_lt_of_le hA.lt hW.size)
   rw [leI8_split] at h
   rw [List.append_nil]
   exact h) hq2 hq (by simp; omega) hc hmx (by omega)
 have hF0 : ∀ W, Below w.heap.size w W → Calls Tryz.prog 57 #[.int .u64 (t.bits / 4294967296), .int .i64 10] W (TxtIs (digs (t.bits / 4294967296).toNat) W) := fun W hW => by
  have h := FormatUint_calls (t.bits / 4294967296).toNat (by omega) W (E.pow.below (hw.trans (hW.mono hw.size)))
  rwa [Int.toNat_of_nonneg hq.1] at h
 have hF1 : ∀ W, Below w.heap.size w W → Calls Tryz.prog 57 #[.int .u64 (t.bits % 4294967296), .int .i64 10] W (TxtIs (digs (t.bits % 4294967296).toNat) W) := fun W hW => by
  have h := FormatUint_calls (t.bits % 4294967296).toNat (by omega) W (E.pow.below (hw.trans (hW.mono hw.size)))
  rwa [Int.toNat_of_nonneg hq2.1] at h
 refine (StringN_17 hOK hF0 (by have := digs_len20 (n := (t.bits / 4294967296).toNat) (by omega); omega) hF1 (by have := digs_len20 (n := (t.bits % 4294967296).toNat) (by omega); omega) n hn (fun z hz => hr z (by simpa [wrapL, quoL] using hz)) hq hq2).mono fun e w' h => h.cast (by simp [wrapL, quoL])
theorem leaf_19 {D : Int → List Int} {w0 : World} (E : PEnv D w0) {t : VT} (O : LeafOk D t) (R : LeafR t) {b o m c : Nat} {w : World} (hw : Below w0.heap.size w0 w) (hk : t.kind = 19) (hA : LeafAt (leafB t) b o m c w) (hr : ∀ z ∈ leafL D t, 0 ≤ z ∧ z ≤ 255) (hl : (leafL D t).length ≤ 6000) : StrNOf (leafL D t) 19 b o m c w := by
 intro n hn
 have eL : leafL D t = wrapL [36, 110, 117, 109, 98, 101, 114, 68, 101, 99, 105, 109, 97, 108] (quoL (decTextF (decKind t.high) (decNeg t.high) (decDig t.high t.bits) (decExp t.high))) := by
  unfold leafL
  simp only [hk]
  rfl
 have eB : leafB t = leI 8 t.bits ++ leI 8 t.high := by
  unfold leafB
  simp only [hk]
  rfl
 rw [eL] at hr hl ⊢
 rw [eB] at hA
 have hc := hA.cap
 have hmx := hA.mx
 have hmm := hA.len
 have hlen : (leI 8 t.bits).length = 8 := leI_length 8 t.bits
 have hlen2 : (leI 8 t.high).length = 8 := leI_length 8 t.high
 rw [List.length_append] at hmm
 have hdl := decDig_length t.high t.bits R.high.1 R.high.2 R.bits.1 R.bits.2
 have hd34 : (decDig t.high t.bits).length ≤ 34 := by
  by_cases hz : decKind t.high = 0
  ·exact (O.dec hk hz).1
  ·unfold decDig; rw [if_pos hz]; exact Nat.zero_le _
 have hde : -100000 ≤ decExp t.high ∧ decExp t.high ≤ 100000 := by
  have := R.high
  unfold decExp
  split
  ·omega
  ·split <;> omega
 have hOK : ∀ W, Below w.heap.size w W → Calls Tryz.prog 88 #[.agg #[.int .u8 19, .slice (some ⟨b, o, none⟩) m c]] W (OkAns2 (.int .u64 t.high) (.int .u64 t.bits) W) := fun W hW =>
  Decimal128OK_ok fun W2 hW2 => ReadDecimal128_calls b o m c t.bits t.high [] W2 (by
   have h := (hA.byt.below hW hA.lt).below hW2 (Nat.lt_of_lt_of_le hA.lt hW.size)
   rw [List.append_nil]
   exact h) R.bits R.high (by simp; omega) hc hmx (by omega)
 have hF0 : ∀ W, Below w.heap.size w W → Calls Tryz.prog 89 #[.int .u64 t.high, .int .u64 t.bits] W (TxtIs (decTextF (decKind t.high) (decNeg t.high) (decDig t.high t.bits) (decExp t.high)) W) := fun W hW =>
  (decString_calls t.high t.bits R.high.1 R.high.2 R.bits.1 R.bits.2 hd34 W (fun W2 hW2 => E.pow.below ((hw.trans (hW.mono hw.size)).trans (hW2.mono (hw.trans (hW.mono hw.size)).size)))).mono fun e w' h => h.txt
 refine (StringN_19 hOK hF0 (by have := decText_length (k := decKind t.high) (neg := decNeg t.high) (e := decExp t.high) hdl.1 hde.1 hde.2; omega) n hn (fun z hz => hr z (by simpa [wrapL, quoL] using hz))).mono fun e w' h => h.cast (by simp [wrapL, quoL])
theorem leaf_7 {D : Int → List Int} {w0 : World} (E : PEnv D w0) {t : VT} (O : LeafOk D t) (R : LeafR t) {b o m c : Nat} {w : World} (hw : Below w0.heap.size w0 w) (hk : t.kind = 7) (hA : LeafAt (leafB t) b o m c w) (hr : ∀ z ∈ leafL D t, 0 ≤ z ∧ z ≤ 255) (hl : (leafL D t).length ≤ 6000) : StrNOf (leafL D t) 7 b o m c w := by
 intro n hn
 have eL : leafL D t = wrapL [36, 111, 105, 100] (quoL (hexL t.bs)) := by
  unfold leafL
  simp only [hk]
  rfl
 have eB : leafB t = t.bs := by
  unfold leafB
  simp only [hk]
  rfl
 rw [eL] at hr hl ⊢
 rw [eB] at hA
 have hc := hA.cap
 have hmx := hA.mx
 have hmm := hA.len
 have h12 := O.id (.inl hk)
 obtain ⟨bs, hbs⟩ : ∃ bs, t.bs = bs := ⟨_, rfl⟩
 have hrb := R.bs
 rw [hbs] at h12 hA hr hl hrb hmm ⊢
 have hOK : ∀ W, Below w.heap.size w W → Calls Tryz.prog 73 #[.agg #[.int .u8 7, .slice (some ⟨b, o, none⟩) m c]] W (OkAns (idV bs) W) := fun W hW =>
  ObjectIDOK_ok h12 fun W2 hW2 => ReadObjectID_calls b o m c bs [] W2 h12 ((hA.byt.below hW hA.lt).below hW2 (Nat.lt_of_lt_of_le hA.lt hW.size)).nil_right (by simp; omega) hc hmx (by omega)
 have hF0 : ∀ W, Below w.heap.size w W → Calls Tryz.prog 74 #[idV bs] W (TxtIs (hexL bs) W) := fun W hW => id_txt h12 hrb W
 have hl7 := hexL_length bs
 obtain ⟨x0, x1, x2, x3, x4, x5, x6, x7, x8, x9, x10, x11, rfl⟩ := twelve h12
 refine (StringN_7 hOK hF0 (by omega) n hn (fun z hz => hr z (by simpa [wrapL, quoL] using hz))).mono fun e w' h => h.cast (by simp [wrapL, quoL])
theorem leaf_12 {D : Int → List Int} {w0 : World} (E : PEnv D w0) {t : VT} (O : LeafOk D t) (R : LeafR t) {b o m c : Nat} {w : World} (hw : Below w0.heap.size w0 w) (hk : t.kind = 12) (hA : LeafAt (leafB t) b o m c w) (hr : ∀ z ∈ leafL D t, 0 ≤ z ∧ z ≤ 255) (hl : (leafL D t).length ≤ 6000) : StrNOf (leafL D t) 12 b o m c w := by
 intro n hn
 have eL : leafL D t = wrapL [36, 100, 98, 80, 111, 105, 110, 116, 101, 114] ([123, 34, 36, 114, 101, 102, 34, 58] ++ extStrF t.text true ++ [44, 34, 36, 105, 100, 34, 58, 123, 34, 36, 111, 105, 100, 34, 58] ++ quoL (hexL t.bs) ++ [125, 125]) := by
  unfold leafL
  simp only [hk]
  rfl
 have eB : leafB t = txtB t.text ++ t.bs := by
  unfold leafB
  simp only [hk]
  rfl
 rw [eL] at hr hl ⊢
 rw [eB] at hA
 have hc := hA.cap
 have hmx := hA.mx
 have hmm := hA.len
 have h12 := O.id (.inr hk)
 have ht := O.text
 have hlen : (txtB t.text).length = t.text.size + 5 := txtB_length t.text
 rw [List.length_append] at hmm
 obtain ⟨bs, hbs⟩ : ∃ bs, t.bs = bs := ⟨_, rfl⟩
 have hrb := R.bs
 rw [hbs] at h12 hA hr hl hrb hmm ⊢
 have hOK : ∀ W, Below w.heap.size w W → Calls Tryz.prog 80 #[.agg #[.int .u8 12, .slice (some ⟨b, o, none⟩) m c]] W (OkAns2 (.string t.text) (idV bs) W) := fun W hW =>
  DBPointerOK_ok h12 fun W2 hW2 => ReadDBPointer_calls b o m c t.text bs [] W2 h12 (by
   have h := (hA.byt.below hW hA.lt).below hW2 (Nat.lt_of_lt_of_le hA.lt hW.size)
   rw [List.append_nil]
   exact h) ht.1 (by simp; omega) hc hmx (by omega)
 have hF0 : ∀ W, Below w.heap.size w W → Calls Tryz.prog 65 #[.string t.text] W (TxtIs (extStrF t.text true) W) := fun W hW => esc_txt E (hw.trans (hW.mono hw.size)) ht.1 ht.2
 have hF1 : ∀ W, Below w.heap.size w W → Calls Tryz.prog 74 #[idV bs] W (TxtIs (hexL bs) W) := fun W hW => id_txt h12 hrb W
 have hl7 := hexL_length bs
 obtain ⟨x0, x1, x2, x3, x4, x5, x6, x7, x8, x9, x10, x11, rfl⟩ := twelve h12
 refine (StringN_12 hOK hF0 (by have := extStrF_length true ht.2; omega) hF1 (by omega) n hn (fun z hz => hr z (by simpa [wrapL, quoL] using hz))).mono fun e w' h => h.cast (by simp [wrapL, quoL])
theorem letters_quo {s : ByteArray} (h : ∀ j, j < s.size → 97 ≤ bt s j ∧ bt s j ≤ 122 ∧ (0 < j → bt s (j - 1) ≤ bt s j)) : extStrF s true = quoL (bytesOf s) := by
 have key : ∀ f k, k ≤ s.size → s.size < k + f → extStrL s true f k = (bytesOf s).drop k := by
  intro f
  induction f with
  | zero => intro k a b; omega
  | succ f ih =>
   intro k hk hf
   unfold extStrL
   by_cases hlt : k < s.size
   ·rw [if_pos hlt]
    have hb := h k hlt
    have hr : runeF (fun j => bt s (k + j)) (s.size - k) = (1, bt s k) := by
     rw [runeF_small (by omega) (by show bt s (k + 0) < 128; rw [Nat.add_zero]; omega)]
     rfl
    rw [hr]
    have h1 : (1 : Int).toNat = 1 := rfl
    rw [h1, ih (k + 1) (by omega) (by omega)]
    have hesc : escC true (bt s k) (bytesOf (s.extract k (k + 1))) = bytesOf (s.extract k (k + 1)) := by
     unfold escC
     rw [if_neg (by omega), if_neg (by omega), if_neg (by omega), if_neg (by omega), if_neg (by omega), if_neg (by omega), if_neg (by omega), if_neg (by omega)]
    rw [hesc, bytes_extract, Nat.add_sub_cancel_left]
    have hkl : k < (bytesOf s).length := by rw [bytesOf_length]; exact hlt
    rw [List.drop_eq_getElem_cons hkl]
    rfl
   ·rw [if_neg hlt, List.drop_of_length_le (by rw [bytesOf_length]; omega)]
 unfold extStrF quoL
 rw [key (s.size + 1) 0 (by omega) (by omega), List.drop_zero]
theorem leaf_11 {D : Int → List Int} {w0 : World} (E : PEnv D w0) {t : VT} (O : LeafOk D t) (R : LeafR t) {b o m c : Nat} {w : World} (hw : Below w0.heap.size w0 w) (hk : t.kind = 11) (hA : LeafAt (leafB t) b o m c w) (hr : ∀ z ∈ leafL D t, 0 ≤ z ∧ z ≤ 255) (hl : (leafL D t).length ≤ 6000) : StrNOf (leafL D t) 11 b o m c w := by
 intro n hn
 have eL : leafL D t = wrapL [36, 114, 101, 103, 117, 108, 97, 114, 69, 120, 112, 114, 101, 115, 115, 105, 111, 110] ([123, 34, 112, 97, 116, 116, 101, 114, 110, 34, 58] ++ extStrF t.text true ++ [44, 34, 111, 112, 116, 105, 111, 110, 115, 34, 58] ++ extStrF t.more true ++ [125]) := by
  unfold leafL
  simp only [hk]
  rfl
 have eB : leafB t = bytesOf t.text ++ 0 :: (bytesOf t.more ++ [0]) := by
  unfold leafB
  simp only [hk]
  rfl
 rw [eL] at hr hl ⊢
 rw [eB] at hA
 have hc := hA.cap
 have hmx := hA.mx
 have hmm := hA.len
 have hx := O.rex hk
 have ht := O.text
 have hq := O.more
 have e1 := bytesOf_length t.text
 have e2 := bytesOf_length t.more
 simp only [List.length_append, List.length_cons, List.length_nil, e1, e2] at hmm
 have hsrt : ∀ j, j < t.more.size → 97 ≤ bt t.more j ∧ bt t.more j ≤ 122 ∧ (0 < j → bt t.more (j - 1) ≤ bt t.more j) := hx.2.2
 have heq : extStrF t.more true = quoL (bytesOf t.more) := letters_quo hsrt
 have hOK : ∀ W, Below w.heap.size w W → Calls Tryz.prog 78 #[.agg #[.int .u8 11, .slice (some ⟨b, o, none⟩) m c]] W (OkAns2 (.string t.text) (.string t.more) W) := fun W hW =>
  RegexOK_ok fun W2 hW2 => ReadRegex_calls b o m c t.text t.more [] W2 ((hA.byt.below hW hA.lt).below hW2 (Nat.lt_of_lt_of_le hA.lt hW.size)) hx.1 hx.2.1 ht.1 hq.1 (by simp; omega) hc hmx (by omega)
 have hF0 : ∀ W, Below w.heap.size w W → Calls Tryz.prog 65 #[.string t.text] W (TxtIs (extStrF t.text true) W) := fun W hW => esc_txt E (hw.trans (hW.mono hw.size)) ht.1 ht.2
 have hF1 : ∀ W, Below w.heap.size w W → Calls Tryz.prog 79 #[.string t.more] W (TxtIs (bytesOf t.more) W) := fun W hW =>
  (sortString_calls t.more hq.1 hsrt W).mono fun e w' ⟨he, hb⟩ => ⟨⟨_, he, strIs_bytes _⟩, hb⟩
 rw [heq] at hr hl ⊢
 refine (StringN_11 hOK hF0 (by have := extStrF_length true ht.2; omega) hF1 (by omega) n hn (fun z hz => hr z (by simpa [wrapL, quoL] using hz))).mono fun e w' h => h.cast (by simp [wrapL, quoL])
theorem leaf_5 {D : Int → List Int} {w0 : World} (E : PEnv D w0) {t : VT} (O : LeafOk D t) (R : LeafR t) {b o m c : Nat} {w : World} (hw : Below w0.heap.size w0 w) (hk : t.kind = 5) (hA : LeafAt (leafB t) b o m c w) (hr : ∀ z ∈ leafL D t, 0 ≤ z ∧ z ≤ 255) (hl : (leafL D t).length ≤ 6000) : StrNOf (leafL D t) 5 b o m c w := by
 intro n hn
 have eL : leafL D t = wrapL [36, 98, 105, 110, 97, 114, 121] ([123, 34, 98, 97, 115, 101, 54, 52, 34, 58, 34] ++ b64L t.bs ++ [34, 44, 34, 115, 117, 98, 84, 121, 112, 101, 34, 58, 34] ++ [hexd (t.n / 16), hexd (t.n % 16)] ++ [34, 125]) := by
  unfold leafL
  simp only [hk]
  rfl
 have eB : leafB t = (if t.n = 2 then leI 4 (t.bs.length + 4) ++ 2 :: leI 4 t.bs.length else leI 4 t.bs.length ++ [t.n % 256]) ++ t.bs := by
  unfold leafB
  simp only [hk]
  rfl
 rw [eL] at hr hl ⊢
 rw [eB] at hA
 have hc := hA.cap
 have hmx := hA.mx
 have hmm := hA.len
 have hb := O.bin hk
 have hbl := O.bs
 obtain ⟨o2, hBy, hm2, hRB⟩ : ∃ o2, (∀ W, Below w.heap.size w W → Byt W b o2 t.bs) ∧ True ∧ ∀ W, Below w.heap.size w W → Calls Tryz.prog 117 #[.slice (some ⟨b, o, none⟩) m c] W (BinAns t.n t.bs.length b o2 W) := by
  by_cases h2 : t.n = 2
  ·rw [if_pos h2] at hA hmm
   have hmm2 : m = 9 + t.bs.length := by simp only [List.length_append, List.length_cons, leI_length] at hmm; omega
   refine ⟨o + 9, fun W hW => ?_, trivial, fun W hW => ?_⟩
   ·have h := (hA.byt.below hW hA.lt).right
    simp only [List.length_append, List.length_cons, leI_length] at h
    exact h
   ·rw [h2]
    refine ReadBinary_two b o m c t.bs.length t.bs W ?_ (Nat.le_refl _) (by omega) hmm2 hc hmx (by omega)
    have h := hA.byt.below hW hA.lt
    rw [List.append_assoc] at h
    exact h
  ·rw [if_neg h2] at hA hmm
   have hmm2 : m = 5 + t.bs.length := by simp only [List.length_append, List.length_cons, List.length_nil, leI_length] at hmm; omega
   have hn256 : t.n % 256 = t.n := by omega
   rw [hn256] at hA
   refine ⟨o + 5, fun W hW => ?_, trivial, fun W hW => ?_⟩
   ·have h := (hA.byt.below hW hA.lt).right
    simp only [List.length_append, List.length_cons, List.length_nil, leI_length] at h
    exact h
   ·refine ReadBinary_other b o m c t.bs.length t.n t.bs W ?_ h2 (Nat.le_refl _) (by omega) hmm2 hc hmx (by omega)
    have h := hA.byt.below hW hA.lt
    rw [List.append_assoc] at h
    exact h
 have hOK := fun W (hW : Below w.heap.size w W) => BinaryOK_bin (v := .slice (some ⟨b, o, none⟩) m c) (w := W) fun W2 hW2 => hRB W2 (hW.trans (hW2.mono hW.size))
 have hF0 : ∀ W o' C, Below w.heap.size w W → (t.bs.length = 0 ∨ o' = o2) → t.bs.length ≤ C → C ≤ maxLen → Calls Tryz.prog 71 #[.slice (some ⟨b, o', none⟩) t.bs.length C] W (TxtIs (b64L t.bs) W) := fun W o' C hW q1 q2 q3 =>
  (zzBase64_calls b o' t.bs.length C t.bs W rfl (by
   rcases q1 with q1 | q1
   ·intro j hj; omega
   ·rw [q1]; exact hBy W hW) R.bs (Nat.lt_of_lt_of_le hA.lt hW.size) (by omega) q2 q3).mono fun e w' ⟨he, hb⟩ => ⟨⟨_, he, .of _⟩, hb⟩
 have hF1 : ∀ W, Below w.heap.size w W → Calls Tryz.prog 72 #[.int .u8 t.n] W (TxtIs [hexd (t.n / 16), hexd (t.n % 16)] W) := fun W hW =>
  (zzHex2_calls t.n hb.1 hb.2 W).mono fun e w' ⟨u, he, hu, hb⟩ => ⟨⟨u, he, hu⟩, hb⟩
 refine (StringN_5 hOK hF0 (by have := b64L_length t.bs; omega) hF1 (by simp) n hn (fun z hz => hr z (by simpa [wrapL, quoL] using hz))).mono fun e w' h => h.cast (by simp [wrapL, quoL])
theorem leaf_all {D : Int → List Int} {w0 : World} (E : PEnv D w0) {t : VT} (O : LeafOk D t) (R : LeafR t) (h3 : t.kind ≠ 3) (h4 : t.kind ≠ 4) {b o m c : Nat} {w : World} (hw : Below w0.heap.size w0 w) (hA : LeafAt (leafB t) b o m c w) : StrNOf (leafL D t) t.kind b o m c w := by
 have hr : ∀ z ∈ leafL D t, 0 ≤ z ∧ z ≤ 255 := (leaf_own O E.dbl.low R.bs h3 h4).1.range
 have hl := leafL_length O E.dbl.len R.n R.bits R.high
 have hns := O.noscope
 rcases known_cases O.known with h | h | h | h | h | h | h | h | h | h | h | h | h | h | h | h | h | h | h | h | h
 ·have := leaf_1 E O R hw h hA hr hl
  rwa [← h] at this
 ·have := leaf_2 E O R hw h hA hr hl
  rwa [← h] at this
 ·exact absurd h h3
 ·exact absurd h h4
 ·have := leaf_5 E O R hw h hA hr hl
  rwa [← h] at this
 ·have := leaf_6 E O R hw h hA hr hl
  rwa [← h] at this
 ·have := leaf_7 E O R hw h hA hr hl
  rwa [← h] at this
 ·have := leaf_8 E O R hw h hA hr hl
  rwa [← h] at this
 ·have := leaf_9 E O R hw h hA hr hl
  rwa [← h] at this
 ·have := leaf_10 E O R hw h hA hr hl
  rwa [← h] at this
 ·have := leaf_11 E O R hw h hA hr hl
  rwa [← h] at this
 ·have := leaf_12 E O R hw h hA hr hl
  rwa [← h] at this
 ·have := leaf_13 E O R hw h hA hr hl
  rwa [← h] at this
 ·have := leaf_14 E O R hw h hA hr hl
  rwa [← h] at this
 ·exact absurd h hns
 ·have := leaf_16 E O R hw h hA hr hl
  rwa [← h] at this
 ·have := leaf_17 E O R hw h hA hr hl
  rwa [← h] at this
 ·have := leaf_18 E O R hw h hA hr hl
  rwa [← h] at this
 ·have := leaf_19 E O R hw h hA hr hl
  rwa [← h] at this
 ·have := leaf_255 E O R hw h hA hr hl
  rwa [← h] at this
 ·have := leaf_127 E O R hw h hA hr hl
  rwa [← h] at this
theorem vlen_text {t : VT} {k : Int} (hk : k = 2 ∨ k = 13 ∨ k = 14) {b o m c : Nat} {w : World} (rest : List Int) (hs : t.text.size ≤ 300) (hB : Byt w b o (txtB t.text ++ rest)) (hm : m = (txtB t.text).length + rest.length) (hc : m ≤ c) (hmx : c ≤ maxLen) :
  Calls Tryz.prog 108 #[.slice (some ⟨b, o, none⟩) m c, .int .u8 k] w (LenAns ((txtB t.text).length : Nat) w) := by
 have hl := txtB_length t.text
 have e : txtB t.text ++ rest = leI 4 ((t.text.size : Int) + 1) ++ (bytesOf t.text ++ [0] ++ rest) := by unfold txtB; simp
 have hbl := bytesOf_length t.text
 rw [e] at hB
 have hm2 : m = 4 + (bytesOf t.text ++ [0] ++ rest).length := by simp [hbl]; omega
 have hn : (0 : Int) ≤ (t.text.size : Int) + 1 ∧ (t.text.size : Int) + 1 < 1000000000 := by omega
 have he : ((t.text.size : Int) + 1 + 4) = ((txtB t.text).length : Int) := by rw [hl]; omega
 rw [← he]
 rcases hk with rfl | rfl | rfl
 ·exact vlen_2 b o m c _ _ w hB hn hm2 hc hmx
 ·exact vlen_13 b o m c _ _ w hB hn hm2 hc hmx
 ·exact vlen_14 b o m c _ _ w hB hn hm2 hc hmx
theorem vlen_all {D : Int → List Int} {d : Nat} {t : VT} (h : t.Ok D (d + 1)) {b o m c : Nat} {w : World} (rest : List Int) (hB : Byt w b o (t.doc (d + 1) ++ rest)) (hm : m = (t.doc (d + 1)).length + rest.length) (hc : m ≤ c) (hmx : c ≤ maxLen) (hml : m ≤ 900000000) :
  Calls Tryz.prog 108 #[.slice (some ⟨b, o, none⟩) m c, .int .u8 t.kind] w (LenAns ((t.doc (d + 1)).length : Nat) w) := by
 obtain ⟨O, _, _⟩ := h
 by_cases hd : t.kind = 3 ∨ t.kind = 4
 ·have e : t.doc (d + 1) = docOf ((t.kids.map fun x => headB x.2.kind x.1 ++ VT.doc d x.2).flatten) := by
   show (if t.kind = 3 ∨ t.kind = 4 then _ else _) = _
   rw [if_pos hd]
  rw [e] at hB hm ⊢
  generalize (t.kids.map fun x => headB x.2.kind x.1 ++ VT.doc d x.2).flatten = body at hB hm ⊢
  have e2 : docOf body ++ rest = leI 4 ((body.length : Int) + 5) ++ (body ++ [0] ++ rest) := by unfold docOf; simp
  have hl : (docOf body).length = body.length + 5 := by unfold docOf; simp [leI_length]; omega
  rw [e2] at hB
  have hm2 : m = 4 + (body ++ [0] ++ rest).length := by simp; omega
  have hn : (0 : Int) ≤ (body.length : Int) + 5 ∧ (body.length : Int) + 5 < 1000000000 := by omega
  have he : ((body.length : Int) + 5 + 0) = ((docOf body).length : Int) := by rw [hl]; omega
  rw [← he]
  rcases hd with hk | hk
  ·rw [hk]; exact vlen_3 b o m c _ _ w hB hn hm2 hc hmx
  ·rw [hk]; exact vlen_4 b o m c _ _ w hB hn hm2 hc hmx
 ·have e : t.doc (d + 1) = leafB t := by
   show (if t.kind = 3 ∨ t.kind = 4 then _ else _) = _
   rw [if_neg hd]
  rw [e] at hB hm ⊢
  have hns := O.noscope
  have ht := O.text
  rcases known_cases O.known with k | k | k | k | k | k | k | k | k | k | k | k | k | k | k | k | k | k | k | k | k
  ·have eB : leafB t = leI 8 t.bits := by unfold leafB; simp only [k]; rfl
   rw [eB, leI_length, k]; exact vlen_1 _ w
  ·have eB : leafB t = txtB t.text := by unfold leafB; simp only [k]; rfl
   rw [eB] at hB hm ⊢
   rw [k]; exact vlen_text (.inl rfl) rest ht.1 hB hm hc hmx
  ·exact absurd (.inl k) hd
  ·exact absurd (.inr k) hd
  ·have eB : leafB t = (if t.n = 2 then leI 4 (t.bs.length + 4) ++ 2 :: leI 4 t.bs.length else leI 4 t.bs.length ++ [t.n % 256]) ++ t.bs := by unfold leafB; simp only [k]; rfl
   have hbl := O.bs
   rw [eB] at hB hm ⊢
   rw [k]
   by_cases h2 : t.n = 2
   ·rw [if_pos h2] at hB hm ⊢
    have hl : (leI 4 ((t.bs.length : Int) + 4) ++ 2 :: leI 4 t.bs.length ++ t.bs).length = t.bs.length + 9 := by simp [leI_length]; omega
    rw [hl] at hm ⊢
    have he : (((t.bs.length + 9 : Nat)) : Int) = ((t.bs.length : Int) + 4) + 5 := by omega
    rw [he]
    refine vlen_5 b o m c _ (2 :: leI 4 t.bs.length ++ t.bs ++ rest) w (by simpa using hB) (by omega) (by simp [leI_length]; omega) hc hmx
   ·rw [if_neg h2] at hB hm ⊢
    have hl : (leI 4 (t.bs.length : Int) ++ [t.n % 256] ++ t.bs).length = t.bs.length + 5 := by simp [leI_length]; omega
    rw [hl] at hm ⊢
    have he : (((t.bs.length + 5 : Nat)) : Int) = (t.bs.length : Int) + 5 := by omega
    rw [he]
    refine vlen_5 b o m c _ ([t.n % 256] ++ t.bs ++ rest) w (by simpa using hB) (by omega) (by simp; omega) hc hmx
  ·have eB : leafB t = [] := by unfold leafB; simp only [k]; rfl
   rw [eB, k]; exact vlen_6 _ w
  ·have eB : leafB t = t.bs := by unfold leafB; simp only [k]; rfl
   rw [eB, O.id (.inl k), k]; exact vlen_7 _ w
  ·have eB : leafB t = [t.n % 256] := by unfold leafB; simp only [k]; rfl
   rw [eB, k]; exact vlen_8 _ w
  ·have eB : leafB t = leI 8 t.n := by unfold leafB; simp only [k]; rfl
   rw [eB, leI_length, k]; exact vlen_9 _ w
  ·have eB : leafB t = [] := by unfold leafB; simp only [k]; rfl
   rw [eB, k]; exact vlen_10 _ w
  ·have eB : leafB t = bytesOf t.text ++ 0 :: (bytesOf t.more ++ [0]) := by unfold leafB; simp only [k]; rfl
   have hx := O.rex k
   have e1 := bytesOf_length t.text
   have e2 := bytesOf_length t.more
   rw [eB] at hB hm ⊢
   have hl : (bytesOf t.text ++ 0 :: (bytesOf t.more ++ [(0 : Int)])).length = t.text.size + 1 + (t.more.size + 1) := by simp [e1, e2]; omega
   rw [hl] at hm ⊢
   rw [k]
   exact vlen_11 b o m c t.text t.more rest w (by simpa using hB) hx.1 hx.2.1 ht.1 O.more.1 (by omega) hc hmx (by omega)
  ·have eB : leafB t = txtB t.text ++ t.bs := by unfold leafB; simp only [k]; rfl
   have h12 := O.id (.inr k)
   have hl := txtB_length t.text
   have hbl := bytesOf_length t.text
   rw [eB] at hB hm ⊢
   rw [List.length_append] at hm ⊢
   rw [hl, h12] at hm ⊢
   rw [k]
   have he : (((t.text.size + 5 + 12 : Nat)) : Int) = ((t.text.size : Int) + 1) + 16 := by omega
   rw [he]
   refine vlen_12 b o m c _ (bytesOf t.text ++ [0] ++ t.bs ++ rest) w ?_ (by omega) (by simp [hbl]; omega) hc hmx
   unfold txtB at hB
   simpa using hB
  ·have eB : leafB t = txtB t.text := by unfold leafB; simp only [k]; rfl
   rw [eB] at hB hm ⊢
   rw [k]; exact vlen_text (.inr (.inl rfl)) rest ht.1 hB hm hc hmx
  ·have eB : leafB t = txtB t.text := by unfold leafB; simp only [k]; rfl
   rw [eB] at hB hm ⊢
   rw [k]; exact vlen_text (.inr (.inr rfl)) rest ht.1 hB hm hc hmx
  ·exact absurd k hns
  ·have eB : leafB t = leI 4 t.n := by unfold leafB; simp only [k]; rfl
   rw [eB, leI_length, k]; exact vlen_16 _ w
  ·have eB : leafB t = leI 8 t.bits := by unfold leafB; simp only [k]; rfl
   rw [eB, leI_length, k]; exact vlen_17 _ w
  ·have eB : leafB t = leI 8 t.n := by unfold leafB; simp only [k]; rfl
   rw [eB, leI_length, k]; exact vlen_18 _ w
  ·have eB : leafB t = leI 8 t.bits ++ leI 8 t.high := by unfold leafB; simp only [k]; rfl
   rw [eB, List.length_append, leI_length, leI_length, k]; exact vlen_19 _ w
  ·have eB : leafB t = [] := by unfold leafB; simp only [k]; rfl
   rw [eB, k]; exact vlen_255 _ w
  ·have eB : leafB t = [] := by unfold leafB; simp only [k]; rfl
   rw [eB, k]; exact vlen_127 _ w
theorem ReadElement_calls (b o m c nl L : Nat) (K : Int) (name : ByteArray) (w : World) (hB : Byt w b o (K :: (bytesOf name ++ [0]))) (hbw : b < w.heap.size) (hp : plainF name = true) (hns : name.size = nl) (hnl : nl ≤ 300)
  (hm : nl + 2 + L < m) (hc : m ≤ c) (hmx : c ≤ maxLen) (hml : m ≤ 900000000)
  (hV : Calls Tryz.prog 108 #[.slice (some ⟨b, o + (nl + 2), none⟩) (m - (nl + 2)) (c - (nl + 2)), .int .u8 K] w (LenAns L w)) :
  Calls Tryz.prog 92 #[.slice (some ⟨b, o, none⟩) m c] w fun e w' => e = .returned (.tuple #[.slice (some ⟨b, o, none⟩) (nl + 2 + L) c, .slice (some ⟨b, o + (nl + 2 + L), none⟩) (m - (nl + 2 + L)) (c - (nl + 2 + L)), .bool true]) ∧ Below w.heap.size w w' := by
 have hbl := bytesOf_length name
 rw [hns] at hbl
 have hpb := plain_bytes hp
 have q0 : w.cell? ⟨b, o, none⟩ = some (.int .u8 K) := hB 0 (by simp)
 have HCE : Hid (∀ i, i < nl → ∃ x : Int, w.cell? ⟨b, o + (i + 1), none⟩ = some (.int .u8 x) ∧ x ≠ 0) := fun i hi => by
  have h := hB (i + 1) (by simp; omega)
  refine ⟨_, h, ?_⟩
  have h2 : rn (K :: (bytesOf name ++ [0])) (i + 1) = rn (bytesOf name) i := by
   show rn (bytesOf name ++ [0]) i = _
   rw [rn_app_lt (by omega)]
  rw [h2, rn_lt (by omega)]
  have := hpb _ (List.getElem_mem (by omega : i < (bytesOf name).length))
  omega
 have HC0 : w.cell? ⟨b, o + (nl + 1), none⟩ = some (.int .u8 0) := by
  have h := hB (nl + 1) (by simp; omega)
  have h2 : rn (K :: (bytesOf name ++ [0])) (nl + 1) = 0 := by
   show rn (bytesOf name ++ [0]) nl = _
   rw [rn_app_ge (by omega), hbl, Nat.sub_self]
   rfl
  rwa [h2] at h
 have HVL := Lib.hid hV
 unfold maxLen at hmx
 clear hV hB hpb hp hbl hns
 have d1 : decide ((m : Int) < 1) = false := decide_eq_false (by omega)
 obtain ⟨E, hE⟩ : ∃ E : Nat, nl + 2 + L = E := ⟨_, rfl⟩
 rw [hE] at hm ⊢
 have hnm : nl + 2 < m := by omega
 have HE := Lib.hid hE
 clear hE
 go_enter Tryz.func92, Tryz.ntmps92
 go_wp2_with fail
 go_loop [6] (fun i => ∃ k : Nat, k ≤ nl ∧ i = .int .i64 ((k : Int) + 1)) (fun i => nl + 2 - (intOf i).toNat)
 case atStart => exact ⟨0, Nat.zero_le _, rfl⟩
 case round =>
  obtain ⟨k, hk, rfl⟩ := hrel
  have d2 : decide ((k : Int) + 1 < m) = true := decide_eq_true (by omega)
  by_cases hkn : k < nl
  ·obtain ⟨x, hx, hx0⟩ := HCE.out k hkn
   have d3 : (x != 0) = true := by rw [bne_iff_ne]; exact hx0
   have d4 : (x == 0) = false := beq_eq_false_iff_ne.2 hx0
   clear hx0
   go_wp2_with fail
   exact ⟨⟨k + 1, by omega, rfl⟩, by simp [intOf]; omega⟩
  ·obtain rfl : k = nl := by omega
   clear hkn hk HCE
   have d5 : decide ((m : Int) ≤ (k : Int) + 1) = false := decide_eq_false (by omega)
   have hE2 : (k : Int) + 1 + 1 + L = (E : Int) := by have := HE.out; omega
   have d6 : decide ((m : Int) < (E : Int)) = false := decide_eq_false (by omega)
   have hk3 : k + 2 < m := by have := HE.out; omega
   have hL3 : L < m := by have := HE.out; omega
   go_wp2_with fail
   refine HVL.out.mono ?_
   rintro e w1 ⟨rfl, hw⟩
   have HW := Lib.hid hw
   clear hw
   go_wp2_with fail
   go_quiet (fail)
   go_wp2_with fail
   go_ret3
   exact ⟨rfl, pw_below_drewN HW.out nq⟩
structure Parts (o1 c1 : Int) (K S : Nat) (P len : Nat → Nat) (X pre : Nat → List Int) : Prop where
 p0 : P 0 = 0
 ps : ∀ k, k < K → P (k + 1) = P k + len k
 pK : P K = S
 pos : ∀ k, k < K → 1 ≤ len k
 small : S ≤ 800000000
 pre0 : pre 0 = [o1]
 pres : ∀ k, k < K → pre (k + 1) = pre k ++ (if k = 0 then [] else [44]) ++ X k
 own : ∀ k, k < K → Own8 (X k)
 c1 : 0 ≤ c1 ∧ c1 < 128
 o1 : 0 ≤ o1 ∧ o1 < 128
 le : (pre K).length ≤ 100000000
theorem Parts.mono {o1 c1 : Int} {K S : Nat} {P len : Nat → Nat} {X pre : Nat → List Int} (h : Parts o1 c1 K S P len X pre) : ∀ j k, k + j ≤ K → ∃ r, pre (k + j) = pre k ++ r ∧ P k + (if j = 0 then 0 else 1) ≤ P (k + j)
 | 0, k, _ => ⟨[], by simp, by simp⟩
 | j + 1, k, hk => by
  obtain ⟨r, h1, h2⟩ := h.mono j k (by omega)
  refine ⟨r ++ ((if k + j = 0 then [] else [44]) ++ X (k + j)), ?_, ?_⟩
  ·show pre (k + j + 1) = _
   rw [h.pres (k + j) (by omega), h1]
   simp
  ·show P k + _ ≤ P (k + j + 1)
   rw [h.ps (k + j) (by omega)]
   have := h.pos (k + j) (by omega)
   simp only [Nat.add_eq_zero_iff, Nat.one_ne_zero, and_false, if_false]
   split at h2 <;> omega
theorem Parts.at {o1 c1 : Int} {K S : Nat} {P len : Nat → Nat} {X pre : Nat → List Int} (h : Parts o1 c1 K S P len X pre) {k : Nat} (hk : k < K) : P k + len k ≤ S ∧ (pre k).length ≤ 100000000 ∧ (X k).length ≤ 100000000 ∧ ∃ r, pre K = pre k ++ ((if k = 0 then [] else [44]) ++ (X k ++ r)) := by
 obtain ⟨r, h1, h2⟩ := h.mono (K - (k + 1)) (k + 1) (by omega)
 have e : k + 1 + (K - (k + 1)) = K := by omega
 rw [e] at h1 h2
 have h3 := h.ps k hk
 have h4 := h.pres k hk
 have h5 := h.pK
 have h6 : pre K = pre k ++ ((if k = 0 then [] else [44]) ++ (X k ++ r)) := by rw [h1, h4]; simp
 have h7 := h.le
 have h8 : (pre K).length = (pre k).length + ((if k = 0 then ([] : List Int) else [44]).length + ((X k).length + r.length)) := by rw [h6]; simp only [List.length_append]
 refine ⟨by omega, by omega, by omega, r, h6⟩
theorem Parts.done {o1 c1 : Int} {K S : Nat} {P len : Nat → Nat} {X pre : Nat → List Int} (h : Parts o1 c1 K S P len X pre) {k : Nat} (hk : k ≤ K) : (P k < S ↔ k < K) ∧ P k ≤ S := by
 obtain ⟨r, h1, h2⟩ := h.mono (K - k) k (by omega)
 have e : k + (K - k) = K := by omega
 rw [e] at h2
 have h5 := h.pK
 by_cases hkK : k = K
 ·subst hkK; omega
 ·rw [if_neg (by omega)] at h2; omega
theorem cutL_zero (l : List Int) : cutL l 0 = [] := List.eq_nil_of_length_eq_zero (Nat.le_zero.1 (cutL_length l 0))
theorem start_app {a b : List Int} (h : Own8 a) : a ++ b = [] ∨ rn (a ++ b) 0 / 64 ≠ 2 := by
 have h1 := h.pos
 rcases h.start with h2 | h2
 ·rw [h2] at h1; simp at h1
 ·exact .inr (by rw [rn_app_lt (by omega)]; exact h2)
theorem Parts.cut_full {o1 c1 : Int} {K S : Nat} {P len : Nat → Nat} {X pre : Nat → List Int} (h : Parts o1 c1 K S P len X pre) {k n : Nat} (hk : k < K) (hn : (pre k).length = n) : cutL (pre K ++ [c1]) n = pre k ∧ n < (pre K ++ [c1]).length := by
 obtain ⟨_, _, _, r, h6⟩ := h.at hk
 rw [h6, List.append_assoc]
 have hx := (h.own k hk).pos
 refine ⟨?_, by simp only [List.length_append, List.length_cons, List.length_nil]; omega⟩
 rw [cutL_right (by omega) ?_, hn, Nat.sub_self, cutL_zero, List.append_nil]
 by_cases hk0 : k = 0
 ·rw [if_pos hk0, List.nil_append, List.append_assoc]
  exact start_app (h.own k hk)
 ·rw [if_neg hk0]
  exact .inr (by show (44 : Int) / 64 ≠ 2; decide)
theorem Parts.cut_comma {o1 c1 : Int} {K S : Nat} {P len : Nat → Nat} {X pre : Nat → List Int} (h : Parts o1 c1 K S P len X pre) {k n : Nat} (hk : k < K) (hk0 : k ≠ 0) (hn : (pre k).length + 1 = n) : cutL (pre K ++ [c1]) n = pre k ++ [44] ∧ n < (pre K ++ [c1]).length := by
 obtain ⟨_, _, _, r, h6⟩ := h.at hk
 rw [if_neg hk0] at h6
 have hx := (h.own k hk).pos
 have e : pre K ++ [c1] = (pre k ++ [44]) ++ (X k ++ (r ++ [c1])) := by rw [h6]; simp
 rw [e]
 refine ⟨?_, by simp only [List.length_append, List.length_cons, List.length_nil]; omega⟩
 have hl : (pre k ++ [(44 : Int)]).length = n := by rw [List.length_append, List.length_singleton]; exact hn
 rw [cutL_right (by omega) (start_app (h.own k hk)), hl, Nat.sub_self, cutL_zero, List.append_nil]
theorem Parts.cut_in {o1 c1 : Int} {K S : Nat} {P len : Nat → Nat} {X pre : Nat → List Int} (h : Parts o1 c1 K S P len X pre) {k n M : Nat} {sp : List Int} (hk : k < K) (hsp : (if k = 0 then [] else [44]) = sp) (hn : (pre k ++ sp).length + M = n) (hM : M < (X k).length) : cutL (pre K ++ [c1]) n = pre k ++ sp ++ cutL (X k) M ∧ n < (pre K ++ [c1]).length := by
 obtain ⟨_, _, _, r, h6⟩ := h.at hk
 rw [hsp] at h6
 have e : pre K ++ [c1] = (pre k ++ sp) ++ (X k ++ (r ++ [c1])) := by rw [h6]; simp
 rw [e]
 refine ⟨?_, by simp only [List.length_append, List.length_cons, List.length_nil] at hn ⊢; omega⟩
 rw [cutL_right (by omega) (start_app (h.own k hk)), show n - (pre k ++ sp).length = M by omega, cutL_left hM]
theorem Parts.cut_end {o1 c1 : Int} {K S : Nat} {P len : Nat → Nat} {X pre : Nat → List Int} (h : Parts o1 c1 K S P len X pre) {n : Nat} (hn : (pre K).length = n) : cutL (pre K ++ [c1]) n = pre K ∧ n < (pre K ++ [c1]).length := by
 refine ⟨?_, by rw [List.length_append, List.length_singleton]; omega⟩
 have hc := h.c1
 rw [cutL_right (by omega) (.inr (by show c1 / 64 ≠ 2; omega)), hn, Nat.sub_self, cutL_zero, List.append_nil]
theorem Dsn_all (o c K S : Nat) (P len : Nat → Nat) (X pre : Nat → List Int) (b : Nat) (w : World) (HP : Parts 123 125 K S P len X pre) (hS : S + 5 ≤ c) (hmx : c ≤ maxLen) (hbw : b < w.heap.size)
  (hRL : Calls Tryz.prog 91 #[.slice (some ⟨b, o, none⟩) (S + 5) c] w (RdAns (.int .i32 ((S + 5 : Nat) : Int)) b (o + 4) (S + 1) (c - 4) w))
  (hRead : ∀ k, k < K → ∀ W, Below w.heap.size w W → Calls Tryz.prog 92 #[.slice (some ⟨b, o + (4 + P k), none⟩) (S + 1 - P k) (c - (4 + P k))] W fun e w' => e = .returned (.tuple #[.slice (some ⟨b, o + (4 + P k), none⟩) (len k) (c - (4 + P k)), .slice (some ⟨b, o + (4 + P (k + 1)), none⟩) (S + 1 - P (k + 1)) (c - (4 + P (k + 1))), .bool true]) ∧ Below W.heap.size W w')
  (hStr : ∀ k, k < K → ∀ W, Below w.heap.size w W → ∀ n', n' = -1 ∨ (1 ≤ n' ∧ n' ≤ 65535) → Calls Tryz.prog 16 #[.slice (some ⟨b, o + (4 + P k), none⟩) (len k) (c - (4 + P k)), .int .i64 n'] W (StrN (X k) n' W))
  : Calls Tryz.prog 67 #[.slice (some ⟨b, o, none⟩) (S + 5) c, .int .i64 (-1)] w (StrN (pre K ++ [125]) (-1) w) := by
 have HPP := Lib.hid HP
 have HRL := Lib.hid hRL
 have HRE := Lib.hid hRead
 have HST := Lib.hid hStr
 have hSs := HP.small
 have hP0 := HP.p0
 have d5 : decide ((S : Int) + 5 < 5) = false := decide_eq_false (by omega)
 have hpre0 := HP.pre0
 unfold maxLen at hmx
 clear HP hRL hRead hStr
 go_enter Tryz.func67, Tryz.ntmps67
 go_wp2_with fail
 refine HRL.out.mono ?_
 rintro e w1 ⟨A, rfl, ⟨o', hA1, hA2⟩, hw⟩
 obtain rfl : o' = o + 4 := by omega
 subst hA1
 have HB1 := Lib.hid hw
 clear hw hA2
 have hsz1 := HB1.out.size
 have hBf : Hid (Bld w1.heap.size w1.heap.size [] (w1.alloc (.cells #[.pointer none, .slice none 0 0] 58))) := Bld.fresh w1
 have hBa : Hid (Below w.heap.size w (w1.alloc (.cells #[.pointer none, .slice none 0 0] 58))) := HB1.out.alloc hsz1 _
 go_wp2_with fail
 refine (hBf.out.byte 123 (by decide) (by decide) (by simp) (by simp)).mono ?_
 rintro e w2 ⟨rfl, hb2, hw2⟩
 have HBL2 := Lib.hid hb2
 have HB2 := Lib.hid (hBa.out.trans (hw2.mono hsz1))
 have hs2 := hw2.size
 have hs12 : w1.heap.size ≤ w2.heap.size := by have h := hs2; simp at h; omega
 clear hb2 hw2 hs2
 obtain ⟨BB, hBB⟩ : ∃ B, w1.heap.size = B := ⟨_, rfl⟩
 rw [hBB] at HBL2 hs12 hsz1
 have HBB := Lib.hid hBB
 go_upto_block 0 with fail
 go_cut [10] from 34 to 81 (fun s10 wx => s10 = .bool false ∧ Hid (Bld BB BB (pre K) wx) ∧ BB ≤ wx.heap.size ∧ Hid (Below w.heap.size w wx))
 case first =>
  go_wp2_with fail
  go_loopg [6, 7, 10, 13] K (fun g s6 s7 s10 s13 wx => ∃ (k : Nat) (f : Bool), k + g = K ∧ s6 = .int .i32 ((S : Int) - P k) ∧ s7 = .slice (some ⟨b, o + (4 + P k), none⟩) (S + 1 - P k) (c - (4 + P k)) ∧ s10 = .bool false ∧ s13 = .bool f ∧ Hid (decide (k = 0) = f) ∧ Hid (Bld BB BB (pre k) wx) ∧ BB ≤ wx.heap.size ∧ Hid (Below w.heap.size w wx))
  case atStart => exact ⟨0, true, by omega, by rw [hP0]; congr 1; omega, by rw [hP0]; rfl, rfl, rfl, rfl, by show Bld _ _ _ _; rw [hpre0]; exact HBL2.out, hs12, HB2⟩
  case round =>
   obtain ⟨k, f, hkg, rfl, rfl, rfl, rfl, HF, HBL, hsz, HBW⟩ := hrel
   clear HBL2 HB2 hs12
   cases gk with
   | zero =>
    obtain rfl : k = K := by omega
    have hpk := HPP.out.pK
    have d0 : decide ((0 : Int) < (S : Int) - P k) = false := decide_eq_false (by omega)
    go_wp2_with fail
    go_meet
    exact ⟨rfl, HBL, hsz, HBW⟩
   | succ g =>
    have hk : k < K := by omega
    obtain ⟨hq1, hq2, hq3, _⟩ := HPP.out.at hk
    have hdn := (HPP.out.done (Nat.le_of_lt hk)).1.2 hk
    have hps := HPP.out.ps k hk
    have hpo := HPP.out.pos k hk
    have d0 : decide ((0 : Int) < (S : Int) - P k) = true := decide_eq_true (by omega)
    obtain ⟨L, hL⟩ : ∃ L, len k = L := ⟨_, rfl⟩
    obtain ⟨Q, hQ⟩ : ∃ Q, P (k + 1) = Q := ⟨_, rfl⟩
    have HRk := Lib.hid (HRE.out k hk)
    have HSk := Lib.hid (HST.out k hk)
    have hprs := HPP.out.pres k hk
    rw [hL] at hq1 hps hpo HRk HSk
    rw [hQ] at hps HRk
    have hQS : Q ≤ S := by omega
    have d1 : decide ((S : Int) - P k - L < 0) = false := decide_eq_false (by omega)
    have hLQ : (S : Int) - P k - L = (S : Int) - Q := by omega
    obtain ⟨sp, hsp⟩ : ∃ l : List Int, (if f = true then [] else [44]) = l := ⟨_, rfl⟩
    have hsl : sp.length ≤ 1 := by rw [← hsp]; split <;> simp
    have hpx : pre (k + 1) = pre k ++ sp ++ X k := by
     rw [hprs, ← hsp, ← HF.out]
     simp
    clear hprs
    go_upto_if 49 with fail
    go_cut [14] from 34 to 81 (fun s14 wx => s14 = .int .i64 (-1) ∧ Hid (Bld BB BB (pre k ++ sp) wx) ∧ BB ≤ wx.heap.size ∧ Hid (Below w.heap.size w wx))
    case first =>
     cases f with
     | true =>
      rw [if_pos rfl] at hsp
      subst hsp
      go_wp2_with fail
      go_meet
      exact ⟨rfl, by rw [List.append_nil]; exact HBL, hsz, HBW⟩
     | false =>
      rw [if_neg (by decide)] at hsp
      subst hsp
      go_wp2_with fail
      refine (HBL.out.byte 44 (by decide) (by decide) (by omega) hsz).mono ?_
      rintro e w3 ⟨rfl, hb3, hw3⟩
      have HBL3 := Lib.hid hb3
      have HBW3 := Lib.hid (HBW.out.trans (hw3.mono hsz1))
      have hsz3 := Nat.le_trans hsz hw3.size
      clear hb3 hw3
      go_wp2_with fail
      go_meet
      exact ⟨rfl, HBL3, hsz3, HBW3⟩
    obtain ⟨rfl, HBL4, hsz4, HBW4⟩ := hcut
    clear HBL HBW hsz
    go_wp2_with fail
    refine (HRk.out _ HBW4.out).mono ?_
    rintro e w5 ⟨rfl, hw5⟩
    have HBL5 := Lib.hid (HBL4.out.old hw5)
    have HBW5 := Lib.hid (HBW4.out.trans (hw5.mono HBW4.out.size))
    have hsz5 := Nat.le_trans hsz4 hw5.size
    clear hw5 HBL4 HBW4
    go_wp2_with fail
    refine (HSk.out _ HBW5.out (-1) (.inl rfl)).mono ?_
    rintro e w6 ⟨u, rfl, hu, hw6⟩
    have HU : Hid (StrIs u (X k)) := hu
    have HBL6 := Lib.hid (HBL5.out.old hw6)
    have HBW6 := Lib.hid (HBW5.out.trans (hw6.mono HBW5.out.size))
    have hsz6 := Nat.le_trans hsz5 hw6.size
    clear hw6 hu HBL5 HBW5
    go_wp2_with fail
    refine (HBL6.out.str HU.out (by rw [List.length_append]; omega) hsz6).mono ?_
    rintro e w7 ⟨rfl, hb7, hw7⟩
    have HBL7 : Hid (Bld BB BB (pre (k + 1)) w7) := by show Bld _ _ _ _; rw [hpx]; exact hb7
    have HBW7 := Lib.hid (HBW6.out.trans (hw7.mono hsz1))
    have hsz7 := Nat.le_trans hsz6 hw7.size
    clear hb7 hw7
    go_wp2_with fail
    go_roundg g
    case measure => omega
    case rel => exact ⟨k + 1, false, by omega, by rw [hQ, hps]; congr 1 <;> omega, by rw [hQ, hps], rfl, rfl, by show decide _ = _; exact decide_eq_false (by omega), HBL7, hsz7, HBW7⟩
 obtain ⟨rfl, HBL, hsz, HBW⟩ := hcut
 have hKl := HPP.out.le
 go_wp2_with fail
 refine (HBL.out.byte 125 (by decide) (by decide) (by omega) hsz).mono ?_
 rintro e w3 ⟨rfl, hb3, hw3⟩
 have HBL3 := Lib.hid hb3
 have HBW3 := Lib.hid (HBW.out.trans (hw3.mono hsz1))
 have hsz3 := Nat.le_trans hsz hw3.size
 clear hb3 hw3
 go_wp2_with fail
 refine (HBL3.out.string hsz3).mono ?_
 rintro e w4 ⟨rfl, hw4⟩
 have HBW4 := Lib.hid (HBW3.out.trans (hw4.mono hsz1))
 clear hw4
 go_wp2_with fail
 go_ret2
 exact ⟨strOfNums (pre K ++ [125]), by simp, by rw [if_pos (by decide)]; exact .of _, HBW4.out⟩
theorem Dsn_cut (o c K S : Nat) (P len : Nat → Nat) (X pre : Nat → List Int) (b : Nat) (w : World) (HP : Parts 123 125 K S P len X pre) (hS : S + 5 ≤ c) (hmx : c ≤ maxLen) (hbw : b < w.heap.size)
  (hRL : Calls Tryz.prog 91 #[.slice (some ⟨b, o, none⟩) (S + 5) c] w (RdAns (.int .i32 ((S + 5 : Nat) : Int)) b (o + 4) (S + 1) (c - 4) w))
  (hRead : ∀ k, k < K → ∀ W, Below w.heap.size w W → Calls Tryz.prog 92 #[.slice (some ⟨b, o + (4 + P k), none⟩) (S + 1 - P k) (c - (4 + P k))] W fun e w' => e = .returned (.tuple #[.slice (some ⟨b, o + (4 + P k), none⟩) (len k) (c - (4 + P k)), .slice (some ⟨b, o + (4 + P (k + 1)), none⟩) (S + 1 - P (k + 1)) (c - (4 + P (k + 1))), .bool true]) ∧ Below W.heap.size W w')
  (hStr : ∀ k, k < K → ∀ W, Below w.heap.size w W → ∀ n', n' = -1 ∨ (1 ≤ n' ∧ n' ≤ 65535) → Calls Tryz.prog 16 #[.slice (some ⟨b, o + (4 + P k), none⟩) (len k) (c - (4 + P k)), .int .i64 n'] W (StrN (X k) n' W))
  (n : Nat) (hn : 1 ≤ n) (hn2 : n ≤ 65535) : Calls Tryz.prog 67 #[.slice (some ⟨b, o, none⟩) (S + 5) c, .int .i64 n] w (StrN (pre K ++ [125]) n w) := by
 have HPP := Lib.hid HP
 have HRL := Lib.hid hRL
 have HRE := Lib.hid hRead
 have HST := Lib.hid hStr
 have hSs := HP.small
 have hP0 := HP.p0
 have d5 : decide ((S : Int) + 5 < 5) = false := decide_eq_false (by omega)
 have hpre0 := HP.pre0
 unfold maxLen at hmx
 clear HP hRL hRead hStr
 have g0 : ((n : Int) == 0) = false := beq_eq_false_iff_ne.2 (by omega)
 have g1 : decide ((0 : Int) < n) = true := decide_eq_true (by omega)
 have g1b : decide (0 < n) = true := decide_eq_true (by omega)
 have g2 : decide ((n : Int) ≤ 0) = false := decide_eq_false (by omega)
 have g2b : decide (n ≤ 0) = false := decide_eq_false (by omega)
 go_enter Tryz.func67, Tryz.ntmps67
 go_wp2_with fail
 refine HRL.out.mono ?_
 rintro e w1 ⟨A, rfl, ⟨o', hA1, hA2⟩, hw⟩
 obtain rfl : o' = o + 4 := by omega
 subst hA1
 have HB1 := Lib.hid hw
 clear hw hA2
 have hsz1 := HB1.out.size
 have hBf : Hid (Bld w1.heap.size w1.heap.size [] (w1.alloc (.cells #[.pointer none, .slice none 0 0] 58))) := Bld.fresh w1
 have hBa : Hid (Below w.heap.size w (w1.alloc (.cells #[.pointer none, .slice none 0 0] 58))) := HB1.out.alloc hsz1 _
 go_wp2_with fail
 refine (hBf.out.byte 123 (by decide) (by decide) (by simp) (by simp)).mono ?_
 rintro e w2 ⟨rfl, hb2, hw2⟩
 have HBL2 := Lib.hid hb2
 have HB2 := Lib.hid (hBa.out.trans (hw2.mono hsz1))
 have hs2 := hw2.size
 have hs12 : w1.heap.size ≤ w2.heap.size := by have h := hs2; simp at h; omega
 clear hb2 hw2 hs2
 obtain ⟨BB, hBB⟩ : ∃ B, w1.heap.size = B := ⟨_, rfl⟩
 rw [hBB] at HBL2 hs12 hsz1
 have HBB := Lib.hid hBB
 obtain ⟨T, hT⟩ : ∃ T, pre K ++ [125] = T := ⟨_, rfl⟩
 have HTT := Lib.hid hT
 have hTl : T.length ≤ 100000001 := by rw [← hT, List.length_append, List.length_singleton]; have := HPP.out.le; omega
 rw [hT]
 clear hT
 go_upto_block 0 with fail
 go_cut [10] from 34 to 81 (fun s10 wx => ∃ (tr : Bool) (l : List Int), s10 = .bool tr ∧ Hid (Bld BB BB l wx) ∧ Hid ((tr = false ∧ l = pre K ∧ l.length ≤ n) ∨ (tr = true ∧ l = cutL T n ∧ n < T.length)) ∧ BB ≤ wx.heap.size ∧ Hid (Below w.heap.size w wx))
 case first =>
  go_wp2_with fail
  go_loopg [6, 7, 10, 13] K (fun g s6 s7 s10 s13 wx => ∃ (k : Nat) (f tr : Bool) (l : List Int), k + g = K ∧ s6 = .int .i32 ((S : Int) - P k) ∧ s7 = .slice (some ⟨b, o + (4 + P k), none⟩) (S + 1 - P k) (c - (4 + P k)) ∧ s10 = .bool tr ∧ s13 = .bool f ∧ Hid (decide (k = 0) = f) ∧ Hid (Bld BB BB l wx) ∧ Hid ((tr = false ∧ l = pre k ∧ l.length ≤ n) ∨ (tr = true ∧ l = cutL T n ∧ n < T.length)) ∧ BB ≤ wx.heap.size ∧ Hid (Below w.heap.size w wx))
  case atStart => exact ⟨0, true, false, pre 0, by omega, by rw [hP0]; congr 1; omega, by rw [hP0]; rfl, rfl, rfl, rfl, by show Bld _ _ _ _; rw [hpre0]; exact HBL2.out, .inl ⟨rfl, rfl, by rw [hpre0]; exact hn⟩, hs12, HB2⟩
  case round =>
   obtain ⟨k, f, tr, l, hkg, rfl, rfl, rfl, rfl, HF, HBL, HST2, hsz, HBW⟩ := hrel
   clear HBL2 HB2 hs12
   obtain ⟨hdn1, hdn2⟩ := HPP.out.done (k := k) (by omega)
   cases tr with
   | true =>
    have HO : Hid (l = cutL T n ∧ n < T.length) := by
     rcases HST2.out with ⟨h, _⟩ | ⟨_, h⟩
     ·cases h
     ·exact h
    by_cases hkK : k < K
    ·have d0 : decide ((0 : Int) < (S : Int) - P k) = true := decide_eq_true (by have := hdn1.2 hkK; omega)
     have hx := hdn1.2 hkK
     clear hdn1
     go_wp2_with fail
     go_meet
     exact ⟨true, l, rfl, HBL, .inr ⟨rfl, HO.out⟩, hsz, HBW⟩
    ·have d0 : decide ((0 : Int) < (S : Int) - P k) = false := decide_eq_false (by have := fun h => hkK (hdn1.1 h); omega)
     have hx := fun h => hkK (hdn1.1 h)
     clear hdn1
     go_wp2_with fail
     go_meet
     exact ⟨true, l, rfl, HBL, .inr ⟨rfl, HO.out⟩, hsz, HBW⟩
   | false =>
    obtain ⟨rfl, hln⟩ : l = pre k ∧ l.length ≤ n := by
     rcases HST2.out with ⟨_, h⟩ | ⟨h, _⟩
     ·exact h
     ·cases h
    clear HST2
    cases gk with
    | zero =>
     obtain rfl : k = K := by omega
     have hpk := HPP.out.pK
     have d0 : decide ((0 : Int) < (S : Int) - P k) = false := decide_eq_false (by omega)
     clear hdn1
     have HLN := Lib.hid hln
     clear hln
     go_wp2_with fail
     go_meet
     exact ⟨false, pre k, rfl, HBL, .inl ⟨rfl, rfl, HLN.out⟩, hsz, HBW⟩
    | succ g =>
     have hk : k < K := by omega
     obtain ⟨hq1, hq2, hq3, _⟩ := HPP.out.at hk
     have hdn := hdn1.2 hk
     clear hdn1
     have hps := HPP.out.ps k hk
     have hpo := HPP.out.pos k hk
     have d0 : decide ((0 : Int) < (S : Int) - P k) = true := decide_eq_true (by omega)
     obtain ⟨L, hL⟩ : ∃ L, len k = L := ⟨_, rfl⟩
     obtain ⟨Q, hQ⟩ : ∃ Q, P (k + 1) = Q := ⟨_, rfl⟩
     have HRk := Lib.hid (HRE.out k hk)
     have HSk := Lib.hid (HST.out k hk)
     have hprs := HPP.out.pres k hk
     rw [hL] at hq1 hps hpo HRk HSk
     rw [hQ] at hps HRk
     have hQS : Q ≤ S := by omega
     have d1 : decide ((S : Int) - P k - L < 0) = false := decide_eq_false (by omega)
     obtain ⟨p, hp⟩ : ∃ p, (pre k).length = p := ⟨_, rfl⟩
     have HLEN : Hid (∀ W, Bld BB BB (pre k) W → Calls Tryz.prog 29 #[.pointer (some ⟨BB, 0, none⟩)] W fun e w' => e = .returned (.int .i64 p) ∧ w' = W) := fun W h => by rw [← hp]; exact h.len
     rw [hp] at hln hq2
     by_cases hfull : p = n
     ·have HO := HPP.out.cut_full hk (hp.trans hfull)
      rw [HTT.out] at HO
      have HOO := Lib.hid HO
      have e1 : decide ((n : Int) ≤ p) = true := decide_eq_true (by omega)
      have e2 : decide (n ≤ p) = true := decide_eq_true (by omega)
      have HFU := Lib.hid hfull
      clear HO hfull hprs
      go_wp2_with fail
      refine (HLEN.out _ HBL.out).mono ?_
      rintro e w3 ⟨rfl, rfl⟩
      go_wp2_with fail
      go_meet
      exact ⟨true, pre k, rfl, HBL, .inr ⟨rfl, HOO.out.1.symm, HOO.out.2⟩, hsz, HBW⟩
     ·have e1 : decide ((n : Int) ≤ p) = false := decide_eq_false (by omega)
      have e2 : decide (n ≤ p) = false := decide_eq_false (by omega)
      obtain ⟨sp, hsp⟩ : ∃ l : List Int, (if f = true then [] else [44]) = l := ⟨_, rfl⟩
      have hsl : sp.length ≤ 1 := by rw [← hsp]; split <;> simp
      have hspk : (if k = 0 then [] else [44]) = sp := by rw [← hsp, ← HF.out]; simp
      have hpx : pre (k + 1) = pre k ++ sp ++ X k := by rw [hprs, hspk]
      have HSPK := Lib.hid hspk
      obtain ⟨N1, hN1⟩ : ∃ N1 : Nat, n - p = N1 := ⟨_, rfl⟩
      have hN2 : (n : Int) - p = (N1 : Int) := by omega
      have hN1p : 1 ≤ N1 ∧ N1 ≤ 65535 := by omega
      have HNN : Hid (p + N1 = n) := by show _ = _; omega
      have g3 : decide ((0 : Int) < N1) = true := decide_eq_true (by omega)
      have g3b : decide (0 < N1) = true := decide_eq_true (by omega)
      clear hprs hspk hfull hN1
      go_upto_region 16 with fail
      go_upto_if 41 with fail
      go_cut [14] from 34 to 81 (fun s14 wx => s14 = .int .i64 N1 ∧ wr = wx)
      case first =>
       go_wp2_with fail
       refine (HLEN.out _ HBL.out).mono ?_
       rintro e w3 ⟨rfl, rfl⟩
       go_wp2_with fail
       refine (HLEN.out _ HBL.out).mono ?_
       rintro e w4 ⟨rfl, rfl⟩
       go_wp2_with fail
       go_meet
       exact ⟨rfl, rfl⟩
      obtain ⟨rfl, rfl⟩ := hcut
      clear hN2
      go_upto_if 49 with fail
      go_cut [14] from 34 to 81 (fun s14 wx => ∃ M : Nat, s14 = .int .i64 M ∧ 1 ≤ M ∧ Hid ((pre k ++ sp).length + M = n) ∧ Hid (Bld BB BB (pre k ++ sp) wx) ∧ BB ≤ wx.heap.size ∧ Hid (Below w.heap.size w wx))
      case first =>
       cases f with
       | true =>
        rw [if_pos rfl] at hsp
        subst hsp
        go_wp2_with fail
        go_meet
        exact ⟨N1, rfl, hN1p.1, by show _ = _; rw [List.append_nil, hp]; exact HNN.out, by rw [List.append_nil]; exact HBL, hsz, HBW⟩
       | false =>
        rw [if_neg (by decide)] at hsp
        subst hsp
        go_wp2_with fail
        refine (HBL.out.byte 44 (by decide) (by decide) (by omega) hsz).mono ?_
        rintro e w3 ⟨rfl, hb3, hw3⟩
        have HBL3 := Lib.hid hb3
        have HBW3 := Lib.hid (HBW.out.trans (hw3.mono hsz1))
        have hsz3 := Nat.le_trans hsz hw3.size
        clear hb3 hw3
        by_cases hone : N1 = 1
        ·have e3 : ((N1 : Int) - 1 == 0) = true := beq_iff_eq.2 (by omega)
         have HO := HPP.out.cut_comma hk (fun h => by have := HF.out; rw [h] at this; simp at this) (n := n) (by rw [hp]; have := HNN.out; omega)
         rw [HTT.out] at HO
         have HOO := Lib.hid HO
         have HON := Lib.hid hone
         clear HO hone
         go_wp2_with fail
         go_meet
         exact ⟨true, _, rfl, HBL3, .inr ⟨rfl, HOO.out.1.symm, HOO.out.2⟩, hsz3, HBW3⟩
        ·have e3 : ((N1 : Int) - 1 == 0) = false := beq_eq_false_iff_ne.2 (by omega)
         have HON := Lib.hid hone
         clear hone
         go_wp2_with fail
         go_meet
         exact ⟨N1 - 1, by congr 1; omega, by have := HON.out; omega, by show _ = _; rw [List.length_append, List.length_singleton, hp]; have := HNN.out; omega, HBL3, hsz3, HBW3⟩
      obtain ⟨M, rfl, hM1, HMM, HBL4, hsz4, HBW4⟩ := hcut
      clear HBL HBW hsz hsp HLEN HNN g3 g3b e1 e2 hN1p
      have hM65 : M ≤ 65535 := by have := HMM.out; omega
      go_wp2_with fail
      refine (HRk.out _ HBW4.out).mono ?_
      rintro e w5 ⟨rfl, hw5⟩
      have HBL5 := Lib.hid (HBL4.out.old hw5)
      have HBW5 := Lib.hid (HBW4.out.trans (hw5.mono HBW4.out.size))
      have hsz5 := Nat.le_trans hsz4 hw5.size
      clear hw5 HBL4 HBW4
      obtain ⟨Y, tq, hY⟩ : ∃ (Y : List Int) (tq : Bool), (if (M : Int) < 0 then X k else cutL (X k) ((M : Int)).toNat) = Y ∧ decide (0 ≤ (M : Int) ∧ (M : Int) < ((X k).length : Int)) = tq ∧ Y.length ≤ 100000000 ∧ ((tq = false ∧ pre k ++ sp ++ Y = pre (k + 1) ∧ (pre k ++ sp ++ Y).length ≤ n) ∨ (tq = true ∧ pre k ++ sp ++ Y = cutL T n ∧ n < T.length)) := by
       refine ⟨_, _, rfl, rfl, ?_⟩
       rw [if_neg (by omega), Int.toNat_natCast]
       by_cases hMX : M < (X k).length
       ·have HO := HPP.out.cut_in hk HSPK.out HMM.out hMX
        rw [HTT.out] at HO
        refine ⟨by have := cutL_length (X k) M; omega, .inr ⟨decide_eq_true ⟨by omega, by omega⟩, HO.1.symm, HO.2⟩⟩
       ·have hall := cutL_all (l := X k) (n := M) (by omega)
        rw [hall]
        refine ⟨hq3, .inl ⟨decide_eq_false (by omega), hpx.symm, ?_⟩⟩
        have := HMM.out
        rw [List.length_append]
        omega
      obtain ⟨hY1, hY2, hY3, hY4⟩ := hY
      have HY4 := Lib.hid hY4
      have HSM := Lib.hid (HSk.out _ HBW5.out M (.inr ⟨by omega, by omega⟩))
      unfold StrN at HSM
      rw [hY1, hY2] at HSM
      clear hY1 hY2 hY4
      go_wp2_with fail
      refine HSM.out.mono ?_
      rintro e w6 ⟨u, rfl, hu, hw6⟩
      have HU : Hid (StrIs u Y) := hu
      have HBL6 := Lib.hid (HBL5.out.old hw6)
      have HBW6 := Lib.hid (HBW5.out.trans (hw6.mono HBW5.out.size))
      have hsz6 := Nat.le_trans hsz5 hw6.size
      clear hw6 hu HBL5 HBW5 HSM
      go_wp2_with fail
      refine (HBL6.out.str HU.out (by rw [List.length_append]; omega) hsz6).mono ?_
      rintro e w7 ⟨rfl, hb7, hw7⟩
      have HBL7 := Lib.hid hb7
      have HBW7 := Lib.hid (HBW6.out.trans (hw7.mono hsz1))
      have hsz7 := Nat.le_trans hsz6 hw7.size
      clear hb7 hw7
      go_wp2_with fail
      go_roundg g
      case measure => omega
      case rel => exact ⟨k + 1, false, tq, _, by omega, by rw [hQ, hps]; congr 1 <;> omega, by rw [hQ, hps], rfl, rfl, by show decide _ = _; exact decide_eq_false (by omega), HBL7, HY4, hsz7, HBW7⟩
 obtain ⟨tr, l, rfl, HBL, HO, hsz, HBW⟩ := hcut
 have hKl := HPP.out.le
 obtain ⟨p, hp⟩ : ∃ p, l.length = p := ⟨_, rfl⟩
 have HLEN : Hid (∀ W, Bld BB BB l W → Calls Tryz.prog 29 #[.pointer (some ⟨BB, 0, none⟩)] W fun e w' => e = .returned (.int .i64 p) ∧ w' = W) := fun W h => by rw [← hp]; exact h.len
 cases tr with
 | true =>
  have HOO : Hid (l = cutL T n ∧ n < T.length) := by
   rcases HO.out with ⟨h, _⟩ | ⟨_, h⟩
   ·cases h
   ·exact h
  clear HO hp
  go_upto_region 33 with fail
  go_cut [92] from 82 to 92 (fun s92 wx => s92 = .bool false ∧ wc = wx)
  case first =>
   by_cases hpn : p < n
   ·have e1 : decide (p < n) = true := decide_eq_true hpn
    go_wp2_with fail
    refine (HLEN.out _ HBL.out).mono ?_
    rintro e w3 ⟨rfl, rfl⟩
    go_wp2_with fail
    go_meet
    exact ⟨rfl, rfl⟩
   ·have e1 : decide (p < n) = false := decide_eq_false hpn
    go_wp2_with fail
    refine (HLEN.out _ HBL.out).mono ?_
    rintro e w3 ⟨rfl, rfl⟩
    go_wp2_with fail
    go_meet
    exact ⟨rfl, rfl⟩
  obtain ⟨rfl, rfl⟩ := hcut
  go_wp2_with fail
  refine (HBL.out.string hsz).mono ?_
  rintro e w4 ⟨rfl, hw4⟩
  have HBW4 := Lib.hid (HBW.out.trans (hw4.mono hsz1))
  clear hw4
  go_wp2_with fail
  go_ret2
  refine ⟨strOfNums l, ?_, ?_, HBW4.out⟩
  ·rw [HTT.out, decide_eq_true ⟨by omega, by have := HOO.out.2; omega⟩]; rfl
  ·rw [HTT.out, if_neg (by omega), Int.toNat_natCast, ← HOO.out.1]; exact .of _
 | false =>
  obtain ⟨rfl, hln⟩ : l = pre K ∧ l.length ≤ n := by
   rcases HO.out with ⟨_, h⟩ | ⟨h, _⟩
   ·exact h
   ·cases h
  rw [hp] at hln hKl
  clear HO
  by_cases hpn : p < n
  ·have e1 : decide (p < n) = true := decide_eq_true hpn
   have HPN := Lib.hid hpn
   have HPE := Lib.hid hp
   clear hp
   go_wp2_with fail
   refine (HLEN.out _ HBL.out).mono ?_
   rintro e w3 ⟨rfl, rfl⟩
   go_wp2_with fail
   refine (HBL.out.byte 125 (by decide) (by decide) (by rw [HPE.out]; omega) hsz).mono ?_
   rintro e w5 ⟨rfl, hb5, hw5⟩
   have HBL5 := Lib.hid hb5
   have HBW5 := Lib.hid (HBW.out.trans (hw5.mono hsz1))
   have hsz5 := Nat.le_trans hsz hw5.size
   clear hb5 hw5
   go_wp2_with fail
   refine (HBL5.out.string hsz5).mono ?_
   rintro e w4 ⟨rfl, hw4⟩
   have HBW4 := Lib.hid (HBW5.out.trans (hw4.mono hsz1))
   clear hw4
   go_wp2_with fail
   go_ret2
   have hTn : T.length ≤ n := by
    rw [← HTT.out, List.length_append, List.length_singleton, HPE.out]
    exact HPN.out
   refine ⟨strOfNums T, ?_, ?_, HBW4.out⟩
   ·rw [HTT.out, decide_eq_false (fun h => by have := h.2; omega)]; rfl
   ·rw [HTT.out, if_neg (by omega), Int.toNat_natCast, cutL_all hTn]; exact .of _
  ·have e1 : decide (p < n) = false := decide_eq_false hpn
   have HO := HPP.out.cut_end (n := n) (by rw [hp]; omega)
   rw [HTT.out] at HO
   have HOO := Lib.hid HO
   clear HO hp hpn
   go_wp2_with fail
   refine (HLEN.out _ HBL.out).mono ?_
   rintro e w3 ⟨rfl, rfl⟩
   go_wp2_with fail
   refine (HBL.out.string hsz).mono ?_
   rintro e w4 ⟨rfl, hw4⟩
   have HBW4 := Lib.hid (HBW.out.trans (hw4.mono hsz1))
   clear hw4
   go_wp2_with fail
   go_ret2
   refine ⟨strOfNums (pre K), ?_, ?_, HBW4.out⟩
   ·rw [HTT.out, decide_eq_true ⟨by omega, by have := HOO.out.2; omega⟩]; rfl
   ·rw [HTT.out, if_neg (by omega), Int.toNat_natCast, HOO.out.1]; exact .of _
end Go.Proofs.YtkeakdjbidbegaaGreatDoor
