/- A part of the proof that laws.FnExtKind returns true at every input: Law3. -/
import Derived.Test.YtlgmlfhalgnppaaGreatDoorM
import Derived.Test.YtlgmlfhalgnppaaGreatDoorR
/-! laws.FnExtKind. -/
set_option linter.unusedSimpArgs false
set_option linter.unusedVariables false
namespace Go.Proofs.YtlgmlfhalgnppaaGreatDoor
open Go.RowKit
open Go.Proofs.YtlgmlfhalgnppaaGreatDoorW.PrintWords hiding bt bt_at bt_range
/-- A value lies in block B. -/
structure ValAt (B : Nat) (t : VT) (w : World) : Prop where
  lt : B < w.heap.size
  c : w.cell? ⟨B, 0, none⟩ = some (.int .i64 t.kind) ∧ w.cell? ⟨B, 1, none⟩ = some (.string t.text) ∧ w.cell? ⟨B, 2, none⟩ = some (.string t.more) ∧ w.cell? ⟨B, 3, none⟩ = some (.int .i64 t.n) ∧ w.cell? ⟨B, 4, none⟩ = some (.int .u64 t.bits) ∧ w.cell? ⟨B, 5, none⟩ = some (.int .u64 t.high) ∧ w.cell? ⟨B, 6, none⟩ = some (.slice t.bA t.bs.length t.bc) ∧ w.cell? ⟨B, 7, none⟩ = some (.slice t.kA t.kids.length t.kc)
theorem ValAt.below {B : Nat} {t : VT} {w w' : World} (h : ValAt B t w) (hb : Below w.heap.size w w') : ValAt B t w' := by
  have q : ∀ j, w'.cell? ⟨B, j, none⟩ = w.cell? ⟨B, j, none⟩ := fun j => hb.cell (p := ⟨B, j, none⟩) h.lt
  refine ⟨Nat.lt_of_lt_of_le h.lt hb.size, ?_⟩
  rw [q, q, q, q, q, q, q, q]
  exact h.c
theorem kd_doc {l g r : List Int} (hl : l = g ++ r) (hg : Bl g) (h : DocHead r) : Kd l 3 := by
  obtain ⟨g2, r2, rfl, hg2, ⟨r', rfl⟩ | ⟨b, r', rfl, hb⟩⟩ := h
  · rw [hl]; exact Kd.emp g g2 r' hg hg2
  · rw [hl]; exact Kd.doc g g2 b r' hg hg2 hb
theorem kd_arr {l g r : List Int} (hl : l = g ++ r) (hg : Bl g) (h : ArrHead r) : Kd l 4 := by
  obtain ⟨r2, rfl⟩ := h
  rw [hl]; exact Kd.arr g r2 hg
theorem kd_x : Kd (bytesOf ⟨#[32, 32, 34, 120, 34]⟩) 2 := by
  have : bytesOf ⟨#[32, 32, 34, 120, 34]⟩ = [32, 32] ++ 34 :: ([120] ++ 34 :: []) := by decide
  rw [this]
  exact Kd.str [32, 32] [120] [] (by intro x hx; simp at hx; omega) (JB.raw _ (by intro x hx; simp at hx; omega))
/-- What fits in a document fits in an array. -/
theorem arr_fits {t d : VT} (h : FitsP d) (hd : (t.kind = 3 ∧ d = t) ∨ (t.kind ≠ 3 ∧ ∃ B, d = VT.one 3 ⟨#[97]⟩ t B)) (B : Nat) :
    ∃ e k, e ≤ 13 ∧ (VT.one 4 ⟨#[48]⟩ t B).Fit e ∧ Known k (VT.one 4 ⟨#[48]⟩ t B) ∧ (VT.one 4 ⟨#[48]⟩ t B).cnt e ≤ 400 := by
  have key : ∀ e k, e ≤ 12 → t.Fit e → Known k t → t.cnt e ≤ 300 → ∃ e k, e ≤ 13 ∧ (VT.one 4 ⟨#[48]⟩ t B).Fit e ∧ Known k (VT.one 4 ⟨#[48]⟩ t B) ∧ (VT.one 4 ⟨#[48]⟩ t B).cnt e ≤ 400 := by
    intro e k he hf hk hc
    refine ⟨e + 1, k + 1, by omega, ⟨by show 0 ≤ 300; omega, by show 0 ≤ 300; omega, by show 0 ≤ 300; omega, fun h => absurd (show (4 : Int) = 11 from h) (by omega), by show 1 ≤ 300; omega, fun i hi => ?_⟩, ⟨by show knownF 4 = true; decide, fun _ i hi => ?_⟩, ?_⟩
    · have hi0 : i = 0 := by have : i < 1 := hi; omega
      subst hi0
      exact ⟨by show 1 ≤ 300; omega, hf⟩
    · have hi0 : i = 0 := by have : i < 1 := hi; omega
      subst hi0
      exact hk
    · show 1 + (t.cnt e + 0) ≤ 400
      omega
  rcases hd with ⟨_, rfl⟩ | ⟨_, B2, rfl⟩
  · exact key 12 200 (by omega) h.1 h.2.2 h.2.1
  · have f := h.1.2.2.2.2.2 0 (by show 0 < 1; omega)
    have k := h.2.2.2 (Or.inl rfl) 0 (by show 0 < 1; omega)
    have c : 1 + (t.cnt 11 + 0) ≤ 300 := h.2.1
    exact key 11 199 (by omega) f.2 k (by omega)
set_option maxRecDepth 100000 in
set_option maxHeartbeats 2000000 in
theorem FnExtKind_calls (t : VT) (w : World) (cA : Option Addr) (cs : List Int) (cc : Nat) (hin : ∀ d, t.In w d) (hE : ∀ w', Below w.heap.size w w' → Env w') (he : EofW w) (eb : 7 < w.heap.size)
    (hc : ReadsInt w .u8 cA cs.length cs) (hcr : ∀ x ∈ cs, 0 ≤ x ∧ x ≤ 255) (hcl : cs.length ≤ cc) (hcc : cc ≤ maxLen) :
    Calls Tryz.prog 3 #[t.val, .slice cA cs.length cc] w fun e w' => e = .returned (.bool true) ∧ Below w.heap.size w w' := by
  have hcl9 : cs.length ≤ 9223372036854775807 := hc.2.1
  have HI := Lib.hid hin
  have HS := Lib.hid (And.intro hc (And.intro hcr (And.intro hcl hcc)))
  have HE := Lib.hid hE
  have HO := Lib.hid (And.intro he eb)
  have HZF := Lib.hid (fun (W : World) => zzFits1_calls t W (HI.out 1).2.2.2.2.1 (HI.out 1).2.2.2.2.2.1 (HI.out 1).2.2.2.2.2.2.1.2.1 (by have := (HI.out 1).2.2.2.2.2.2.2.2.2.1; have h2 := (HI.out 1).2.2.2.2.2.2.2.2.2.2.1; unfold maxLen at h2; omega))
  have HDC := Lib.hid (fun (W : World) (hb : Below w.heap.size w W) => extDocument_calls t 199 W ((HI.out 200).below hb))
  have HB0 : Hid (Below w.heap.size w (w.alloc (.cells #[.int .i64 t.kind, .string t.text, .string t.more, .int .i64 t.n, .int .u64 t.bits, .int .u64 t.high, .slice t.bA t.bs.length t.bc, .slice t.kA t.kids.length t.kc] 26))) := (Below.refl _ _).alloc (Nat.le_refl _) _
  have HV0 : Hid (ValAt w.heap.size t (w.alloc (.cells #[.int .i64 t.kind, .string t.text, .string t.more, .int .i64 t.n, .int .u64 t.bits, .int .u64 t.high, .slice t.bA t.bs.length t.bc, .slice t.kA t.kids.length t.kc] 26))) := ⟨by simp, by simp [go_sem], by simp [go_sem], by simp [go_sem], by simp [go_sem], by simp [go_sem], by simp [go_sem], by simp [go_sem], by simp [go_sem]⟩
  clear hin hE he eb hc hcr hcl hcc
  simp only [VT.val] at HZF HDC ⊢
  by_cases hlen : 2147483647 < cs.length
  · have hd : decide (2147483647 < (cs.length : Int)) = true := by simp; omega
    go_enter Tryz.func3, Tryz.ntmps3
    go_wp2_with fail
    refine (HZF.out _).mono ?_
    rintro e w1 ⟨b, rfl, _, hw⟩
    have HW := Lib.hid (HB0.out.trans (hw.mono HB0.out.size))
    clear hw
    cases b
    all_goals go_wp2_with fail
    all_goals go_ret
    all_goals exact ⟨rfl, HW.out⟩
  have hd : decide (2147483647 < (cs.length : Int)) = false := by simp; omega
  go_enter Tryz.func3, Tryz.ntmps3
  go_wp2_with fail
  refine (HZF.out _).mono ?_
  rintro e w1 ⟨b, rfl, _, hw⟩
  have HW := Lib.hid (HB0.out.trans (hw.mono HB0.out.size))
  have HV := Lib.hid (HV0.out.below hw)
  clear hw
  cases b
  · go_wp2_with fail
    go_ret
    exact ⟨rfl, HW.out⟩
  obtain ⟨q0, q1, q2, q3, q4, q5, q6, q7⟩ := HV.out.c
  go_wp2_with fail
  refine (HDC.out _ HW.out).mono ?_
  rintro e w2 ⟨⟨d, rfl, hk3, hdin, hdor⟩, hw2⟩
  have HW2 := Lib.hid (HW.out.trans (hw2.mono HW.out.size))
  have HV2 := Lib.hid (HV.out.below hw2)
  have HD := Lib.hid (And.intro hk3 (And.intro hdin hdor))
  clear hw2 hk3 hdin hdor q0 q1 q2 q3 q4 q5 q6 q7
  have HST := Lib.hid (fun (W : World) (hb : Below w.heap.size w W) (h : d.In W 200) => extStyled_calls d W cA cs cc h (HE.out W hb) (fun w' h => HE.out w' (hb.trans (h.mono hb.size))) (HS.out.1.below hb) HS.out.2.1 HS.out.2.2.1 HS.out.2.2.2)
  simp only [VT.val] at HST ⊢
  go_wp2_with fail
  generalize hw3 : w2.alloc _ = w3
  have hb23 : Below w2.heap.size w2 w3 := by rw [← hw3]; exact (Below.refl _ _).alloc (Nat.le_refl _) _
  have hW3 : Below w.heap.size w w3 := HW2.out.trans (hb23.mono HW2.out.size)
  have HV3 := Lib.hid (HV2.out.below hb23)
  have HW3 := Lib.hid hW3
  have hbd : ∀ j, w3.cell? ⟨w2.heap.size, j, none⟩ = _ := fun j => by rw [← hw3, World.cell?_alloc_new]
  have p0 := hbd 0
  have HD3 := Lib.hid (HD.out.2.1.below hb23)
  clear hbd p0 hb23 hW3 hw3
  refine (HST.out w3 HW3.out HD3.out).mono ?_
  rintro e w4 ⟨h, hw4⟩
  have HW4 := Lib.hid (HW3.out.trans (hw4.mono HW3.out.size))
  have HV4 := Lib.hid (HV3.out.below hw4)
  clear hw4
  rcases h with rfl | ⟨hf, u, g, r, rfl, e1, hg, hh, hu⟩
  · go_wp2_with fail
    go_ret
    exact ⟨rfl, HW4.out⟩
  have HF := Lib.hid hf
  have HU := Lib.hid (kd_doc e1 hg (hh.1 HD.out.1))
  have HUS := Lib.hid hu
  clear hf e1 hg hh hu
  obtain ⟨q0, q1, q2, q3, q4, q5, q6, q7⟩ := HV4.out.c
  go_wp2_with fail
  clear q0 q1 q2 q3 q4 q5 q6 q7
  obtain ⟨e9, k9, he9, hfit, hkn, hcnt⟩ := arr_fits HF.out HD.out.2.2 w4.heap.size
  have hin5 : ∀ o : Obj, (VT.one 4 ⟨#[48]⟩ t w4.heap.size).In ((w4.alloc (.cells #[.string ⟨#[48]⟩, .int .i64 t.kind, .string t.text, .string t.more, .int .i64 t.n, .int .u64 t.bits, .int .u64 t.high, .slice t.bA t.bs.length t.bc, .slice t.kA t.kids.length t.kc] 32)).alloc o) 14 := fun o => by
    have hb := ((HW4.out).alloc HW4.out.size (.cells #[.string ⟨#[48]⟩, .int .i64 t.kind, .string t.text, .string t.more, .int .i64 t.n, .int .u64 t.bits, .int .u64 t.high, .slice t.bA t.bs.length t.bc, .slice t.kA t.kids.length t.kc] 32)).alloc (by have := HW4.out.size; simp; omega) o
    refine VT.one_in (by omega) (by decide) ((HI.out 13).below hb) (by simp [go_sem]) (fun j hj => ?_)
    have h8 : j = 0 ∨ j = 1 ∨ j = 2 ∨ j = 3 ∨ j = 4 ∨ j = 5 ∨ j = 6 ∨ j = 7 := by omega
    rcases h8 with rfl | rfl | rfl | rfl | rfl | rfl | rfl | rfl <;> simp [go_sem, VT.cells]
  have hW5 : ∀ o : Obj, Below w.heap.size w ((w4.alloc (.cells #[.string ⟨#[48]⟩, .int .i64 t.kind, .string t.text, .string t.more, .int .i64 t.n, .int .u64 t.bits, .int .u64 t.high, .slice t.bA t.bs.length t.bc, .slice t.kA t.kids.length t.kc] 32)).alloc o) := fun o => ((HW4.out).alloc HW4.out.size _).alloc (by have := HW4.out.size; simp; omega) o
  refine Calls.mono (ExtStyled_calls e9 k9 (VT.one 4 ⟨#[48]⟩ t w4.heap.size) _ cA cs cc ((hin5 _).le (by omega)) hfit hkn hcnt (HE.out _ (hW5 _)) (HS.out.1.below (hW5 _)) HS.out.2.1 HS.out.2.2.1 HS.out.2.2.2) ?_
  rintro e w6 ⟨⟨u2, g2, r2, rfl, e2, hg2, hh2, hu2⟩, hw6⟩
  have HW6 := Lib.hid ((hW5 _).trans (hw6.mono (hW5 _).size))
  have HU2 := Lib.hid (kd_arr e2 hg2 (hh2.2 rfl))
  have HU2S := Lib.hid hu2
  have HX : ∀ W : World, Below w.heap.size w W → EofW W ∧ 7 < W.heap.size := fun W hb => by
    obtain ⟨a, ha⟩ := HO.out.1
    exact ⟨⟨a, (hb.cell (p := ⟨7, 0, none⟩) HO.out.2).trans ha⟩, Nat.lt_of_lt_of_le HO.out.2 hb.size⟩
  have HXH := Lib.hid HX
  clear hin5 hW5 hfit hkn hcnt he9 e2 hg2 hh2 hu2 hw6 HX
  go_wp2_with fail
  refine (ExtKind_calls u HU.out (by omega) (by have := HUS.out; omega) w6 (HXH.out _ HW6.out).1 (HXH.out _ HW6.out).2).mono ?_
  rintro e w7 ⟨rfl, hw7⟩
  have HW7 := Lib.hid (HW6.out.trans (hw7.mono HW6.out.size))
  clear hw7
  go_wp2_with fail
  refine (ExtKind_calls u2 HU2.out (by omega) (by have := HU2S.out; omega) w7 (HXH.out _ HW7.out).1 (HXH.out _ HW7.out).2).mono ?_
  rintro e w8 ⟨rfl, hw8⟩
  have HW8 := Lib.hid (HW7.out.trans (hw8.mono HW7.out.size))
  clear hw8
  go_wp2_with fail
  refine (ExtKind_calls _ kd_x (by omega) (by decide) w8 (HXH.out _ HW8.out).1 (HXH.out _ HW8.out).2).mono ?_
  rintro e w9 ⟨rfl, hw9⟩
  have HW9 := Lib.hid (HW8.out.trans (hw9.mono HW8.out.size))
  clear hw9
  go_wp2_with fail
  go_ret
  exact ⟨rfl, HW9.out⟩
end Go.Proofs.YtlgmlfhalgnppaaGreatDoor
