/- A part of the proof that laws.FnTextElement returns true at every input: Rightx. -/
import Derived.RegionTactic
import Derived.Test.YtkeakdjbidbegaaGreatDoorA
import Derived.Deep.RegionHeld3
import Derived.Deep.DeepMust
import Derived.BigQuiet
import Derived.Test.YtkeakdjbidbegaaGreatDoorC
set_option linter.unusedSimpArgs false
set_option linter.unusedVariables false
set_option maxRecDepth 100000
set_option maxHeartbeats 8000000
namespace Go.Proofs.YtkeakdjbidbegaaGreatDoor
open Go.RowKit
open Go.Proofs.YtkeakdjbidbegaaGreatDoorW.PrintWords
structure RLeaf (t : VT) : Prop where
 known : knownF t.kind = true
 bin : t.kind = 5 → 0 ≤ t.n ∧ t.n ≤ 255
 id : t.kind = 7 ∨ t.kind = 12 → t.bs.length = 12
 bool : t.kind = 8 → t.n = 0 ∨ t.n = 1
 int : t.kind = 16 → -2147483648 ≤ t.n ∧ t.n < 2147483648
 rex : t.kind = 11 → plainF t.text = true ∧ plainF t.more = true
def Right : Nat → VT → Prop
 | 0, _ => False
 | d + 1, t => RLeaf t ∧ ((t.kind = 3 ∨ t.kind = 4 ∨ t.kind = 15) → ∀ i (h : i < t.kids.length), plainF t.kids[i].1 = true ∧ Right d t.kids[i].2)
theorem few_kid {e k : Nat} {kids : List (ByteArray × VT)} {name : ByteArray} {t : VT} (h : ∀ i (h : i < kids.length), VT.Few e kids[i].2) {hk : k < kids.length} (hkt : kids[k] = (name, t)) : t.Few e := by
 have := h k hk
 rw [hkt] at this
 exact this
theorem right_step {d k : Nat} {kids : List (ByteArray × VT)} {name : ByteArray} {t : VT} (h : ∀ j (h : j < k) (hj : j < kids.length), plainF kids[j].1 = true ∧ Right d kids[j].2) {hk : k < kids.length} (hkt : kids[k] = (name, t)) (hn : plainF name = true) (ht : Right d t) :
  Hid (∀ j (h : j < k + 1) (hj : j < kids.length), plainF kids[j].1 = true ∧ Right d kids[j].2) := by
 intro j h1 hj
 by_cases e : j = k
 ·subst e
  rw [hkt]
  exact ⟨hn, ht⟩
 ·exact h j (by omega) hj
theorem docRight_calls : ∀ (d e : Nat) (t : VT) (w : World), t.In w d → t.Few e → d ≤ 1000 → Calls Tryz.prog 45 #[t.val, .int .i64 d] w (AnsB (fun b => b = true → Right d t) w) := by
 intro d
 induction d with
 | zero =>
  intro e t w hin hfew hd
  obtain ⟨kind, text, more, n, bits, high, bA, bs, bc, kA, kids, kc⟩ := t
  simp only [VT.val, VT.kind, VT.text, VT.more, VT.n, VT.bits, VT.high, VT.bA, VT.bs, VT.bc, VT.kA, VT.kids, VT.kc]
  go_enter Tryz.func45, Tryz.ntmps45
  cases hk : knownF kind with
  | false =>
   go_wp2_with fail
   refine (DocKnown_calls kind _).mono ?_
   rintro e w1 ⟨rfl, rfl⟩
   rw [hk]
   go_wp2
   go_ret
   exact AnsB.of rfl (by simp) ((Below.refl _ _).alloc (Nat.le_refl _) _)
  | true =>
   go_wp2_with fail
   refine (DocKnown_calls kind _).mono ?_
   rintro e w1 ⟨rfl, rfl⟩
   rw [hk]
   go_wp2
   go_ret
   exact AnsB.of rfl (by simp) ((Below.refl _ _).alloc (Nat.le_refl _) _)
 | succ d ih =>
  intro e t w hin hfew hd
  have IH := Lib.hid ih
  clear ih
  obtain _ | e := e
  ·exact hfew.elim
  obtain ⟨kind, text, more, n, bits, high, bA, bs, bc, kA, kids, kc⟩ := t
  simp only [VT.In, VT.Few, VT.val, VT.kind, VT.text, VT.more, VT.n, VT.bits, VT.high, VT.bA, VT.bs, VT.bc, VT.kA, VT.kids, VT.kc] at hin hfew ⊢
  obtain ⟨h1, h2, h3, h4, h5, h6, h7, h8, h9, h10, h11, h12⟩ := hin
  have hkl : kids.length ≤ 300 := hfew.1
  have HFEW := Lib.hid hfew.2
  clear hfew
  cases hk : knownF kind with
  | false =>
   go_enter Tryz.func45, Tryz.ntmps45
   go_wp2_with fail
   refine (DocKnown_calls kind _).mono ?_
   rintro e w1 ⟨rfl, rfl⟩
   rw [hk]
   go_wp2
   go_ret
   exact AnsB.of rfl (by simp) ((Below.refl _ _).alloc (Nat.le_refl _) _)
  | true =>
   have HI := Lib.hid (And.intro h7 (And.intro h9 h12))
   clear h7 h9 h12
   go_enter Tryz.func45, Tryz.ntmps45
   go_wp2_with fail
   refine (DocKnown_calls kind _).mono ?_
   rintro e w1 ⟨rfl, rfl⟩
   rw [hk]
   go_wp2_with fail
   refine (docBare_calls kind text more n bits high bA bs.length bc kA kids.length kc _).mono ?_
   rintro e w2 ⟨t', m', n', b', h', A', x, y, D', z, u, rfl, hb2⟩
   obtain ⟨hc, hf⟩ := bcell hb2
   have hz2 : w.heap.size < w2.heap.size := by have := hb2.size; simp at this; omega
   have q0 : w2.cell? ⟨w.heap.size, 0, none⟩ = some (.int .i64 kind) := (hc _ _ (by simp)).trans (by simp [go_sem])
   have q1 : w2.cell? ⟨w.heap.size, 1, none⟩ = some (.string text) := (hc _ _ (by simp)).trans (by simp [go_sem])
   have q2 : w2.cell? ⟨w.heap.size, 2, none⟩ = some (.string more) := (hc _ _ (by simp)).trans (by simp [go_sem])
   have q3 : w2.cell? ⟨w.heap.size, 3, none⟩ = some (.int .i64 n) := (hc _ _ (by simp)).trans (by simp [go_sem])
   have q4 : w2.cell? ⟨w.heap.size, 4, none⟩ = some (.int .u64 bits) := (hc _ _ (by simp)).trans (by simp [go_sem])
   have q5 : w2.cell? ⟨w.heap.size, 5, none⟩ = some (.int .u64 high) := (hc _ _ (by simp)).trans (by simp [go_sem])
   have q6 : w2.cell? ⟨w.heap.size, 6, none⟩ = some (.slice bA bs.length bc) := (hc _ _ (by simp)).trans (by simp [go_sem])
   have q7 : w2.cell? ⟨w.heap.size, 7, none⟩ = some (.slice kA kids.length kc) := (hc _ _ (by simp)).trans (by simp [go_sem])
   have HB2 : Hid (Below w.heap.size w w2) := ((Below.refl _ _).alloc (Nat.le_refl _) _).trans (hb2.mono (by simp))
   clear hb2 hc hf
   by_cases zz : t'.size = 0
   ·have g := str_empty zz
    by_cases zz : m'.size = 0
    ·have g := str_empty zz
     by_cases zz : n' = 0
     ·subst zz
      by_cases zz : b' = 0
      ·subst zz
       by_cases zz : h' = 0
       ·subst zz
        by_cases zz : x = 0
        ·subst zz
         by_cases zz : z = 0
         ·subst zz
          have HK := Lib.hid hk
          clear hk
          by_cases k5 : kind = 5
          ·subst k5
           by_cases r1 : 0 ≤ n
           ·by_cases r2 : n ≤ 255
            ·have e1 : decide (n ≤ 255) = true := decide_eq_true r2
             go_wp2
             go_ret
             first | exact AnsB.of rfl (fun hb => absurd hb (by decide)) (HB2.out.alloc (by exact HB2.out.size) _) | (refine AnsB.of rfl (fun hb => ⟨⟨HK.out, ?_, ?_, ?_, ?_, ?_⟩, ?_⟩) (HB2.out.alloc (by exact HB2.out.size) _) <;> (simp [VT.kind, VT.n, VT.bs, VT.text, VT.more] at hb ⊢) <;> first | omega | exact hb | exact ⟨HP.out, hb⟩)
            ·have e1 : decide (n ≤ 255) = false := decide_eq_false r2
             go_wp2
             go_ret
             first | exact AnsB.of rfl (fun hb => absurd hb (by decide)) (HB2.out.alloc (by exact HB2.out.size) _) | (refine AnsB.of rfl (fun hb => ⟨⟨HK.out, ?_, ?_, ?_, ?_, ?_⟩, ?_⟩) (HB2.out.alloc (by exact HB2.out.size) _) <;> (simp [VT.kind, VT.n, VT.bs, VT.text, VT.more] at hb ⊢) <;> first | omega | exact hb | exact ⟨HP.out, hb⟩)
           ·have e1 : decide (0 ≤ n) = false := decide_eq_false r1
            go_wp2
            go_ret
            first | exact AnsB.of rfl (fun hb => absurd hb (by decide)) (HB2.out.alloc (by exact HB2.out.size) _) | (refine AnsB.of rfl (fun hb => ⟨⟨HK.out, ?_, ?_, ?_, ?_, ?_⟩, ?_⟩) (HB2.out.alloc (by exact HB2.out.size) _) <;> (simp [VT.kind, VT.n, VT.bs, VT.text, VT.more] at hb ⊢) <;> first | omega | exact hb | exact ⟨HP.out, hb⟩)
          have f5 : (kind == 5) = false := by rw [beq_eq_false_iff_ne]; exact k5
          by_cases k7 : kind = 7
          ·subst k7
           go_wp2
           go_ret
           first | exact AnsB.of rfl (fun hb => absurd hb (by decide)) (HB2.out.alloc (by exact HB2.out.size) _) | (refine AnsB.of rfl (fun hb => ⟨⟨HK.out, ?_, ?_, ?_, ?_, ?_⟩, ?_⟩) (HB2.out.alloc (by exact HB2.out.size) _) <;> (simp [VT.kind, VT.n, VT.bs, VT.text, VT.more] at hb ⊢) <;> first | omega | exact hb | exact ⟨HP.out, hb⟩)
          have f7 : (kind == 7) = false := by rw [beq_eq_false_iff_ne]; exact k7
          by_cases k12 : kind = 12
          ·subst k12
           go_wp2
           go_ret
           first | exact AnsB.of rfl (fun hb => absurd hb (by decide)) (HB2.out.alloc (by exact HB2.out.size) _) | (refine AnsB.of rfl (fun hb => ⟨⟨HK.out, ?_, ?_, ?_, ?_, ?_⟩, ?_⟩) (HB2.out.alloc (by exact HB2.out.size) _) <;> (simp [VT.kind, VT.n, VT.bs, VT.text, VT.more] at hb ⊢) <;> first | omega | exact hb | exact ⟨HP.out, hb⟩)
          have f12 : (kind == 12) = false := by rw [beq_eq_false_iff_ne]; exact k12
          by_cases k8 : kind = 8
          ·subst k8
           by_cases r1 : n = 0
           ·subst r1
            go_wp2
            go_ret
            first | exact AnsB.of rfl (fun hb => absurd hb (by decide)) (HB2.out.alloc (by exact HB2.out.size) _) | (refine AnsB.of rfl (fun hb => ⟨⟨HK.out, ?_, ?_, ?_, ?_, ?_⟩, ?_⟩) (HB2.out.alloc (by exact HB2.out.size) _) <;> (simp [VT.kind, VT.n, VT.bs, VT.text, VT.more] at hb ⊢) <;> first | omega | exact hb | exact ⟨HP.out, hb⟩)
           ·have e1 : (n == 0) = false := by rw [beq_eq_false_iff_ne]; exact r1
            go_wp2
            go_ret
            first | exact AnsB.of rfl (fun hb => absurd hb (by decide)) (HB2.out.alloc (by exact HB2.out.size) _) | (refine AnsB.of rfl (fun hb => ⟨⟨HK.out, ?_, ?_, ?_, ?_, ?_⟩, ?_⟩) (HB2.out.alloc (by exact HB2.out.size) _) <;> (simp [VT.kind, VT.n, VT.bs, VT.text, VT.more] at hb ⊢) <;> first | omega | exact hb | exact ⟨HP.out, hb⟩)
          have f8 : (kind == 8) = false := by rw [beq_eq_false_iff_ne]; exact k8
          by_cases k16 : kind = 16
          ·subst k16
           by_cases r1 : -2147483648 ≤ n
           ·by_cases r2 : n < 2147483648
            ·have e1 : decide (n < 2147483648) = true := decide_eq_true r2
             go_wp2
             go_ret
             first | exact AnsB.of rfl (fun hb => absurd hb (by decide)) (HB2.out.alloc (by exact HB2.out.size) _) | (refine AnsB.of rfl (fun hb => ⟨⟨HK.out, ?_, ?_, ?_, ?_, ?_⟩, ?_⟩) (HB2.out.alloc (by exact HB2.out.size) _) <;> (simp [VT.kind, VT.n, VT.bs, VT.text, VT.more] at hb ⊢) <;> first | omega | exact hb | exact ⟨HP.out, hb⟩)
            ·have e1 : decide (n < 2147483648) = false := decide_eq_false r2
             go_wp2
             go_ret
             first | exact AnsB.of rfl (fun hb => absurd hb (by decide)) (HB2.out.alloc (by exact HB2.out.size) _) | (refine AnsB.of rfl (fun hb => ⟨⟨HK.out, ?_, ?_, ?_, ?_, ?_⟩, ?_⟩) (HB2.out.alloc (by exact HB2.out.size) _) <;> (simp [VT.kind, VT.n, VT.bs, VT.text, VT.more] at hb ⊢) <;> first | omega | exact hb | exact ⟨HP.out, hb⟩)
           ·have e1 : decide (-2147483648 ≤ n) = false := decide_eq_false r1
            go_wp2
            go_ret
            first | exact AnsB.of rfl (fun hb => absurd hb (by decide)) (HB2.out.alloc (by exact HB2.out.size) _) | (refine AnsB.of rfl (fun hb => ⟨⟨HK.out, ?_, ?_, ?_, ?_, ?_⟩, ?_⟩) (HB2.out.alloc (by exact HB2.out.size) _) <;> (simp [VT.kind, VT.n, VT.bs, VT.text, VT.more] at hb ⊢) <;> first | omega | exact hb | exact ⟨HP.out, hb⟩)
          have f16 : (kind == 16) = false := by rw [beq_eq_false_iff_ne]; exact k16
          by_cases k11 : kind = 11
          ·subst k11
           cases hp : plainF text with
           | false =>
            have HP := Lib.hid hp
            clear hp
            go_wp2_with fail
            refine (DocPlain_calls text h5 _).mono ?_
            rintro e w3 ⟨rfl, rfl⟩
            rw [HP.out]
            go_wp2
            go_ret
            first | exact AnsB.of rfl (fun hb => absurd hb (by decide)) (HB2.out.alloc (by exact HB2.out.size) _) | (refine AnsB.of rfl (fun hb => ⟨⟨HK.out, ?_, ?_, ?_, ?_, ?_⟩, ?_⟩) (HB2.out.alloc (by exact HB2.out.size) _) <;> (simp [VT.kind, VT.n, VT.bs, VT.text, VT.more] at hb ⊢) <;> first | omega | exact hb | exact ⟨HP.out, hb⟩)
           | true =>
            have HP := Lib.hid hp
            clear hp
            go_wp2_with fail
            refine (DocPlain_calls text h5 _).mono ?_
            rintro e w3 ⟨rfl, rfl⟩
            rw [HP.out]
            go_wp2_with fail
            refine (DocPlain_calls more h6 _).mono ?_
            rintro e w4 ⟨rfl, rfl⟩
            go_wp2
            go_ret
            first | exact AnsB.of rfl (fun hb => absurd hb (by decide)) (HB2.out.alloc (by exact HB2.out.size) _) | (refine AnsB.of rfl (fun hb => ⟨⟨HK.out, ?_, ?_, ?_, ?_, ?_⟩, ?_⟩) (HB2.out.alloc (by exact HB2.out.size) _) <;> (simp [VT.kind, VT.n, VT.bs, VT.text, VT.more] at hb ⊢) <;> first | omega | exact hb | exact ⟨HP.out, hb⟩)
          have f11 : (kind == 11) = false := by rw [beq_eq_false_iff_ne]; exact k11
          have RL : Hid (RLeaf (.mk kind text more n bits high bA bs bc kA kids kc)) := ⟨HK.out, fun h => absurd h k5, fun h => h.elim (fun h => absurd h k7) (fun h => absurd h k12), fun h => absurd h k8, fun h => absurd h k16, fun h => absurd h k11⟩
          clear k5 k7 k12 k8 k16 k11
          by_cases k4 : kind = 4
          ·subst k4
           go_wp2_with fail
           go_loopw [6, 7] (fun i e wr => ∃ k : Nat, k ≤ kids.length ∧ i = .int .i64 k ∧ Hid (∀ j (h : j < k) (hj : j < kids.length), plainF kids[j].1 = true ∧ Right d kids[j].2) ∧ Below w2.heap.size w2 wr) (fun i _ _ => kids.length - (intOf i).toNat)
           case atStart => exact ⟨0, Nat.zero_le _, rfl, fun j h => absurd h (Nat.not_lt_zero _), (Below.refl _ _).alloc (Nat.le_refl _) _⟩
           case round =>
            obtain ⟨k, hk, rfl, HX, hb⟩ := hrel
            have b7 : wr.cell? ⟨w.heap.size, 7, none⟩ = some (.slice kA kids.length kc) := (hb.cell (p := ⟨w.heap.size, 7, none⟩) hz2).trans q7
            have hz3 : w.heap.size < wr.heap.size := Nat.lt_of_lt_of_le hz2 hb.size
            by_cases hlt : k < kids.length
            ·have hd' : decide ((k : Int) < kids.length) = true := by simp; omega
             obtain ⟨ad, rfl, hkid⟩ := HI.out.2.2 (by omega)
             have HB3 : Hid (Below w.heap.size w wr) := HB2.out.trans (hb.mono (by omega))
             obtain ⟨p, name, t, hp, hkt, hn, ht, hpb, c0, c1, c2, c3, c4, c5, c6, c7, c8⟩ := VT.kid HB3.out hlt hkid
             clear hkid
             have HT := Lib.hid (And.intro ht hkt)
             clear ht hkt
             have HBr := Lib.hid hb
             clear hb
             have hdw : IntKind.i64.wrap (d : Int) = d := by rw [IntKind.wrap_i64]; omega
             have b0 : wr.cell? ⟨w.heap.size, 0, none⟩ = some (.int .i64 4) := (HBr.out.cell (p := ⟨w.heap.size, 0, none⟩) hz2).trans q0
             have HS : Hid (∀ w', Below (wr.heap.size + 1) (wr.alloc (.cells #[.string name, .int .i64 t.kind, .string t.text, .string t.more, .int .i64 t.n, .int .u64 t.bits, .int .u64 t.high, .slice t.bA t.bs.length t.bc, .slice t.kA t.kids.length t.kc] 30)) w' → Below (wr.heap.size + 1) (wr.alloc (.cells #[.string name, .int .i64 t.kind, .string t.text, .string t.more, .int .i64 t.n, .int .u64 t.bits, .int .u64 t.high, .slice t.bA t.bs.length t.bc, .slice t.kA t.kids.length t.kc] 30)) w' ∧ w'.cell? ⟨wr.heap.size, 0, none⟩ = some (.string name) ∧ w'.cell? ⟨wr.heap.size, 1, none⟩ = some (.int .i64 t.kind) ∧ w'.cell? ⟨wr.heap.size, 2, none⟩ = some (.string t.text) ∧ w'.cell? ⟨wr.heap.size, 3, none⟩ = some (.string t.more) ∧ w'.cell? ⟨wr.heap.size, 4, none⟩ = some (.int .i64 t.n) ∧ w'.cell? ⟨wr.heap.size, 5, none⟩ = some (.int .u64 t.bits) ∧ w'.cell? ⟨wr.heap.size, 6, none⟩ = some (.int .u64 t.high) ∧ w'.cell? ⟨wr.heap.size, 7, none⟩ = some (.slice t.bA t.bs.length t.bc) ∧ w'.cell? ⟨wr.heap.size, 8, none⟩ = some (.slice t.kA t.kids.length t.kc) ∧ w'.cell? ⟨w.heap.size, 0, none⟩ = some (.int .i64 4)) := by
              intro w' h
              refine ⟨h, ?_⟩
              refine ⟨?_, ?_, ?_, ?_, ?_, ?_, ?_, ?_, ?_, ?_⟩
              all_goals (first | exact (h.cell (p := ⟨wr.heap.size, _, none⟩) (by simp)).trans (by simp [go_sem]) | exact (h.cell (p := ⟨w.heap.size, 0, none⟩) (by simp; omega)).trans (by simp [go_sem, hz3, b0]))
             have HT2 : Hid (∀ w4 w6, Below (wr.heap.size + 1) (wr.alloc (.cells #[.string name, .int .i64 t.kind, .string t.text, .string t.more, .int .i64 t.n, .int .u64 t.bits, .int .u64 t.high, .slice t.bA t.bs.length t.bc, .slice t.kA t.kids.length t.kc] 30)) w4 → Below w4.heap.size w4 w6 → Below (wr.heap.size + 1) (wr.alloc (.cells #[.string name, .int .i64 t.kind, .string t.text, .string t.more, .int .i64 t.n, .int .u64 t.bits, .int .u64 t.high, .slice t.bA t.bs.length t.bc, .slice t.kA t.kids.length t.kc] 30)) w6) := fun w4 w6 h1 h2 => h1.trans (h2.mono (by have := h1.size; simp at this; omega))
             have HN : Hid (∀ w', Below (wr.heap.size + 1) (wr.alloc (.cells #[.string name, .int .i64 t.kind, .string t.text, .string t.more, .int .i64 t.n, .int .u64 t.bits, .int .u64 t.high, .slice t.bA t.bs.length t.bc, .slice t.kA t.kids.length t.kc] 30)) w' → t.In w' d) := fun w' h => HT.out.1.below (((Below.refl _ _).alloc (Nat.le_refl _) _).trans (h.mono (by omega)))
             have HQ := Lib.hid hz3
             cases hpl : plainF name with
             | false =>
              go_wp2_with fail
              go_quiet (first | (go_at_call 99; go_must (exact Calls.quiet_of_same ((DocPlain_calls name hn _).mono fun e w' h => ⟨h.1, h.2.symm⟩))))
              go_wp2_with fail
              go_ret
              exact AnsB.of rfl (by simp) (pw_below_drewN (HB3.out.alloc (by exact HB3.out.size) _) _)
             | true =>
              cases hq : (name.toList == (strOfNums (digs k)).toList) with
              | false =>
               have hq1 : ¬ name.toList = (strOfNums (digs k)).toList := by simpa using hq
               have HPL := Lib.hid hpl
               clear hpl
               go_wp2_with fail
               first | (go_must (go_region_with (first | (go_at_call 99; (with_reducible refine (DocPlain_calls name hn _).mono ?_); rintro e w5 ⟨rfl, rfl⟩; rw [HPL.out]) | (go_at_call 100; (with_reducible refine (DocDigits_calls 3 k _ (by omega) (by omega) (by omega)).mono ?_); rintro e w9 ⟨u, rfl, hu, hb9⟩; obtain rfl := hu.out; have l9 := (hb9.cell (p := ⟨wr.heap.size, 0, none⟩) (by simp)).trans (show _ = some (Value.string name) by simp [go_sem]); have HB5 := Lib.hid hb9; clear hu hb9)))) | skip
               all_goals (have HW6 : Hid (Below w.heap.size w w9) := ((HB3.out.alloc (by exact HB3.out.size) (.cells #[.string name, .int .i64 t.kind, .string t.text, .string t.more, .int .i64 t.n, .int .u64 t.bits, .int .u64 t.high, .slice t.bA t.bs.length t.bc, .slice t.kA t.kids.length t.kc] 30)).drew).trans (HB5.out.mono (by have := HB3.out.size; simp; omega)))
               all_goals go_wp2_with fail
               all_goals (go_ret; exact AnsB.of rfl (by simp) HW6.out)
              | true =>
               have HPL := Lib.hid hpl
               clear hpl
               go_wp2_with fail
               first | (go_must (go_region_held3 (fun w' => Below (wr.heap.size + 1) (wr.alloc (.cells #[.string name, .int .i64 t.kind, .string t.text, .string t.more, .int .i64 t.n, .int .u64 t.bits, .int .u64 t.high, .slice t.bA t.bs.length t.bc, .slice t.kA t.kids.length t.kc] 30)) w' ∧ w'.cell? ⟨wr.heap.size, 0, none⟩ = some (.string name) ∧ w'.cell? ⟨wr.heap.size, 1, none⟩ = some (.int .i64 t.kind) ∧ w'.cell? ⟨wr.heap.size, 2, none⟩ = some (.string t.text) ∧ w'.cell? ⟨wr.heap.size, 3, none⟩ = some (.string t.more) ∧ w'.cell? ⟨wr.heap.size, 4, none⟩ = some (.int .i64 t.n) ∧ w'.cell? ⟨wr.heap.size, 5, none⟩ = some (.int .u64 t.bits) ∧ w'.cell? ⟨wr.heap.size, 6, none⟩ = some (.int .u64 t.high) ∧ w'.cell? ⟨wr.heap.size, 7, none⟩ = some (.slice t.bA t.bs.length t.bc) ∧ w'.cell? ⟨wr.heap.size, 8, none⟩ = some (.slice t.kA t.kids.length t.kc) ∧ w'.cell? ⟨w.heap.size, 0, none⟩ = some (.int .i64 4)) (first | assumption | exact HS.out _ (Below.refl _ _).drew | exact HS.out _ (HT2.out _ _ (And.left ‹Below (wr.heap.size + 1) _ _ ∧ _›) HB5.out)) (first | (go_at_call 99; refine (DocPlain_calls name hn _).mono ?_; rintro e w5 ⟨rfl, rfl⟩; rw [HPL.out]) | (go_at_call 100; go_must (refine (DocDigits_calls 3 k _ (by omega) (by omega) (by omega)).mono ?_; rintro e w9 ⟨u, rfl, hu, hb9⟩; obtain rfl := hu.out; have HB5 := Lib.hid hb9; clear hu hb9)) | (go_at_call 45; refine (IH.out _ t _ ?_ (few_kid HFEW.out HT.out.2) (by omega)).mono ?_; exact HN.out _ (And.left ‹Below (wr.heap.size + 1) _ _ ∧ _›); rintro e w6 ⟨b, rfl, hb1, hb2⟩; have HB5 := Lib.hid hb2; have HC5 := Lib.hid hb1; clear hb1 hb2)))) | skip
               all_goals (have HW6 : Hid (Below w.heap.size w w6) := (HB3.out.alloc (by exact HB3.out.size) _).trans ((And.left ‹Below (wr.heap.size + 1) _ w6 ∧ _›).mono (by have := HB3.out.size; omega)))
               all_goals (have HW7 : Hid (Below w2.heap.size w2 w6) := (HBr.out.alloc (by exact HBr.out.size) _).trans ((And.left ‹Below (wr.heap.size + 1) _ w6 ∧ _›).mono (by have := HBr.out.size; omega)))
               all_goals cases b
               all_goals go_wp2_with fail
               all_goals (first | (go_ret; exact AnsB.of rfl (by simp) HW6.out) | skip)
               all_goals exact ⟨⟨k + 1, by omega, by (try rw [wrap64_id _ (by omega) (by omega)]); rfl, right_step HX.out HT.out.2 HPL.out (HC5.out rfl), HW7.out⟩, by (try rw [wrap64_id _ (by omega) (by omega)]); simp [intOf]; omega⟩
            ·have hd' : decide ((k : Int) < kids.length) = false := by simp; omega
             have HW8 : Hid (Below w.heap.size w wr) := HB2.out.trans (hb.mono (by omega))
             go_wp2_with fail
             go_ret
             exact AnsB.of rfl (fun _ => ⟨RL.out, fun _ i hi => HX.out i (by have := hi; simp only [VT.kids] at this; omega) hi⟩) HW8.out
          ·have f4 : (kind == 4) = false := by rw [beq_eq_false_iff_ne]; exact k4
           have K4 := Lib.hid k4
           clear k4
           go_wp2_with fail
           go_loopw [6, 7] (fun i e wr => ∃ k : Nat, k ≤ kids.length ∧ i = .int .i64 k ∧ Hid (∀ j (h : j < k) (hj : j < kids.length), plainF kids[j].1 = true ∧ Right d kids[j].2) ∧ Below w2.heap.size w2 wr) (fun i _ _ => kids.length - (intOf i).toNat)
           case atStart => exact ⟨0, Nat.zero_le _, rfl, fun j h => absurd h (Nat.not_lt_zero _), (Below.refl _ _).alloc (Nat.le_refl _) _⟩
           case round =>
            obtain ⟨k, hk, rfl, HX, hb⟩ := hrel
            have b7 : wr.cell? ⟨w.heap.size, 7, none⟩ = some (.slice kA kids.length kc) := (hb.cell (p := ⟨w.heap.size, 7, none⟩) hz2).trans q7
            have hz3 : w.heap.size < wr.heap.size := Nat.lt_of_lt_of_le hz2 hb.size
            by_cases hlt : k < kids.length
            ·have hd' : decide ((k : Int) < kids.length) = true := by simp; omega
             obtain ⟨ad, rfl, hkid⟩ := HI.out.2.2 (by omega)
             have HB3 : Hid (Below w.heap.size w wr) := HB2.out.trans (hb.mono (by omega))
             obtain ⟨p, name, t, hp, hkt, hn, ht, hpb, c0, c1, c2, c3, c4, c5, c6, c7, c8⟩ := VT.kid HB3.out hlt hkid
             clear hkid
             have HT := Lib.hid (And.intro ht hkt)
             clear ht hkt
             have HBr := Lib.hid hb
             clear hb
             have hdw : IntKind.i64.wrap (d : Int) = d := by rw [IntKind.wrap_i64]; omega
             have b0 : wr.cell? ⟨w.heap.size, 0, none⟩ = some (.int .i64 kind) := (HBr.out.cell (p := ⟨w.heap.size, 0, none⟩) hz2).trans q0
             have HS : Hid (∀ w', Below (wr.heap.size + 1) (wr.alloc (.cells #[.string name, .int .i64 t.kind, .string t.text, .string t.more, .int .i64 t.n, .int .u64 t.bits, .int .u64 t.high, .slice t.bA t.bs.length t.bc, .slice t.kA t.kids.length t.kc] 30)) w' → Below (wr.heap.size + 1) (wr.alloc (.cells #[.string name, .int .i64 t.kind, .string t.text, .string t.more, .int .i64 t.n, .int .u64 t.bits, .int .u64 t.high, .slice t.bA t.bs.length t.bc, .slice t.kA t.kids.length t.kc] 30)) w' ∧ w'.cell? ⟨wr.heap.size, 0, none⟩ = some (.string name) ∧ w'.cell? ⟨wr.heap.size, 1, none⟩ = some (.int .i64 t.kind) ∧ w'.cell? ⟨wr.heap.size, 2, none⟩ = some (.string t.text) ∧ w'.cell? ⟨wr.heap.size, 3, none⟩ = some (.string t.more) ∧ w'.cell? ⟨wr.heap.size, 4, none⟩ = some (.int .i64 t.n) ∧ w'.cell? ⟨wr.heap.size, 5, none⟩ = some (.int .u64 t.bits) ∧ w'.cell? ⟨wr.heap.size, 6, none⟩ = some (.int .u64 t.high) ∧ w'.cell? ⟨wr.heap.size, 7, none⟩ = some (.slice t.bA t.bs.length t.bc) ∧ w'.cell? ⟨wr.heap.size, 8, none⟩ = some (.slice t.kA t.kids.length t.kc) ∧ w'.cell? ⟨w.heap.size, 0, none⟩ = some (.int .i64 kind)) := by
              intro w' h
              refine ⟨h, ?_⟩
              refine ⟨?_, ?_, ?_, ?_, ?_, ?_, ?_, ?_, ?_, ?_⟩
              all_goals (first | exact (h.cell (p := ⟨wr.heap.size, _, none⟩) (by simp)).trans (by simp [go_sem]) | exact (h.cell (p := ⟨w.heap.size, 0, none⟩) (by simp; omega)).trans (by simp [go_sem, hz3, b0]))
             have HT2 : Hid (∀ w4 w6, Below (wr.heap.size + 1) (wr.alloc (.cells #[.string name, .int .i64 t.kind, .string t.text, .string t.more, .int .i64 t.n, .int .u64 t.bits, .int .u64 t.high, .slice t.bA t.bs.length t.bc, .slice t.kA t.kids.length t.kc] 30)) w4 → Below w4.heap.size w4 w6 → Below (wr.heap.size + 1) (wr.alloc (.cells #[.string name, .int .i64 t.kind, .string t.text, .string t.more, .int .i64 t.n, .int .u64 t.bits, .int .u64 t.high, .slice t.bA t.bs.length t.bc, .slice t.kA t.kids.length t.kc] 30)) w6) := fun w4 w6 h1 h2 => h1.trans (h2.mono (by have := h1.size; simp at this; omega))
             have HN : Hid (∀ w', Below (wr.heap.size + 1) (wr.alloc (.cells #[.string name, .int .i64 t.kind, .string t.text, .string t.more, .int .i64 t.n, .int .u64 t.bits, .int .u64 t.high, .slice t.bA t.bs.length t.bc, .slice t.kA t.kids.length t.kc] 30)) w' → t.In w' d) := fun w' h => HT.out.1.below (((Below.refl _ _).alloc (Nat.le_refl _) _).trans (h.mono (by omega)))
             have HQ := Lib.hid hz3
             cases hpl : plainF name with
             | false =>
              go_wp2_with fail
              go_quiet (first | (go_at_call 99; go_must (exact Calls.quiet_of_same ((DocPlain_calls name hn _).mono fun e w' h => ⟨h.1, h.2.symm⟩))))
              go_wp2_with fail
              go_ret
              exact AnsB.of rfl (by simp) (pw_below_drewN (HB3.out.alloc (by exact HB3.out.size) _) _)
             | true =>
              have HPL := Lib.hid hpl
              clear hpl
              go_wp2_with fail
              first | (go_must (go_region_with (first | (go_at_call 99; (with_reducible refine (DocPlain_calls name hn _).mono ?_); rintro e w5 ⟨rfl, rfl⟩; rw [HPL.out]) | (go_at_call 45; refine (IH.out _ t _ (HN.out _ (Below.refl _ _).drew) (few_kid HFEW.out HT.out.2) (by omega)).mono ?_; rintro e w6 ⟨b, rfl, hb1, hb2⟩; have HB5 := Lib.hid hb2; have HC5 := Lib.hid hb1; clear hb1 hb2)))) | skip
              all_goals (have HW6 : Hid (Below w.heap.size w w6) := ((HB3.out.alloc (by exact HB3.out.size) (.cells #[.string name, .int .i64 t.kind, .string t.text, .string t.more, .int .i64 t.n, .int .u64 t.bits, .int .u64 t.high, .slice t.bA t.bs.length t.bc, .slice t.kA t.kids.length t.kc] 30)).drew).trans (HB5.out.mono (by have := HB3.out.size; simp; omega)))
              all_goals (have HW7 : Hid (Below w2.heap.size w2 w6) := ((HBr.out.alloc (by exact HBr.out.size) (.cells #[.string name, .int .i64 t.kind, .string t.text, .string t.more, .int .i64 t.n, .int .u64 t.bits, .int .u64 t.high, .slice t.bA t.bs.length t.bc, .slice t.kA t.kids.length t.kc] 30)).drew).trans (HB5.out.mono (by have := HBr.out.size; simp; omega)))
              all_goals cases b
              all_goals go_wp2_with fail
              all_goals (first | (go_ret; exact AnsB.of rfl (by simp) HW6.out) | skip)
              all_goals exact ⟨⟨k + 1, by omega, by (try rw [wrap64_id _ (by omega) (by omega)]); rfl, right_step HX.out HT.out.2 HPL.out (HC5.out rfl), HW7.out⟩, by (try rw [wrap64_id _ (by omega) (by omega)]); simp [intOf]; omega⟩
            ·have hd' : decide ((k : Int) < kids.length) = false := by simp; omega
             have HW8 : Hid (Below w.heap.size w wr) := HB2.out.trans (hb.mono (by omega))
             go_wp2_with fail
             go_ret
             exact AnsB.of rfl (fun _ => ⟨RL.out, fun _ i hi => HX.out i (by have := hi; simp only [VT.kids] at this; omega) hi⟩) HW8.out
         ·have g : ((z : Int) == 0) = false := by rw [beq_eq_false_iff_ne]; omega
          go_wp2
          go_ret
          exact AnsB.of rfl (by simp) (HB2.out.alloc (by exact HB2.out.size) _)
        ·have g : ((x : Int) == 0) = false := by rw [beq_eq_false_iff_ne]; omega
         go_wp2
         go_ret
         exact AnsB.of rfl (by simp) (HB2.out.alloc (by exact HB2.out.size) _)
       ·have g : (h' == 0) = false := by rw [beq_eq_false_iff_ne]; exact zz
        go_wp2
        go_ret
        exact AnsB.of rfl (by simp) (HB2.out.alloc (by exact HB2.out.size) _)
      ·have g : (b' == 0) = false := by rw [beq_eq_false_iff_ne]; exact zz
       go_wp2
       go_ret
       exact AnsB.of rfl (by simp) (HB2.out.alloc (by exact HB2.out.size) _)
     ·have g : (n' == 0) = false := by rw [beq_eq_false_iff_ne]; exact zz
      go_wp2
      go_ret
      exact AnsB.of rfl (by simp) (HB2.out.alloc (by exact HB2.out.size) _)
    ·have g := str_pos (s := m') (by omega)
     go_wp2
     go_ret
     exact AnsB.of rfl (by simp) (HB2.out.alloc (by exact HB2.out.size) _)
   ·have g := str_pos (s := t') (by omega)
    go_wp2
    go_ret
    exact AnsB.of rfl (by simp) (HB2.out.alloc (by exact HB2.out.size) _)
end Go.Proofs.YtkeakdjbidbegaaGreatDoor
