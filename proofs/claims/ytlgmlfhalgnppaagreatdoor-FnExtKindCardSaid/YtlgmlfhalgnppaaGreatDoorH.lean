/- A part of the proof that laws.FnExtKind returns true at every input: Sty, Stext, Sobj. -/
import Derived.Test.YtlgmlfhalgnppaaGreatDoorB
import Derived.BigQuiet
import Derived.Deep.RegionHeld3
import Derived.Deep.DeepMust
/-! spec.extStyle: next, gap, unit. -/
set_option linter.unusedSimpArgs false
set_option linter.unusedVariables false
namespace Go.Proofs.YtlgmlfhalgnppaaGreatDoor
open Go.RowKit
open Go.Proofs.YtlgmlfhalgnppaaGreatDoorW.PrintWords hiding bt bt_at bt_range

/-- What a method of the style's leaves. -/
structure StyAfter (w0 : World) (S : Nat) (cA : Option Addr) (cs : List Int) (cc : Nat) (w w' : World) : Prop where
  sty : Sty w0 S cA cs cc w'
  keeps : Keeps w.heap.size [S] w w'
theorem StyAfter.trans {w0 : World} {S : Nat} {cA : Option Addr} {cs : List Int} {cc : Nat} {a b c : World} (h : StyAfter w0 S cA cs cc a b) (k : StyAfter w0 S cA cs cc b c) : StyAfter w0 S cA cs cc a c :=
  ⟨k.sty, h.keeps.trans (k.keeps.mono h.keeps.size (fun s hs _ => hs))⟩
theorem Sty.drewN {w0 : World} {S : Nat} {cA : Option Addr} {cs : List Int} {cc : Nat} {w : World} (h : Sty w0 S cA cs cc w) (n : Nat) : StyAfter w0 S cA cs cc w (w.drewN n) :=
  ⟨h.keeps (B := S + 1) (pw_below_drewN (Below.refl _ _) n) (by omega), (Keeps.refl _ _ _).drewN n⟩
theorem Sty.step {w0 : World} {S : Nat} {cA : Option Addr} {cs : List Int} {cc : Nat} {w : World} (h : Sty w0 S cA cs cc w) (k : Nat) (hk : k ≤ cs.length) (x : Int) (hx : x = k) : StyAfter w0 S cA cs cc w (w.setCell ⟨S, 1, none⟩ (.int .i64 x)) where
  keeps := (Keeps.refl _ _ _).setCell (Or.inl (by simp)) _
  sty := {
    base := h.base
    below := h.below.setCell (p := ⟨S, 1, none⟩) h.base _
    code := h.code
    range := h.range
    len := h.len
    cap := h.cap
    size := by have := h.size; simpa [World.setCell] using this
    c0 := by have := h.c0; simpa [go_sem] using this
    c1 := ⟨k, hk, by obtain ⟨a, _, h1⟩ := h.c1; simp [go_sem, h1, hx]⟩
    c2 := by have := h.c2; simpa [go_sem] using this
    c3 := by have := h.c3; simpa [go_sem] using this
    fr := fun o => by have := h.fr o; simpa [go_sem] using this }
set_option maxRecDepth 100000 in
theorem next_calls (n : Int) (hn : 0 < n) (hn2 : n ≤ 1000) {w0 : World} {S : Nat} {cA : Option Addr} {cs : List Int} {cc : Nat} {w : World} (h : Sty w0 S cA cs cc w) :
    Calls Tryz.prog 17 #[.pointer (some ⟨S, 0, none⟩), .int .i64 n] w fun e w' => ∃ r : Int, e = .returned (.int .i64 r) ∧ (0 ≤ r ∧ r < n) ∧ StyAfter w0 S cA cs cc w w' := by
  obtain ⟨k, hk, c1⟩ := h.c1
  have c0 := h.c0
  have fr := h.fr 1
  have hlen := h.len
  have hcap : cs.length ≤ 9223372036854775807 := by have := h.cap; unfold maxLen at this; omega
  by_cases hlt : k < cs.length
  · obtain ⟨ad, rfl, hc⟩ := h.code.at_ k (by omega) (by omega)
    rw [Int.toNat_natCast] at hc
    have hbl := World.block_lt_of_cell? w0 _ hc
    have hS : (ad.add k).block ≠ S := by have := h.base; omega
    have hc2 := pw_cell_below h.below hc
    have hr := h.range (rd cs k) (rd_mem hlt)
    have hc4 : ∀ (q : Nat) (v : Value), ((w.drewN q).setCell ⟨S, 1, none⟩ v).cell? (ad.add k) = some (.int .u8 (rd cs k)) := fun q v => (World.cell?_of_block (w := w) (by rw [Below.heap_setCell _ _ _ _ hS]; simp [go_sem])).trans hc2
    have H := Lib.hid h
    clear h hbl hc
    have hd : decide ((cs.length : Int) ≤ k) = false := by simp; omega
    have hwk : IntKind.i64.wrap (k : Int) = k := by rw [IntKind.wrap_i64]; omega
    go_enter Tryz.func17, Tryz.ntmps17
    go_wp2_with fail
    go_quiet (fail)
    go_wp2_with fail
    have hd2 : (n == 0) = false := by rw [beq_eq_false_iff_ne]; omega
    go_quiet (fail)
    go_wp2_with fail
    go_ret
    refine ⟨_, rfl, ?_, (H.out.drewN _).trans (((H.out.drewN _).sty.step (k + 1) (by omega) _ (by omega)).trans ((((H.out.drewN _).sty.step (k + 1) (by omega) _ (by omega)).sty).drewN _))⟩
    exact ⟨Int.emod_nonneg _ (by omega), Int.emod_lt_of_pos _ hn⟩
  · have hd : decide ((cs.length : Int) ≤ k) = true := by simp; omega
    have H := Lib.hid h
    clear h
    go_enter Tryz.func17, Tryz.ntmps17
    go_wp2_with fail
    go_quiet (fail)
    go_wp2_with fail
    go_ret
    exact ⟨0, by simp, by omega, H.out.drewN _⟩
theorem Sty.alloc {w0 : World} {S : Nat} {cA : Option Addr} {cs : List Int} {cc : Nat} {w : World} (h : Sty w0 S cA cs cc w) (o : Obj) : StyAfter w0 S cA cs cc w (w.alloc o) :=
  ⟨h.keeps (B := S + 1) ((Below.refl _ _).alloc (by have := h.size; omega) o) (by omega), (Keeps.refl _ _ _).alloc (Nat.le_refl _) o⟩
theorem Sty.with {w0 : World} {S : Nat} {cA : Option Addr} {cs : List Int} {cc : Nat} {w w' : World} (h : Sty w0 S cA cs cc w) (k : Below w.heap.size w w') : StyAfter w0 S cA cs cc w w' :=
  ⟨h.keeps k h.size, Keeps.ofBelow k⟩
/-- A text of l, and the style behind it. -/
structure StyText (P : List Int → Prop) (w0 : World) (S : Nat) (cA : Option Addr) (cs : List Int) (cc : Nat) (w : World) (e : Ending) (w' : World) : Prop where
  out : ∃ u l, e = .returned (.string u) ∧ StrIs u l ∧ P l
  after : StyAfter w0 S cA cs cc w w'
set_option maxRecDepth 100000 in
theorem gap_calls {w0 : World} {S : Nat} {cA : Option Addr} {cs : List Int} {cc : Nat} {w : World} (h : Sty w0 S cA cs cc w) :
    Calls Tryz.prog 11 #[.pointer (some ⟨S, 0, none⟩)] w (StyText (fun l => Bl l ∧ l.length ≤ 2) w0 S cA cs cc w) := by
  have c2 := h.c2
  have hS := h.size
  have H := Lib.hid h
  clear h
  go_enter Tryz.func11, Tryz.ntmps11
  go_wp2_with fail
  refine (next_calls 8 (by omega) (by omega) (H.out.alloc _).sty).mono ?_
  rintro e w1 ⟨r, rfl, hr, ha⟩
  have q : ∀ j, j < 8 → w1.cell? ⟨w.heap.size, j, none⟩ = _ := fun j hj => ha.keeps.cell (p := ⟨w.heap.size, j, none⟩) (by simp) (by simp; omega)
  have q0 := (q 0 (by omega)).trans (by simp [go_sem]; rfl)
  have q1 := (q 1 (by omega)).trans (by simp [go_sem]; rfl)
  have q2 := (q 2 (by omega)).trans (by simp [go_sem]; rfl)
  have q3 := (q 3 (by omega)).trans (by simp [go_sem]; rfl)
  have q4 := (q 4 (by omega)).trans (by simp [go_sem]; rfl)
  have q5 := (q 5 (by omega)).trans (by simp [go_sem]; rfl)
  have q6 := (q 6 (by omega)).trans (by simp [go_sem]; rfl)
  have q7 := (q 7 (by omega)).trans (by simp [go_sem]; rfl)
  clear q
  have HA := Lib.hid ((H.out.alloc _).trans ha)
  clear ha
  have hr8 : r = 0 ∨ r = 1 ∨ r = 2 ∨ r = 3 ∨ r = 4 ∨ r = 5 ∨ r = 6 ∨ r = 7 := by omega
  clear hr
  rcases hr8 with rfl | rfl | rfl | rfl | rfl | rfl | rfl | rfl
  all_goals go_wp2
  all_goals go_ret
  · exact ⟨⟨_, [], rfl, ⟨rfl⟩, Bl.nil, by simp⟩, HA.out⟩
  · exact ⟨⟨_, [], rfl, ⟨rfl⟩, Bl.nil, by simp⟩, HA.out⟩
  · exact ⟨⟨_, [], rfl, ⟨rfl⟩, Bl.nil, by simp⟩, HA.out⟩
  · exact ⟨⟨_, [32], rfl, ⟨rfl⟩, by intro x hx; simp at hx; omega, by simp⟩, HA.out⟩
  · exact ⟨⟨_, [10], rfl, ⟨rfl⟩, by intro x hx; simp at hx; omega, by simp⟩, HA.out⟩
  · exact ⟨⟨_, [9], rfl, ⟨rfl⟩, by intro x hx; simp at hx; omega, by simp⟩, HA.out⟩
  · exact ⟨⟨_, [13, 10], rfl, ⟨rfl⟩, by intro x hx; simp at hx; omega, by simp⟩, HA.out⟩
  · exact ⟨⟨_, [32, 32], rfl, ⟨rfl⟩, by intro x hx; simp at hx; omega, by simp⟩, HA.out⟩
theorem hexU_nat : ∀ k : Nat, (h : k < 16) → ((((⟨#[48, 49, 50, 51, 52, 53, 54, 55, 56, 57, 65, 66, 67, 68, 69, 70]⟩ : ByteArray)[k]'h).toNat : Nat) : Int) = hexu true k := by decide
theorem hexU (n : Int) (h : n.toNat < 16) (h0 : 0 ≤ n) : ((((⟨#[48, 49, 50, 51, 52, 53, 54, 55, 56, 57, 65, 66, 67, 68, 69, 70]⟩ : ByteArray)[n.toNat]'h).toNat : Nat) : Int) = hexu true n := by
  rw [hexU_nat n.toNat h]
  congr 1
  omega
theorem hexd_u (n : Int) : hexd n = hexu false n := rfl
/-- The six bytes of a code unit in a slice. -/
structure UnitAns (c : Int) (w0 : World) (S : Nat) (cA : Option Addr) (cs : List Int) (cc : Nat) (w : World) (e : Ending) (w' : World) : Prop where
  out : ∃ B up, e = .returned (.slice (some ⟨B, 0, none⟩) 6 6) ∧ ReadsInt w' .u8 (some ⟨B, 0, none⟩) 6 (unitL up c) ∧ w.heap.size ≤ B
  after : StyAfter w0 S cA cs cc w w'
set_option maxRecDepth 100000 in
theorem unit_calls (c : Int) (hc0 : 0 ≤ c) (hc1 : c < 65536) {w0 : World} {S : Nat} {cA : Option Addr} {cs : List Int} {cc : Nat} {w : World} (h : Sty w0 S cA cs cc w) :
    Calls Tryz.prog 43 #[.pointer (some ⟨S, 0, none⟩), .int .i64 c] w (UnitAns c w0 S cA cs cc w) := by
  have H := Lib.hid h
  clear h
  have a0 : bits .and .i64 (c / 4096) 15 = c / 4096 % 16 := and15 _ (by omega) (by omega)
  have a1 : bits .and .i64 (c / 256) 15 = c / 256 % 16 := and15 _ (by omega) (by omega)
  have a2 : bits .and .i64 (c / 16) 15 = c / 16 % 16 := and15 _ (by omega) (by omega)
  have a3 : bits .and .i64 c 15 = c % 16 := and15 _ (by omega) (by omega)
  have b0 : 0 ≤ c / 4096 % 16 ∧ c / 4096 % 16 < 16 := by omega
  have b1 : 0 ≤ c / 256 % 16 ∧ c / 256 % 16 < 16 := by omega
  have b2 : 0 ≤ c / 16 % 16 ∧ c / 16 % 16 < 16 := by omega
  have b3 : 0 ≤ c % 16 ∧ c % 16 < 16 := by omega
  go_enter Tryz.func43, Tryz.ntmps43
  go_wp2_with fail
  refine (next_calls 2 (by omega) (by omega) H.out).mono ?_
  rintro e w1 ⟨r, rfl, hr, ha⟩
  have HA := Lib.hid ha
  clear ha
  have hr8 : r = 0 ∨ r = 1 := by omega
  clear hr
  rcases hr8 with rfl | rfl
  · go_wp2_with fail
    go_region
    go_wp2
    go_ret
    refine ⟨⟨_, false, rfl, ?_, HA.out.keeps.size⟩, HA.out.trans (HA.out.sty.with ((Below.refl _ _).alloc (Nat.le_refl _) _).drew)⟩
    rw [hexc (c / 4096 % 16) (by omega) (by omega), hexc (c / 256 % 16) (by omega) (by omega), hexc (c / 16 % 16) (by omega) (by omega), hexc (c % 16) (by omega) (by omega)]
    exact lit_reads w1 (unitL false c) (by simp [unitL])
  · go_wp2_with fail
    go_region
    go_wp2
    go_ret
    refine ⟨⟨_, true, rfl, ?_, HA.out.keeps.size⟩, HA.out.trans (HA.out.sty.with ((Below.refl _ _).alloc (Nat.le_refl _) _).drew)⟩
    rw [hexU (c / 4096 % 16) (by omega) (by omega), hexU (c / 256 % 16) (by omega) (by omega), hexU (c / 16 % 16) (by omega) (by omega), hexU (c % 16) (by omega) (by omega)]
    exact lit_reads w1 (unitL true c) (by simp [unitL])
end Go.Proofs.YtlgmlfhalgnppaaGreatDoor
/-! spec.extStyle.text: a string of JSON. -/
set_option linter.unusedSimpArgs false
set_option linter.unusedVariables false
namespace Go.Proofs.YtlgmlfhalgnppaaGreatDoor
open Go.RowKit
open Go.Proofs.YtlgmlfhalgnppaaGreatDoorW.PrintWords hiding bt bt_at bt_range

theorem mem_extract {s : ByteArray} {a b : Nat} {x : Int} (h : x ∈ bytesOf (s.extract a b)) (hb : b ≤ s.size) : ∃ j, a + j < b ∧ x = bt s (a + j) := by
  unfold bytesOf at h
  rw [List.mem_map] at h
  obtain ⟨y, hy, rfl⟩ := h
  rw [Lib.extract_data] at hy
  obtain ⟨j, hj, rfl⟩ := List.mem_iff_getElem.1 hy
  rw [List.length_take, List.length_drop, Array.length_toList] at hj
  have hsz : s.data.size = s.size := rfl
  refine ⟨j, by omega, ?_⟩
  rw [List.getElem_take, List.getElem_drop, Array.getElem_toList]
  exact bt_at s (a + j) (by omega)
theorem raw_jb {s : ByteArray} {k N : Nat} {c : Int} (hkN : k + N ≤ s.size) (h : (N = 1 ∧ c = bt s k) ∨ ∀ j : Nat, j < N → 128 ≤ bt s (k + j)) (h34 : c ≠ 34) (h92 : c ≠ 92) : JB (bytesOf (s.extract k (k + N))) := by
  refine JB.raw _ (fun x hx => ?_)
  obtain ⟨j, hj, rfl⟩ := mem_extract hx hkN
  have hr := bt_range s (k + j)
  rcases h with ⟨rfl, rfl⟩ | h
  · obtain rfl : j = 0 := by omega
    exact ⟨hr.1, hr.2, h34, h92⟩
  · have := h j (by omega)
    exact ⟨hr.1, hr.2, by omega, by omega⟩
/-- A row of the call's own beside a style. -/
structure TextInv (w0 : World) (S : Nat) (cA : Option Addr) (cs : List Int) (cc : Nat) (w wr : World) (o : Value) (xs : List Int) : Prop where
  own : Own wr w.heap.size o xs
  sty : Sty w0 S cA cs cc wr
  keeps : Keeps w.heap.size [S] w wr
  lt : S < w.heap.size
namespace TextInv
variable {w0 : World} {S : Nat} {cA : Option Addr} {cs : List Int} {cc : Nat} {w wr w1 : World} {o o1 : Value} {xs ys : List Int}
theorem cast (h : TextInv w0 S cA cs cc w wr o xs) (e : xs = ys) : TextInv w0 S cA cs cc w wr o ys := e ▸ h
theorem after (h : TextInv w0 S cA cs cc w wr o xs) (k : StyAfter w0 S cA cs cc wr w1) : TextInv w0 S cA cs cc w w1 o xs where
  own := k.keeps.owns h.own (fun g hg => by
    rcases h.own.2 with ⟨rfl, _⟩ | ⟨g', cap, cur, rfl, hb, hgg, _⟩
    · cases hg
    · obtain rfl : g' = g := Option.some.inj hg
      have hl := h.lt
      refine ⟨?_, by simp; omega⟩
      by_cases hh : g' < wr.heap.size
      · exact hh
      · rw [Array.getElem?_eq_none (by omega)] at hgg; cases hgg)
  sty := k.sty
  keeps := h.keeps.trans (k.keeps.mono h.keeps.size (fun s hs _ => hs))
  lt := h.lt
theorem step (h : TextInv w0 S cA cs cc w wr o xs) (h1 : Own w1 w.heap.size o1 ys) (hb : Below w.heap.size wr w1) : TextInv w0 S cA cs cc w w1 o1 ys where
  own := h1
  sty := h.sty.keeps hb h.lt
  keeps := h.keeps.then_below hb
  lt := h.lt
theorem done (h : TextInv w0 S cA cs cc w wr o xs) : StyAfter w0 S cA cs cc w wr := ⟨h.sty, h.keeps⟩
end TextInv
set_option maxRecDepth 100000 in
set_option maxHeartbeats 4000000 in
theorem text_calls (s : ByteArray) (hs : s.size ≤ 1000000) {w0 : World} {S : Nat} {cA : Option Addr} {cs : List Int} {cc : Nat} {w : World} (h : Sty w0 S cA cs cc w) :
    Calls Tryz.prog 19 #[.pointer (some ⟨S, 0, none⟩), .string s] w (StyText (fun l => ∃ b, l = 34 :: b ++ [34] ∧ JB b ∧ b.length ≤ 12 * s.size) w0 S cA cs cc w) := by
  have H := Lib.hid h
  clear h
  go_enter Tryz.func19, Tryz.ntmps19
  go_wp2_with fail
  go_loopw [5, 6] (fun o i wr => ∃ (k : Nat) (xs : List Int), k ≤ s.size ∧ i = .int .i64 k ∧ Hid (JB xs) ∧ xs.length ≤ 12 * k ∧ Hid (TextInv w0 S cA cs cc w wr o (34 :: xs))) (fun _ i _ => s.size - (intOf i).toNat)
  case atStart =>
    exact ⟨0, [], by omega, rfl, JB.nil, by simp, (⟨own_lit _ _ _ _ [34] (Nat.le_refl _) (by simp), (H.out.alloc _).sty, (H.out.alloc _).keeps, H.out.size⟩ : TextInv _ _ _ _ _ _ _ _ _)⟩
  case round =>
    obtain ⟨k, xs, hk, rfl, HJ, hxl, HI⟩ := hrel
    by_cases hlt : k < s.size
    · have hz := Lib.hid (size_suffix s k hk)
      have hbs := Lib.hid (bt_suffix s k hk)
      have hle := runeF_le (fun j => bt s (k + j)) (s.size - k)
      have hch := runeF_chr (fun j => bt s (k + j)) (s.size - k) (fun j => (bt_range s _).1)
      have hraw := runeF_raw (fun j => bt s (k + j)) (s.size - k)
      have hsm := fun h => runeF_small (b := fun j => bt s (k + j)) (sz := s.size - k) (by omega) h
      go_wp2_with fail
      refine (extRune_calls (s.extract k s.size) (by rw [hz.out]; unfold maxLen; omega) _).mono ?_
      rintro e w' ⟨rfl, rfl⟩
      rw [hz.out, hbs.out]
      generalize runeF (fun j => bt s (k + j)) (s.size - k) = R at hle hch hraw hsm ⊢
      obtain ⟨n, c⟩ := R
      simp only at hle hch hraw hsm
      by_cases hn : n = 0
      · subst hn
        have hb0 : 128 ≤ bt s k := by
          by_cases hh : bt s (k + 0) < 128
          · have := congrArg Prod.fst (hsm hh)
            simp at this
          · simpa using hh
        have hb1 := (bt_range s k).2
        have hat := bt_at s k hlt
        clear hle hch hraw hsm
        go_wp2_with fail
        go_quiet (fail)
        go_wp2_with fail
        refine (next_calls 8 (by omega) (by omega) (HI.out.sty.drewN _).sty).mono ?_
        rintro e w1 ⟨r, rfl, hr, ha⟩
        have HI2 := Lib.hid ((HI.out.after (HI.out.sty.drewN _)).after ha)
        clear HI ha
        have HI := HI2
        clear HI2
        obtain ⟨c, hcb⟩ : ∃ c, c = bt s k := ⟨_, rfl⟩
        rw [← hcb] at hb0 hb1 hat ⊢
        obtain ⟨N, hN1⟩ : ∃ N : Nat, N = 1 := ⟨_, rfl⟩
        have hkN : k + N ≤ s.size := by omega
        have hrs1 : (s.extract k (k + N)).size ≤ N := by rw [ByteArray.size_extract]; omega
        have HR : Hid ((c < 55296 ∨ 57344 ≤ c) ∧ ((N = 1 ∧ c = bt s k) ∨ ∀ j : Nat, j < N → 128 ≤ bt s (k + j))) := ⟨by omega, Or.inl ⟨hN1, hcb⟩⟩
        subst hN1
        clear hcb
        by_cases z1 : r = 1
        · subst z1
          have z16 : c < 65536 := by omega
          have hc16 : decide (c < 65536) = true := decide_eq_true z16
          go_wp2_with fail
          refine (unit_calls c (by omega) (by omega) HI.out.sty).mono ?_
          rintro e w2 ⟨⟨B, up, rfl, hrd, hB⟩, ha2⟩
          have HRD := Lib.hid hrd
          have HI2 := Lib.hid (HI.out.after ha2)
          clear HI hrd ha2
          have HI := HI2
          clear HI2
          go_wp2_with (at_builtin; refine append_row (w0 := w2) w.heap.size rfl (.tmp 45) (.tmp 48) rfl _ _ _ _ _ _ rfl rfl HI.out.own HRD.out (Below.refl _ _) (by exact HI.out.keeps.size) (by (try simp only [List.length_append, List.length_cons, List.length_nil, bytesOf_length, unitL_length]); omega) ?_; intro v1 w1 n0 n1 _ _; have n2 := HI.out.step n0 n1; clear HI; have HI := Lib.hid n2; clear n0 n1 n2)
          go_roundw
          case rel =>
            refine ⟨k + 1, xs ++ unitL up c, by omega, by first | go_num | (congr 1; omega), ?_, ?_, ?_⟩
            · exact HJ.out.append (JB.unit up c (by omega) (by omega) (by have := HR.out.1; omega))
            · simp only [List.length_append, List.length_cons, List.length_nil, bytesOf_length, unitL_length]; omega
            · exact HI.out.cast (by simp [List.append_assoc] <;> rfl)
          case measure => simp [intOf]; omega
        have b1 : (r == 1) = false := by simp [z1]
        have b47 : (c == 47) = false := by simp; omega
        have b34 : (c == 34) = false := by simp; omega
        have b92 : (c == 92) = false := by simp; omega
        have b8 : (c == 8) = false := by simp; omega
        have b9 : (c == 9) = false := by simp; omega
        have b10 : (c == 10) = false := by simp; omega
        have b12 : (c == 12) = false := by simp; omega
        have b13 : (c == 13) = false := by simp; omega
        have b32 : decide (c < 32) = false := by simp; omega
        have HG : Hid (JB (bytesOf (s.extract k (k + 1)))) := raw_jb hkN HR.out.2 (by omega) (by omega)
        clear z1
        go_wp2_with (at_builtin; refine append_str (w0 := w1) w.heap.size rfl (.tmp 30) (.tmp 36) rfl _ _ _ rfl rfl HI.out.own (Below.refl _ _) (by exact HI.out.keeps.size) (by (try simp only [List.length_append, List.length_cons, List.length_nil, bytesOf_length, unitL_length]); omega) ?_; intro v1 w1 n0 n1 _; have n2 := HI.out.step n0 n1; clear HI; have HI := Lib.hid n2; clear n0 n1 n2)
        go_roundw
        case rel =>
          refine ⟨k + 1, xs ++ bytesOf (s.extract k (k + 1)), by omega, by first | go_num | (congr 1; omega), ?_, ?_, ?_⟩
          · exact HJ.out.append (HG.out)
          · simp only [List.length_append, List.length_cons, List.length_nil, bytesOf_length, unitL_length]; omega
          · exact HI.out.cast (by simp [List.append_assoc] <;> rfl)
        case measure => simp [intOf]; omega

      · have hnb : (n == 0) = false := by simp [hn]
        obtain ⟨N, rfl⟩ : ∃ N : Nat, n = N := ⟨n.toNat, by omega⟩
        have HR : Hid ((c < 55296 ∨ 57344 ≤ c) ∧ ((N = 1 ∧ c = bt s k) ∨ ∀ j : Nat, j < N → 128 ≤ bt s (k + j))) := by
          obtain ⟨q1, q2⟩ := hraw (by omega)
          refine ⟨q1, ?_⟩
          rcases q2 with ⟨q3, q4⟩ | q2
          · exact Or.inl ⟨by omega, q4⟩
          · exact Or.inr (fun j hj => q2 j (by omega))
        have hkN : k + N ≤ s.size := by omega
        obtain ⟨c0, c1, c2⟩ := hch
        have hN : 1 ≤ N ∧ N ≤ 4 := by omega
        have hrs1 : (s.extract k (k + N)).size ≤ N := by rw [ByteArray.size_extract]; omega
        clear c2 hle hraw hsm hn
        go_wp2_with fail
        refine (next_calls 8 (by omega) (by omega) HI.out.sty).mono ?_
        rintro e w1 ⟨r, rfl, hr, ha⟩
        have HI2 := Lib.hid (HI.out.after ha)
        clear HI ha
        have HI := HI2
        clear HI2
        by_cases z1 : r = 1
        · subst z1
          by_cases z16 : c < 65536
          · have hc16 : decide (c < 65536) = true := decide_eq_true z16
            go_wp2_with fail
            refine (unit_calls c (by omega) (by omega) HI.out.sty).mono ?_
            rintro e w2 ⟨⟨B, up, rfl, hrd, hB⟩, ha2⟩
            have HRD := Lib.hid hrd
            have HI2 := Lib.hid (HI.out.after ha2)
            clear HI hrd ha2
            have HI := HI2
            clear HI2
            go_wp2_with (at_builtin; refine append_row (w0 := w2) w.heap.size rfl (.tmp 45) (.tmp 48) rfl _ _ _ _ _ _ rfl rfl HI.out.own HRD.out (Below.refl _ _) (by exact HI.out.keeps.size) (by (try simp only [List.length_append, List.length_cons, List.length_nil, bytesOf_length, unitL_length]); omega) ?_; intro v1 w1 n0 n1 _ _; have n2 := HI.out.step n0 n1; clear HI; have HI := Lib.hid n2; clear n0 n1 n2)
            go_roundw
            case rel =>
              refine ⟨k + N, xs ++ unitL up c, by omega, by first | go_num | (congr 1; omega), ?_, ?_, ?_⟩
              · exact HJ.out.append (JB.unit up c (by omega) (by omega) (by have := HR.out.1; omega))
              · simp only [List.length_append, List.length_cons, List.length_nil, bytesOf_length, unitL_length]; omega
              · exact HI.out.cast (by simp [List.append_assoc] <;> rfl)
            case measure => simp [intOf]; omega
          · have hc16 : decide (c < 65536) = false := decide_eq_false z16
            have a0 : bits .and .i64 (c - 65536) 1023 = (c - 65536) % 1024 := and_mask 10 (by decide) _ (by omega) (by omega)
            have a1 : 0 ≤ (c - 65536) % 1024 ∧ (c - 65536) % 1024 < 1024 := by omega
            have a2 : 0 ≤ (c - 65536) / 1024 ∧ (c - 65536) / 1024 < 1024 := by omega
            go_wp2_with fail
            refine (unit_calls (55296 + (c - 65536) / 1024) (by omega) (by omega) HI.out.sty).mono ?_
            rintro e w2 ⟨⟨B, up, rfl, hrd, hB⟩, ha2⟩
            have HRD := Lib.hid hrd
            have HI2 := Lib.hid (HI.out.after ha2)
            clear HI hrd ha2
            have HI := HI2
            clear HI2
            go_wp2_with (at_builtin; refine append_row (w0 := w2) w.heap.size rfl (.tmp 53) (.tmp 59) rfl _ _ _ _ _ _ rfl rfl HI.out.own HRD.out (Below.refl _ _) (by exact HI.out.keeps.size) (by (try simp only [List.length_append, List.length_cons, List.length_nil, bytesOf_length, unitL_length]); omega) ?_; intro v1 w1 n0 n1 _ _; have n2 := HI.out.step n0 n1; clear HI; have HI := Lib.hid n2; clear n0 n1 n2)
            clear HRD
            go_wp2_with fail
            refine (unit_calls (56320 + (c - 65536) % 1024) (by omega) (by omega) HI.out.sty).mono ?_
            rintro e w3 ⟨⟨B, up2, rfl, hrd, hB⟩, ha2⟩
            have HRD := Lib.hid hrd
            have HI2 := Lib.hid (HI.out.after ha2)
            clear HI hrd ha2
            have HI := HI2
            clear HI2
            go_wp2_with (at_builtin; refine append_row (w0 := w3) w.heap.size rfl (.tmp 61) (.tmp 67) rfl _ _ _ _ _ _ rfl rfl HI.out.own HRD.out (Below.refl _ _) (by exact HI.out.keeps.size) (by (try simp only [List.length_append, List.length_cons, List.length_nil, bytesOf_length, unitL_length]); omega) ?_; intro v1 w1 n0 n1 _ _; have n2 := HI.out.step n0 n1; clear HI; have HI := Lib.hid n2; clear n0 n1 n2)
            go_roundw
            case rel =>
              refine ⟨k + N, xs ++ (unitL up (55296 + (c - 65536) / 1024) ++ unitL up2 (56320 + (c - 65536) % 1024)), by omega, by first | go_num | (congr 1; omega), ?_, ?_, ?_⟩
              · exact HJ.out.append (JB.units up up2 _ _ (by omega) (by omega))
              · simp only [List.length_append, List.length_cons, List.length_nil, bytesOf_length, unitL_length]; omega
              · exact HI.out.cast (by simp [List.append_assoc] <;> rfl)
            case measure => simp [intOf]; omega
        have b1 : (r == 1) = false := by simp [z1]
        by_cases z47 : c = 47
        · subst z47
          have HG : Hid (JB (bytesOf (s.extract k (k + N)))) := raw_jb hkN HR.out.2 (by omega) (by omega)
          by_cases z2 : r = 2
          · subst z2
            go_wp2_with (at_builtin; refine append_lit (w0 := w1) w.heap.size rfl (.tmp 76) (.tmp 77) rfl _ _ [_, _] rfl rfl HI.out.own (Below.refl _ _) (by exact HI.out.keeps.size) (by (try simp only [List.length_append, List.length_cons, List.length_nil, bytesOf_length, unitL_length]); omega) ?_; intro v1 w1 n0 n1 _ _; have n2 := HI.out.step n0 n1; clear HI; have HI := Lib.hid n2; clear n0 n1 n2)
            go_roundw
            case rel =>
              refine ⟨k + N, xs ++ [92, 47], by omega, by first | go_num | (congr 1; omega), ?_, ?_, ?_⟩
              · exact HJ.out.append (JB.esc 47 [] rfl JB.nil)
              · simp only [List.length_append, List.length_cons, List.length_nil, bytesOf_length, unitL_length]; omega
              · exact HI.out.cast (by simp [List.append_assoc] <;> rfl)
            case measure => simp [intOf]; omega
          · have b2 : (r == 2) = false := by simp [z2]
            go_wp2_with (at_builtin; refine append_str (w0 := w1) w.heap.size rfl (.tmp 30) (.tmp 36) rfl _ _ _ rfl rfl HI.out.own (Below.refl _ _) (by exact HI.out.keeps.size) (by (try simp only [List.length_append, List.length_cons, List.length_nil, bytesOf_length, unitL_length]); omega) ?_; intro v1 w1 n0 n1 _; have n2 := HI.out.step n0 n1; clear HI; have HI := Lib.hid n2; clear n0 n1 n2)
            go_roundw
            case rel =>
              refine ⟨k + N, xs ++ bytesOf (s.extract k (k + N)), by omega, by first | go_num | (congr 1; omega), ?_, ?_, ?_⟩
              · exact HJ.out.append (HG.out)
              · simp only [List.length_append, List.length_cons, List.length_nil, bytesOf_length, unitL_length]; omega
              · exact HI.out.cast (by simp [List.append_assoc] <;> rfl)
            case measure => simp [intOf]; omega
        have b47 : (c == 47) = false := by simp [z47]
        by_cases z34 : c = 34
        · subst z34
          go_wp2_with (at_builtin; refine append_lit (w0 := w1) w.heap.size rfl (.tmp 86) (.tmp 89) rfl _ _ [_, _] rfl rfl HI.out.own (Below.refl _ _) (by exact HI.out.keeps.size) (by (try simp only [List.length_append, List.length_cons, List.length_nil, bytesOf_length, unitL_length]); omega) ?_; intro v1 w1 n0 n1 _ _; have n2 := HI.out.step n0 n1; clear HI; have HI := Lib.hid n2; clear n0 n1 n2)
          go_roundw
          case rel =>
            refine ⟨k + N, xs ++ [92, 34], by omega, by first | go_num | (congr 1; omega), ?_, ?_, ?_⟩
            · exact HJ.out.append (JB.esc 34 [] rfl JB.nil)
            · simp only [List.length_append, List.length_cons, List.length_nil, bytesOf_length, unitL_length]; omega
            · exact HI.out.cast (by simp [List.append_assoc] <;> rfl)
          case measure => simp [intOf]; omega
        by_cases z92 : c = 92
        · subst z92
          go_wp2_with (at_builtin; refine append_lit (w0 := w1) w.heap.size rfl (.tmp 86) (.tmp 89) rfl _ _ [_, _] rfl rfl HI.out.own (Below.refl _ _) (by exact HI.out.keeps.size) (by (try simp only [List.length_append, List.length_cons, List.length_nil, bytesOf_length, unitL_length]); omega) ?_; intro v1 w1 n0 n1 _ _; have n2 := HI.out.step n0 n1; clear HI; have HI := Lib.hid n2; clear n0 n1 n2)
          go_roundw
          case rel =>
            refine ⟨k + N, xs ++ [92, 92], by omega, by first | go_num | (congr 1; omega), ?_, ?_, ?_⟩
            · exact HJ.out.append (JB.esc 92 [] rfl JB.nil)
            · simp only [List.length_append, List.length_cons, List.length_nil, bytesOf_length, unitL_length]; omega
            · exact HI.out.cast (by simp [List.append_assoc] <;> rfl)
          case measure => simp [intOf]; omega
        by_cases z8 : c = 8
        · subst z8
          go_wp2_with (at_builtin; refine append_lit (w0 := w1) w.heap.size rfl (.tmp 110) (.tmp 114) rfl _ _ [_, _] rfl rfl HI.out.own (Below.refl _ _) (by exact HI.out.keeps.size) (by (try simp only [List.length_append, List.length_cons, List.length_nil, bytesOf_length, unitL_length]); omega) ?_; intro v1 w1 n0 n1 _ _; have n2 := HI.out.step n0 n1; clear HI; have HI := Lib.hid n2; clear n0 n1 n2)
          go_roundw
          case rel =>
            refine ⟨k + N, xs ++ [92, 98], by omega, by first | go_num | (congr 1; omega), ?_, ?_, ?_⟩
            · exact HJ.out.append (JB.esc 98 [] rfl JB.nil)
            · simp only [List.length_append, List.length_cons, List.length_nil, bytesOf_length, unitL_length]; omega
            · exact HI.out.cast (by simp [List.append_assoc] <;> rfl)
          case measure => simp [intOf]; omega
        by_cases z9 : c = 9
        · subst z9
          go_wp2_with (at_builtin; refine append_lit (w0 := w1) w.heap.size rfl (.tmp 110) (.tmp 114) rfl _ _ [_, _] rfl rfl HI.out.own (Below.refl _ _) (by exact HI.out.keeps.size) (by (try simp only [List.length_append, List.length_cons, List.length_nil, bytesOf_length, unitL_length]); omega) ?_; intro v1 w1 n0 n1 _ _; have n2 := HI.out.step n0 n1; clear HI; have HI := Lib.hid n2; clear n0 n1 n2)
          go_roundw
          case rel =>
            refine ⟨k + N, xs ++ [92, 116], by omega, by first | go_num | (congr 1; omega), ?_, ?_, ?_⟩
            · exact HJ.out.append (JB.esc 116 [] rfl JB.nil)
            · simp only [List.length_append, List.length_cons, List.length_nil, bytesOf_length, unitL_length]; omega
            · exact HI.out.cast (by simp [List.append_assoc] <;> rfl)
          case measure => simp [intOf]; omega
        by_cases z10 : c = 10
        · subst z10
          go_wp2_with (at_builtin; refine append_lit (w0 := w1) w.heap.size rfl (.tmp 110) (.tmp 114) rfl _ _ [_, _] rfl rfl HI.out.own (Below.refl _ _) (by exact HI.out.keeps.size) (by (try simp only [List.length_append, List.length_cons, List.length_nil, bytesOf_length, unitL_length]); omega) ?_; intro v1 w1 n0 n1 _ _; have n2 := HI.out.step n0 n1; clear HI; have HI := Lib.hid n2; clear n0 n1 n2)
          go_roundw
          case rel =>
            refine ⟨k + N, xs ++ [92, 110], by omega, by first | go_num | (congr 1; omega), ?_, ?_, ?_⟩
            · exact HJ.out.append (JB.esc 110 [] rfl JB.nil)
            · simp only [List.length_append, List.length_cons, List.length_nil, bytesOf_length, unitL_length]; omega
            · exact HI.out.cast (by simp [List.append_assoc] <;> rfl)
          case measure => simp [intOf]; omega
        by_cases z12 : c = 12
        · subst z12
          go_wp2_with (at_builtin; refine append_lit (w0 := w1) w.heap.size rfl (.tmp 110) (.tmp 114) rfl _ _ [_, _] rfl rfl HI.out.own (Below.refl _ _) (by exact HI.out.keeps.size) (by (try simp only [List.length_append, List.length_cons, List.length_nil, bytesOf_length, unitL_length]); omega) ?_; intro v1 w1 n0 n1 _ _; have n2 := HI.out.step n0 n1; clear HI; have HI := Lib.hid n2; clear n0 n1 n2)
          go_roundw
          case rel =>
            refine ⟨k + N, xs ++ [92, 102], by omega, by first | go_num | (congr 1; omega), ?_, ?_, ?_⟩
            · exact HJ.out.append (JB.esc 102 [] rfl JB.nil)
            · simp only [List.length_append, List.length_cons, List.length_nil, bytesOf_length, unitL_length]; omega
            · exact HI.out.cast (by simp [List.append_assoc] <;> rfl)
          case measure => simp [intOf]; omega
        by_cases z13 : c = 13
        · subst z13
          go_wp2_with (at_builtin; refine append_lit (w0 := w1) w.heap.size rfl (.tmp 110) (.tmp 114) rfl _ _ [_, _] rfl rfl HI.out.own (Below.refl _ _) (by exact HI.out.keeps.size) (by (try simp only [List.length_append, List.length_cons, List.length_nil, bytesOf_length, unitL_length]); omega) ?_; intro v1 w1 n0 n1 _ _; have n2 := HI.out.step n0 n1; clear HI; have HI := Lib.hid n2; clear n0 n1 n2)
          go_roundw
          case rel =>
            refine ⟨k + N, xs ++ [92, 114], by omega, by first | go_num | (congr 1; omega), ?_, ?_, ?_⟩
            · exact HJ.out.append (JB.esc 114 [] rfl JB.nil)
            · simp only [List.length_append, List.length_cons, List.length_nil, bytesOf_length, unitL_length]; omega
            · exact HI.out.cast (by simp [List.append_assoc] <;> rfl)
          case measure => simp [intOf]; omega
        have HZ : Hid (c ≠ 34 ∧ c ≠ 92) := ⟨z34, z92⟩
        have b34 : (c == 34) = false := by simp [z34]
        have b92 : (c == 92) = false := by simp [z92]
        have b8 : (c == 8) = false := by simp [z8]
        have b9 : (c == 9) = false := by simp [z9]
        have b10 : (c == 10) = false := by simp [z10]
        have b12 : (c == 12) = false := by simp [z12]
        have b13 : (c == 13) = false := by simp [z13]
        clear z34 z92 z8 z9 z10 z12 z13 z47 z1
        by_cases z32 : c < 32
        · have b32 : decide (c < 32) = true := decide_eq_true z32
          go_wp2_with fail
          refine (unit_calls c (by omega) (by omega) HI.out.sty).mono ?_
          rintro e w2 ⟨⟨B, up, rfl, hrd, hB⟩, ha2⟩
          have HRD := Lib.hid hrd
          have HI2 := Lib.hid (HI.out.after ha2)
          clear HI hrd ha2
          have HI := HI2
          clear HI2
          go_wp2_with (at_builtin; refine append_row (w0 := w2) w.heap.size rfl (.tmp 119) (.tmp 122) rfl _ _ _ _ _ _ rfl rfl HI.out.own HRD.out (Below.refl _ _) (by exact HI.out.keeps.size) (by (try simp only [List.length_append, List.length_cons, List.length_nil, bytesOf_length, unitL_length]); omega) ?_; intro v1 w1 n0 n1 _ _; have n2 := HI.out.step n0 n1; clear HI; have HI := Lib.hid n2; clear n0 n1 n2)
          go_roundw
          case rel =>
            refine ⟨k + N, xs ++ unitL up c, by omega, by first | go_num | (congr 1; omega), ?_, ?_, ?_⟩
            · exact HJ.out.append (JB.unit up c (by omega) (by omega) (by have := HR.out.1; omega))
            · simp only [List.length_append, List.length_cons, List.length_nil, bytesOf_length, unitL_length]; omega
            · exact HI.out.cast (by simp [List.append_assoc] <;> rfl)
          case measure => simp [intOf]; omega
        have b32 : decide (c < 32) = false := decide_eq_false z32
        have HG : Hid (JB (bytesOf (s.extract k (k + N)))) := raw_jb hkN HR.out.2 HZ.out.1 HZ.out.2
        go_wp2_with (at_builtin; refine append_str (w0 := w1) w.heap.size rfl (.tmp 30) (.tmp 36) rfl _ _ _ rfl rfl HI.out.own (Below.refl _ _) (by exact HI.out.keeps.size) (by (try simp only [List.length_append, List.length_cons, List.length_nil, bytesOf_length, unitL_length]); omega) ?_; intro v1 w1 n0 n1 _; have n2 := HI.out.step n0 n1; clear HI; have HI := Lib.hid n2; clear n0 n1 n2)
        go_roundw
        case rel =>
          refine ⟨k + N, xs ++ bytesOf (s.extract k (k + N)), by omega, by first | go_num | (congr 1; omega), ?_, ?_, ?_⟩
          · exact HJ.out.append (HG.out)
          · simp only [List.length_append, List.length_cons, List.length_nil, bytesOf_length, unitL_length]; omega
          · exact HI.out.cast (by simp [List.append_assoc] <;> rfl)
        case measure => simp [intOf]; omega

    · go_wp2_with (at_builtin; refine append_lit (w0 := wr) w.heap.size rfl (.tmp 127) (.tmp 128) rfl _ _ [_] rfl rfl HI.out.own (Below.refl _ _) (by exact HI.out.keeps.size) (by simp only [List.length_append, List.length_cons, List.length_nil]; omega) ?_; intro v1 w1 n0 n1 _ _; have n2 := HI.out.step n0 n1; have ho := own_str n0; clear HI; have HI := Lib.hid n2; clear n0 n1 n2)
      go_ret
      exact ⟨⟨_, _, rfl, ⟨rfl⟩, xs, rfl, HJ.out, by omega⟩, HI.out.done⟩
end Go.Proofs.YtlgmlfhalgnppaaGreatDoor
/-! spec.quoted, spec.extStyle.object. -/
set_option linter.unusedSimpArgs false
set_option linter.unusedVariables false
namespace Go.Proofs.YtlgmlfhalgnppaaGreatDoor
open Go.RowKit
open Go.Proofs.YtlgmlfhalgnppaaGreatDoorW.PrintWords hiding bt bt_at bt_range

theorem Sty.kept {w0 : World} {S : Nat} {cA : Option Addr} {cs : List Int} {cc : Nat} {w w' : World} (h : Sty w0 S cA cs cc w) {K : Nat} {L : List Nat} (k : Keeps K L w w') (hK : S < K) (hS : S ∉ L) (hL : ∀ s ∈ L, w0.heap.size ≤ s) : Sty w0 S cA cs cc w' where
  base := h.base
  below := h.below.trans (k.below (by have := h.base; omega) hL)
  code := h.code
  range := h.range
  len := h.len
  cap := h.cap
  size := Nat.lt_of_lt_of_le h.size k.size
  c0 := (k.cell (p := ⟨S, 0, none⟩) hK hS).trans h.c0
  c1 := by
    obtain ⟨a, h1, h2⟩ := h.c1
    exact ⟨a, h1, (k.cell (p := ⟨S, 1, none⟩) hK hS).trans h2⟩
  c2 := (k.cell (p := ⟨S, 2, none⟩) hK hS).trans h.c2
  c3 := (k.cell (p := ⟨S, 3, none⟩) hK hS).trans h.c3
  fr := fun o => (k.frozen (p := ⟨S, o, none⟩) hK hS).trans (h.fr o)
theorem bytes_append (u v : ByteArray) : bytesOf (u ++ v) = bytesOf u ++ bytesOf v := by
  unfold bytesOf
  rw [ByteArray.data_append, Array.toList_append, List.map_append]
/-- A text whose bytes are as P says, and the style behind it. -/
structure StyB (P : List Int → Prop) (w0 : World) (S : Nat) (cA : Option Addr) (cs : List Int) (cc : Nat) (w : World) (e : Ending) (w' : World) : Prop where
  out : ∃ u, e = .returned (.string u) ∧ P (bytesOf u)
  after : StyAfter w0 S cA cs cc w w'
section
variable {w0 : World} {S : Nat} {cA : Option Addr} {cs : List Int} {cc : Nat} {w : World}
theorem gap_b (h : Sty w0 S cA cs cc w) :
    Calls Tryz.prog 11 #[.pointer (some ⟨S, 0, none⟩)] w (StyB (fun l => Bl l ∧ l.length ≤ 2) w0 S cA cs cc w) :=
  (gap_calls h).mono fun e w' ⟨⟨u, l, he, hu, hl, hn⟩, ha⟩ => ⟨⟨u, he, by rw [hu.bytes hl.range]; exact ⟨hl, hn⟩⟩, ha⟩
theorem text_b (s : ByteArray) (hs : s.size ≤ 1000000) (h : Sty w0 S cA cs cc w) :
    Calls Tryz.prog 19 #[.pointer (some ⟨S, 0, none⟩), .string s] w (StyB (fun l => ∃ b, l = 34 :: b ++ [34] ∧ JB b ∧ b.length ≤ 12 * s.size) w0 S cA cs cc w) :=
  (text_calls s hs h).mono fun e w' ⟨⟨u, l, he, hu, b, hl, hj, hn⟩, ha⟩ => ⟨⟨u, he, by
    have hb : By l := by
      subst hl
      refine By.append (fun x hx => ?_) (fun x hx => ?_)
      · rcases List.mem_cons.1 hx with rfl | hx
        · omega
        · exact hj.by x hx
      · rw [List.mem_singleton] at hx; subst hx; omega
    rw [hu.bytes hb]; exact ⟨b, hl, hj, hn⟩⟩, ha⟩
end
theorem quoted_calls (s : ByteArray) (hs : s.size ≤ 1000000) (w : World) : Calls Tryz.prog 25 #[.string s] w fun e w' => (∃ u, e = .returned (.string u) ∧ u.size = s.size + 2) ∧ w' = w := by
  go_enter Tryz.func25, Tryz.ntmps25
  go_wp2
  go_ret
  refine ⟨⟨_, rfl, ?_⟩, rfl⟩
  simp only [ByteArray.size_append]
  show 1 + s.size + 1 = _
  omega
def sumF (f : Nat → Nat) : Nat → Nat
  | 0 => 0
  | 1 => f 0 + 20
  | _ => f 0 + f 1 + 40
theorem sumF_le {f : Nat → Nat} (h : ∀ i, f i ≤ 1000000000000) (k : Nat) : sumF f k ≤ 2000000000040 := by
  have h0 := h 0
  have h1 := h 1
  unfold sumF
  split <;> omega
/-- n pairs of texts of so many bytes in block B. -/
def Prs (B n : Nat) (f : Nat → Nat) (w : World) : Prop := ∀ i < n, ∃ a b : ByteArray, w.cell? ⟨B, 2 * i, none⟩ = some (.string a) ∧ w.cell? ⟨B, 2 * i + 1, none⟩ = some (.string b) ∧ a.size + b.size ≤ f i
/-- What object leaves: the style, and the pairs perhaps turned. -/
structure ObjAns (n B : Nat) (w0 : World) (S : Nat) (cA : Option Addr) (cs : List Int) (cc : Nat) (w : World) (e : Ending) (w' : World) : Prop where
  out : ∃ u, e = .returned (.string u) ∧ u.size ≤ n
  sty : Sty w0 S cA cs cc w'
  keeps : Keeps w.heap.size [S, B] w w'
set_option maxRecDepth 100000 in
set_option maxHeartbeats 4000000 in
theorem objectF_calls (B n : Nat) (f : Nat → Nat) (hn : n ≤ 2) (hM : ∀ i, f i ≤ 1000000000000) {w0 : World} {S : Nat} {cA : Option Addr} {cs : List Int} {cc : Nat} {w : World} (h : Sty w0 S cA cs cc w) (hB : B < w.heap.size) (hBS : B ≠ S) (hP : Prs B n f w) :
    Calls Tryz.prog 24 #[.pointer (some ⟨S, 0, none⟩), .bool false, .slice (some ⟨B, 0, none⟩) n n] w (ObjAns (2 + sumF f n) B w0 S cA cs cc w) := by
  have HW : Hid (Prs B n f w ∧ Sty w0 S cA cs cc w ∧ Keeps w.heap.size [S, B] w w) := ⟨hP, h, Keeps.refl _ _ _⟩
  have HB := Lib.hid hB
  have HBS := Lib.hid hBS
  clear h hB hBS hP
  go_enter Tryz.func24, Tryz.ntmps24
  go_wp2_with fail
  go_loopw [7, 8, 9, 33] (fun o i b q wr => ∃ (k : Nat) (u : ByteArray), k ≤ n ∧ q = .int .i64 k ∧ o = .string u ∧ u.size ≤ 1 + sumF f k ∧ Hid (Sty w0 S cA cs cc wr ∧ Keeps w.heap.size [S] w wr)) (fun _ _ _ q _ => n - (intOf q).toNat)
  case atStart => exact ⟨0, ⟨#[123]⟩, by omega, rfl, rfl, by show 1 ≤ _; omega, ⟨HW.out.2.1, Keeps.refl _ _ _⟩⟩
  case round =>
    obtain ⟨k, u, hk, rfl, rfl, hu, HS⟩ := hrel
    have hkM := sumF_le hM k
    by_cases hlt : k < n
    · obtain ⟨a, b, ca, cb, ha⟩ := HW.out.1 k hlt
      have hMk := hM k
      have hBW := Nat.lt_of_lt_of_le HB.out HW.out.2.2.size
      have ca2 : wr.cell? ⟨B, 2 * k, none⟩ = some (.string a) := (HS.out.2.cell (p := ⟨B, 2 * k, none⟩) hBW (by simp; exact HBS.out)).trans ca
      have cb2 : wr.cell? ⟨B, 2 * k + 1, none⟩ = some (.string b) := (HS.out.2.cell (p := ⟨B, 2 * k + 1, none⟩) hBW (by simp; exact HBS.out)).trans cb
      have hSw := HS.out.1.size
      have hBr : B < wr.heap.size := Nat.lt_of_lt_of_le hBW HS.out.2.size
      clear ca cb
      have hk2 : k = 0 ∨ k = 1 := by omega
      rcases hk2 with rfl | rfl
      · have hu2 : u.size ≤ 10000000000000 := by omega
        have ha2 : a.size ≤ 1000000000000 := by omega
        have hb2 : b.size ≤ 1000000000000 := by omega
        have hap := @ByteArray.size_append
        go_wp2_with fail
        have HC : Hid (∀ w', StyAfter w0 S cA cs cc (wr.alloc (.cells #[.string a, .string b] 61)) w' → StyAfter w0 S cA cs cc (wr.alloc (.cells #[.string a, .string b] 61)) w' ∧ w'.cell? ⟨wr.heap.size, 0, none⟩ = some (.string a) ∧ w'.cell? ⟨wr.heap.size, 1, none⟩ = some (.string b)) := by
          intro w' h
          exact ⟨h, (h.keeps.cell (p := ⟨wr.heap.size, 0, none⟩) (by simp) (by simp; omega)).trans (by simp [go_sem]), (h.keeps.cell (p := ⟨wr.heap.size, 1, none⟩) (by simp) (by simp; omega)).trans (by simp [go_sem])⟩
        have HA : Hid (StyAfter w0 S cA cs cc wr (wr.alloc (.cells #[.string a, .string b] 61))) := HS.out.1.alloc _
        first | (go_must (go_region_held3 (fun w' => StyAfter w0 S cA cs cc (wr.alloc (.cells #[.string a, .string b] 61)) w' ∧ w'.cell? ⟨wr.heap.size, 0, none⟩ = some (.string a) ∧ w'.cell? ⟨wr.heap.size, 1, none⟩ = some (.string b)) (first | assumption | exact HC.out _ (HA.out.sty.with (Below.refl _ _).drew) | exact HC.out _ ((And.left ‹StyAfter w0 S cA cs cc (wr.alloc _) _ ∧ _›).trans HG.out)) (first | (go_at_call 11; have _t := G3; refine (gap_b (And.left ‹StyAfter w0 S cA cs cc (wr.alloc _) _ ∧ _›).sty).mono ?_; rintro e w6 ⟨⟨g4, rfl, hg1, G4⟩, hg3⟩; (try clear HG); have HG := Lib.hid hg3; clear hg3 hg1; rw [bytesOf_length] at G4; have f40 : (9223372036854775807 < g1.size + 1 + a.size + 1 + g2.size + 1 + g3.size + b.size + g4.size) = False := eq_false (by omega); have f41 : (9223372036854775807 < u.size + (g1.size + 1 + a.size + 1 + g2.size + 1 + g3.size + b.size + g4.size)) = False := eq_false (by omega); have f42 : (9223372036854775807 < u.size + 1 + (g1.size + 1 + a.size + 1 + g2.size + 1 + g3.size + b.size + g4.size)) = False := eq_false (by omega); (skip)) | (go_at_call 11; have _t := G2; refine (gap_b (And.left ‹StyAfter w0 S cA cs cc (wr.alloc _) _ ∧ _›).sty).mono ?_; rintro e w6 ⟨⟨g3, rfl, hg1, G3⟩, hg3⟩; (try clear HG); have HG := Lib.hid hg3; clear hg3 hg1; rw [bytesOf_length] at G3; have f30 : (9223372036854775807 < g1.size + 1 + a.size + 1 + g2.size + 1 + g3.size) = False := eq_false (by omega); have f31 : (9223372036854775807 < g1.size + 1 + a.size + 1 + g2.size + 1 + g3.size + b.size) = False := eq_false (by omega); (skip)) | (go_at_call 11; have _t := G1; refine (gap_b (And.left ‹StyAfter w0 S cA cs cc (wr.alloc _) _ ∧ _›).sty).mono ?_; rintro e w6 ⟨⟨g2, rfl, hg1, G2⟩, hg3⟩; (try clear HG); have HG := Lib.hid hg3; clear hg3 hg1; rw [bytesOf_length] at G2; have f20 : (9223372036854775807 < g1.size + 1 + a.size + 1 + g2.size) = False := eq_false (by omega); have f21 : (9223372036854775807 < g1.size + 1 + a.size + 1 + g2.size + 1) = False := eq_false (by omega); (skip)) | (go_at_call 11; refine (gap_b (And.left ‹StyAfter w0 S cA cs cc (wr.alloc _) _ ∧ _›).sty).mono ?_; rintro e w6 ⟨⟨g1, rfl, hg1, G1⟩, hg3⟩; (try clear HG); have HG := Lib.hid hg3; clear hg3 hg1; rw [bytesOf_length] at G1; have f10 : (9223372036854775807 < g1.size + 1) = False := eq_false (by omega); have f11 : (9223372036854775807 < g1.size + 1 + a.size) = False := eq_false (by omega); have f12 : (9223372036854775807 < g1.size + 1 + a.size + 1) = False := eq_false (by omega); (skip))))) | skip
        have HF : Hid (Sty w0 S cA cs cc w6 ∧ Keeps w.heap.size [S] w w6) := by
          have k1 := And.left ‹StyAfter w0 S cA cs cc (wr.alloc _) w6 ∧ _›
          exact ⟨k1.sty, HS.out.2.trans ((HA.out.trans k1).keeps.mono HS.out.2.size (fun s hs _ => hs))⟩
        have e34 : (ByteArray.mk #[34]).size = 1 := rfl
        have e44 : (ByteArray.mk #[44]).size = 1 := rfl
        have e58 : (ByteArray.mk #[58]).size = 1 := rfl
        go_wp2_with fail
        exact ⟨⟨1, _, by omega, rfl, rfl, by simp only [sumF] at hu ha ⊢; simp only [ByteArray.size_append, e34, e44, e58]; omega, HF.out⟩, by simp [intOf] <;> omega⟩
      · have hu2 : u.size ≤ 10000000000000 := by omega
        have ha2 : a.size ≤ 1000000000000 := by omega
        have hb2 : b.size ≤ 1000000000000 := by omega
        have hap := @ByteArray.size_append
        go_wp2_with fail
        have HC : Hid (∀ w', StyAfter w0 S cA cs cc (wr.alloc (.cells #[.string a, .string b] 61)) w' → StyAfter w0 S cA cs cc (wr.alloc (.cells #[.string a, .string b] 61)) w' ∧ w'.cell? ⟨wr.heap.size, 0, none⟩ = some (.string a) ∧ w'.cell? ⟨wr.heap.size, 1, none⟩ = some (.string b)) := by
          intro w' h
          exact ⟨h, (h.keeps.cell (p := ⟨wr.heap.size, 0, none⟩) (by simp) (by simp; omega)).trans (by simp [go_sem]), (h.keeps.cell (p := ⟨wr.heap.size, 1, none⟩) (by simp) (by simp; omega)).trans (by simp [go_sem])⟩
        have HA : Hid (StyAfter w0 S cA cs cc wr (wr.alloc (.cells #[.string a, .string b] 61))) := HS.out.1.alloc _
        first | (go_must (go_region_held3 (fun w' => StyAfter w0 S cA cs cc (wr.alloc (.cells #[.string a, .string b] 61)) w' ∧ w'.cell? ⟨wr.heap.size, 0, none⟩ = some (.string a) ∧ w'.cell? ⟨wr.heap.size, 1, none⟩ = some (.string b)) (first | assumption | exact HC.out _ (HA.out.sty.with (Below.refl _ _).drew) | exact HC.out _ ((And.left ‹StyAfter w0 S cA cs cc (wr.alloc _) _ ∧ _›).trans HG.out)) (first | (go_at_call 11; have _t := G3; refine (gap_b (And.left ‹StyAfter w0 S cA cs cc (wr.alloc _) _ ∧ _›).sty).mono ?_; rintro e w6 ⟨⟨g4, rfl, hg1, G4⟩, hg3⟩; (try clear HG); have HG := Lib.hid hg3; clear hg3 hg1; rw [bytesOf_length] at G4; have f40 : (9223372036854775807 < g1.size + 1 + a.size + 1 + g2.size + 1 + g3.size + b.size + g4.size) = False := eq_false (by omega); have f41 : (9223372036854775807 < u.size + (g1.size + 1 + a.size + 1 + g2.size + 1 + g3.size + b.size + g4.size)) = False := eq_false (by omega); have f42 : (9223372036854775807 < u.size + 1 + (g1.size + 1 + a.size + 1 + g2.size + 1 + g3.size + b.size + g4.size)) = False := eq_false (by omega); (skip)) | (go_at_call 11; have _t := G2; refine (gap_b (And.left ‹StyAfter w0 S cA cs cc (wr.alloc _) _ ∧ _›).sty).mono ?_; rintro e w6 ⟨⟨g3, rfl, hg1, G3⟩, hg3⟩; (try clear HG); have HG := Lib.hid hg3; clear hg3 hg1; rw [bytesOf_length] at G3; have f30 : (9223372036854775807 < g1.size + 1 + a.size + 1 + g2.size + 1 + g3.size) = False := eq_false (by omega); have f31 : (9223372036854775807 < g1.size + 1 + a.size + 1 + g2.size + 1 + g3.size + b.size) = False := eq_false (by omega); (skip)) | (go_at_call 11; have _t := G1; refine (gap_b (And.left ‹StyAfter w0 S cA cs cc (wr.alloc _) _ ∧ _›).sty).mono ?_; rintro e w6 ⟨⟨g2, rfl, hg1, G2⟩, hg3⟩; (try clear HG); have HG := Lib.hid hg3; clear hg3 hg1; rw [bytesOf_length] at G2; have f20 : (9223372036854775807 < g1.size + 1 + a.size + 1 + g2.size) = False := eq_false (by omega); have f21 : (9223372036854775807 < g1.size + 1 + a.size + 1 + g2.size + 1) = False := eq_false (by omega); (skip)) | (go_at_call 11; refine (gap_b (And.left ‹StyAfter w0 S cA cs cc (wr.alloc _) _ ∧ _›).sty).mono ?_; rintro e w6 ⟨⟨g1, rfl, hg1, G1⟩, hg3⟩; (try clear HG); have HG := Lib.hid hg3; clear hg3 hg1; rw [bytesOf_length] at G1; have f10 : (9223372036854775807 < g1.size + 1) = False := eq_false (by omega); have f11 : (9223372036854775807 < g1.size + 1 + a.size) = False := eq_false (by omega); have f12 : (9223372036854775807 < g1.size + 1 + a.size + 1) = False := eq_false (by omega); (skip))))) | skip
        have HF : Hid (Sty w0 S cA cs cc w6 ∧ Keeps w.heap.size [S] w w6) := by
          have k1 := And.left ‹StyAfter w0 S cA cs cc (wr.alloc _) w6 ∧ _›
          exact ⟨k1.sty, HS.out.2.trans ((HA.out.trans k1).keeps.mono HS.out.2.size (fun s hs _ => hs))⟩
        have e34 : (ByteArray.mk #[34]).size = 1 := rfl
        have e44 : (ByteArray.mk #[44]).size = 1 := rfl
        have e58 : (ByteArray.mk #[58]).size = 1 := rfl
        go_wp2_with fail
        exact ⟨⟨2, _, by omega, rfl, rfl, by simp only [sumF] at hu ha ⊢; simp only [ByteArray.size_append, e34, e44, e58]; omega, HF.out⟩, by simp [intOf] <;> omega⟩
    · have hu2 : u.size ≤ 10000000000000 := by omega
      go_wp2_with fail
      go_ret
      obtain rfl : k = n := by omega
      exact ⟨⟨_, rfl, by simp only [ByteArray.size_append]; show u.size + 1 ≤ _; omega⟩, HS.out.1, HW.out.2.2.trans (HS.out.2.mono HW.out.2.2.size (by simp))⟩
set_option maxRecDepth 100000 in
set_option maxHeartbeats 4000000 in
theorem objectT_calls (B : Nat) (f : Nat → Nat) (hM : ∀ i, f i ≤ 1000000000000) {w0 : World} {S : Nat} {cA : Option Addr} {cs : List Int} {cc : Nat} {w : World} (h : Sty w0 S cA cs cc w) (hB : B < w.heap.size) (hBS : B ≠ S) (hP : Prs B 2 f w)
    (hfz : ∀ o, w.frozen? ⟨B, o, none⟩ = false) (hw0 : w0.heap.size ≤ B) :
    Calls Tryz.prog 24 #[.pointer (some ⟨S, 0, none⟩), .bool true, .slice (some ⟨B, 0, none⟩) 2 2] w (ObjAns (2 + sumF f 2) B w0 S cA cs cc w) := by
  have H := Lib.hid h
  obtain ⟨a1, b1, ca1, cb1, ha1⟩ := hP 0 (by omega)
  obtain ⟨a2, b2, ca2, cb2, ha2⟩ := hP 1 (by omega)
  have HP := Lib.hid hP
  have HB := Lib.hid hB
  have HBS := Lib.hid hBS
  clear h hP
  obtain ⟨n, hn2⟩ : ∃ n : Nat, n = 2 := ⟨_, rfl⟩
  go_enter Tryz.func24, Tryz.ntmps24
  go_wp2_with fail
  refine (next_calls 2 (by omega) (by omega) H.out).mono ?_
  rintro e w1 ⟨r, rfl, hr, ha⟩
  have hBk : B < w1.heap.size := Nat.lt_of_lt_of_le hB ha.keeps.size
  have kc : ∀ o, w1.cell? ⟨B, o, none⟩ = w.cell? ⟨B, o, none⟩ := fun o => ha.keeps.cell (p := ⟨B, o, none⟩) hB (by simp; exact hBS)
  have kf : ∀ o, w1.frozen? ⟨B, o, none⟩ = false := fun o => (ha.keeps.frozen (p := ⟨B, o, none⟩) hB (by simp; exact hBS)).trans (hfz o)
  have ca1' := (kc 0).trans ca1
  have cb1' := (kc 1).trans cb1
  have ca2' := (kc 2).trans ca2
  have cb2' := (kc 3).trans cb2
  have KC := Lib.hid kc
  have HA := Lib.hid ha
  clear ha ca1 cb1 ca2 cb2 hfz kc
  have hr8 : r = 0 ∨ r = 1 := by omega
  clear hr
  rcases hr8 with rfl | rfl
  · have HW : Hid (Prs B 2 f w1 ∧ Sty w0 S cA cs cc w1 ∧ Keeps w.heap.size [S, B] w w1) := by
      refine ⟨?_, HA.out.sty, HA.out.keeps.mono (Nat.le_refl _) (fun s hs _ => by simp at hs; simp [hs])⟩
      intro i hi
      obtain ⟨a, b, q1, q2, q3⟩ := HP.out i (by omega)
      exact ⟨a, b, (KC.out _).trans q1, (KC.out _).trans q2, q3⟩
    clear kf ca1' cb1' ca2' cb2' hB hBS hBk
    go_wp2_with fail
    go_loopw [7, 8, 9, 33] (fun o i b q wr => ∃ (k : Nat) (u : ByteArray), k ≤ 2 ∧ q = .int .i64 k ∧ o = .string u ∧ u.size ≤ 1 + sumF f k ∧ Hid (Sty w0 S cA cs cc wr ∧ Keeps w1.heap.size [S] w1 wr)) (fun _ _ _ q _ => 2 - (intOf q).toNat)
    case atStart => exact ⟨0, ⟨#[123]⟩, by omega, rfl, rfl, by show 1 ≤ _; omega, ⟨HW.out.2.1, Keeps.refl _ _ _⟩⟩
    case round =>
      obtain ⟨k, u, hk, rfl, rfl, hu, HS⟩ := hrel
      have hkM := sumF_le hM k
      by_cases hlt : k < 2
      · obtain ⟨a, b, ca, cb, ha⟩ := HW.out.1 k hlt
        have hMk := hM k
        have hBW := Nat.lt_of_lt_of_le HB.out HW.out.2.2.size
        have ca2 : wr.cell? ⟨B, 2 * k, none⟩ = some (.string a) := (HS.out.2.cell (p := ⟨B, 2 * k, none⟩) hBW (by simp; exact HBS.out)).trans ca
        have cb2 : wr.cell? ⟨B, 2 * k + 1, none⟩ = some (.string b) := (HS.out.2.cell (p := ⟨B, 2 * k + 1, none⟩) hBW (by simp; exact HBS.out)).trans cb
        have hSw := HS.out.1.size
        have hBr : B < wr.heap.size := Nat.lt_of_lt_of_le hBW HS.out.2.size
        clear ca cb
        have hk2 : k = 0 ∨ k = 1 := by omega
        rcases hk2 with rfl | rfl
        · have hu2 : u.size ≤ 10000000000000 := by omega
          have ha2 : a.size ≤ 1000000000000 := by omega
          have hb2 : b.size ≤ 1000000000000 := by omega
          have hap := @ByteArray.size_append
          go_wp2_with fail
          have HC : Hid (∀ w', StyAfter w0 S cA cs cc (wr.alloc (.cells #[.string a, .string b] 61)) w' → StyAfter w0 S cA cs cc (wr.alloc (.cells #[.string a, .string b] 61)) w' ∧ w'.cell? ⟨wr.heap.size, 0, none⟩ = some (.string a) ∧ w'.cell? ⟨wr.heap.size, 1, none⟩ = some (.string b)) := by
            intro w' h
            exact ⟨h, (h.keeps.cell (p := ⟨wr.heap.size, 0, none⟩) (by simp) (by simp; omega)).trans (by simp [go_sem]), (h.keeps.cell (p := ⟨wr.heap.size, 1, none⟩) (by simp) (by simp; omega)).trans (by simp [go_sem])⟩
          have HA : Hid (StyAfter w0 S cA cs cc wr (wr.alloc (.cells #[.string a, .string b] 61))) := HS.out.1.alloc _
          first | (go_must (go_region_held3 (fun w' => StyAfter w0 S cA cs cc (wr.alloc (.cells #[.string a, .string b] 61)) w' ∧ w'.cell? ⟨wr.heap.size, 0, none⟩ = some (.string a) ∧ w'.cell? ⟨wr.heap.size, 1, none⟩ = some (.string b)) (first | assumption | exact HC.out _ (HA.out.sty.with (Below.refl _ _).drew) | exact HC.out _ ((And.left ‹StyAfter w0 S cA cs cc (wr.alloc _) _ ∧ _›).trans HG.out)) (first | (go_at_call 11; have _t := G3; refine (gap_b (And.left ‹StyAfter w0 S cA cs cc (wr.alloc _) _ ∧ _›).sty).mono ?_; rintro e w6 ⟨⟨g4, rfl, hg1, G4⟩, hg3⟩; (try clear HG); have HG := Lib.hid hg3; clear hg3 hg1; rw [bytesOf_length] at G4; have f40 : (9223372036854775807 < g1.size + 1 + a.size + 1 + g2.size + 1 + g3.size + b.size + g4.size) = False := eq_false (by omega); have f41 : (9223372036854775807 < u.size + (g1.size + 1 + a.size + 1 + g2.size + 1 + g3.size + b.size + g4.size)) = False := eq_false (by omega); have f42 : (9223372036854775807 < u.size + 1 + (g1.size + 1 + a.size + 1 + g2.size + 1 + g3.size + b.size + g4.size)) = False := eq_false (by omega); (skip)) | (go_at_call 11; have _t := G2; refine (gap_b (And.left ‹StyAfter w0 S cA cs cc (wr.alloc _) _ ∧ _›).sty).mono ?_; rintro e w6 ⟨⟨g3, rfl, hg1, G3⟩, hg3⟩; (try clear HG); have HG := Lib.hid hg3; clear hg3 hg1; rw [bytesOf_length] at G3; have f30 : (9223372036854775807 < g1.size + 1 + a.size + 1 + g2.size + 1 + g3.size) = False := eq_false (by omega); have f31 : (9223372036854775807 < g1.size + 1 + a.size + 1 + g2.size + 1 + g3.size + b.size) = False := eq_false (by omega); (skip)) | (go_at_call 11; have _t := G1; refine (gap_b (And.left ‹StyAfter w0 S cA cs cc (wr.alloc _) _ ∧ _›).sty).mono ?_; rintro e w6 ⟨⟨g2, rfl, hg1, G2⟩, hg3⟩; (try clear HG); have HG := Lib.hid hg3; clear hg3 hg1; rw [bytesOf_length] at G2; have f20 : (9223372036854775807 < g1.size + 1 + a.size + 1 + g2.size) = False := eq_false (by omega); have f21 : (9223372036854775807 < g1.size + 1 + a.size + 1 + g2.size + 1) = False := eq_false (by omega); (skip)) | (go_at_call 11; refine (gap_b (And.left ‹StyAfter w0 S cA cs cc (wr.alloc _) _ ∧ _›).sty).mono ?_; rintro e w6 ⟨⟨g1, rfl, hg1, G1⟩, hg3⟩; (try clear HG); have HG := Lib.hid hg3; clear hg3 hg1; rw [bytesOf_length] at G1; have f10 : (9223372036854775807 < g1.size + 1) = False := eq_false (by omega); have f11 : (9223372036854775807 < g1.size + 1 + a.size) = False := eq_false (by omega); have f12 : (9223372036854775807 < g1.size + 1 + a.size + 1) = False := eq_false (by omega); (skip))))) | skip
          have HF : Hid (Sty w0 S cA cs cc w6 ∧ Keeps w1.heap.size [S] w1 w6) := by
            have k1 := And.left ‹StyAfter w0 S cA cs cc (wr.alloc _) w6 ∧ _›
            exact ⟨k1.sty, HS.out.2.trans ((HA.out.trans k1).keeps.mono HS.out.2.size (fun s hs _ => hs))⟩
          have e34 : (ByteArray.mk #[34]).size = 1 := rfl
          have e44 : (ByteArray.mk #[44]).size = 1 := rfl
          have e58 : (ByteArray.mk #[58]).size = 1 := rfl
          go_wp2_with fail
          exact ⟨⟨1, _, by omega, rfl, rfl, by simp only [sumF] at hu ha ⊢; simp only [ByteArray.size_append, e34, e44, e58]; omega, HF.out⟩, by simp [intOf] <;> omega⟩
        · have hu2 : u.size ≤ 10000000000000 := by omega
          have ha2 : a.size ≤ 1000000000000 := by omega
          have hb2 : b.size ≤ 1000000000000 := by omega
          have hap := @ByteArray.size_append
          go_wp2_with fail
          have HC : Hid (∀ w', StyAfter w0 S cA cs cc (wr.alloc (.cells #[.string a, .string b] 61)) w' → StyAfter w0 S cA cs cc (wr.alloc (.cells #[.string a, .string b] 61)) w' ∧ w'.cell? ⟨wr.heap.size, 0, none⟩ = some (.string a) ∧ w'.cell? ⟨wr.heap.size, 1, none⟩ = some (.string b)) := by
            intro w' h
            exact ⟨h, (h.keeps.cell (p := ⟨wr.heap.size, 0, none⟩) (by simp) (by simp; omega)).trans (by simp [go_sem]), (h.keeps.cell (p := ⟨wr.heap.size, 1, none⟩) (by simp) (by simp; omega)).trans (by simp [go_sem])⟩
          have HA : Hid (StyAfter w0 S cA cs cc wr (wr.alloc (.cells #[.string a, .string b] 61))) := HS.out.1.alloc _
          first | (go_must (go_region_held3 (fun w' => StyAfter w0 S cA cs cc (wr.alloc (.cells #[.string a, .string b] 61)) w' ∧ w'.cell? ⟨wr.heap.size, 0, none⟩ = some (.string a) ∧ w'.cell? ⟨wr.heap.size, 1, none⟩ = some (.string b)) (first | assumption | exact HC.out _ (HA.out.sty.with (Below.refl _ _).drew) | exact HC.out _ ((And.left ‹StyAfter w0 S cA cs cc (wr.alloc _) _ ∧ _›).trans HG.out)) (first | (go_at_call 11; have _t := G3; refine (gap_b (And.left ‹StyAfter w0 S cA cs cc (wr.alloc _) _ ∧ _›).sty).mono ?_; rintro e w6 ⟨⟨g4, rfl, hg1, G4⟩, hg3⟩; (try clear HG); have HG := Lib.hid hg3; clear hg3 hg1; rw [bytesOf_length] at G4; have f40 : (9223372036854775807 < g1.size + 1 + a.size + 1 + g2.size + 1 + g3.size + b.size + g4.size) = False := eq_false (by omega); have f41 : (9223372036854775807 < u.size + (g1.size + 1 + a.size + 1 + g2.size + 1 + g3.size + b.size + g4.size)) = False := eq_false (by omega); have f42 : (9223372036854775807 < u.size + 1 + (g1.size + 1 + a.size + 1 + g2.size + 1 + g3.size + b.size + g4.size)) = False := eq_false (by omega); (skip)) | (go_at_call 11; have _t := G2; refine (gap_b (And.left ‹StyAfter w0 S cA cs cc (wr.alloc _) _ ∧ _›).sty).mono ?_; rintro e w6 ⟨⟨g3, rfl, hg1, G3⟩, hg3⟩; (try clear HG); have HG := Lib.hid hg3; clear hg3 hg1; rw [bytesOf_length] at G3; have f30 : (9223372036854775807 < g1.size + 1 + a.size + 1 + g2.size + 1 + g3.size) = False := eq_false (by omega); have f31 : (9223372036854775807 < g1.size + 1 + a.size + 1 + g2.size + 1 + g3.size + b.size) = False := eq_false (by omega); (skip)) | (go_at_call 11; have _t := G1; refine (gap_b (And.left ‹StyAfter w0 S cA cs cc (wr.alloc _) _ ∧ _›).sty).mono ?_; rintro e w6 ⟨⟨g2, rfl, hg1, G2⟩, hg3⟩; (try clear HG); have HG := Lib.hid hg3; clear hg3 hg1; rw [bytesOf_length] at G2; have f20 : (9223372036854775807 < g1.size + 1 + a.size + 1 + g2.size) = False := eq_false (by omega); have f21 : (9223372036854775807 < g1.size + 1 + a.size + 1 + g2.size + 1) = False := eq_false (by omega); (skip)) | (go_at_call 11; refine (gap_b (And.left ‹StyAfter w0 S cA cs cc (wr.alloc _) _ ∧ _›).sty).mono ?_; rintro e w6 ⟨⟨g1, rfl, hg1, G1⟩, hg3⟩; (try clear HG); have HG := Lib.hid hg3; clear hg3 hg1; rw [bytesOf_length] at G1; have f10 : (9223372036854775807 < g1.size + 1) = False := eq_false (by omega); have f11 : (9223372036854775807 < g1.size + 1 + a.size) = False := eq_false (by omega); have f12 : (9223372036854775807 < g1.size + 1 + a.size + 1) = False := eq_false (by omega); (skip))))) | skip
          have HF : Hid (Sty w0 S cA cs cc w6 ∧ Keeps w1.heap.size [S] w1 w6) := by
            have k1 := And.left ‹StyAfter w0 S cA cs cc (wr.alloc _) w6 ∧ _›
            exact ⟨k1.sty, HS.out.2.trans ((HA.out.trans k1).keeps.mono HS.out.2.size (fun s hs _ => hs))⟩
          have e34 : (ByteArray.mk #[34]).size = 1 := rfl
          have e44 : (ByteArray.mk #[44]).size = 1 := rfl
          have e58 : (ByteArray.mk #[58]).size = 1 := rfl
          go_wp2_with fail
          exact ⟨⟨2, _, by omega, rfl, rfl, by simp only [sumF] at hu ha ⊢; simp only [ByteArray.size_append, e34, e44, e58]; omega, HF.out⟩, by simp [intOf] <;> omega⟩
      · have hu2 : u.size ≤ 10000000000000 := by omega
        go_wp2_with fail
        go_ret
        obtain rfl : k = 2 := by omega
        exact ⟨⟨_, rfl, by simp only [ByteArray.size_append]; show u.size + 1 ≤ _; omega⟩, HS.out.1, HW.out.2.2.trans (HS.out.2.mono HW.out.2.2.size (by simp))⟩
  · go_wp2_with fail
    go_region
    have hk : Keeps w1.heap.size [B] w1 ((((w1.setCell ⟨B, 0, none⟩ (.string a2)).setCell ⟨B, 1, none⟩ (.string b2)).setCell ⟨B, 2, none⟩ (.string a1)).setCell ⟨B, 3, none⟩ (.string b1)).drew := (((((Keeps.refl _ _ _).setCell (p := ⟨B, 0, none⟩) (Or.inl (by simp)) _).setCell (p := ⟨B, 1, none⟩) (Or.inl (by simp)) _).setCell (p := ⟨B, 2, none⟩) (Or.inl (by simp)) _).setCell (p := ⟨B, 3, none⟩) (Or.inl (by simp)) _).drew
    have HW : Hid (Prs B 2 (fun i => if i = 0 then f 1 else f 0) ((((w1.setCell ⟨B, 0, none⟩ (.string a2)).setCell ⟨B, 1, none⟩ (.string b2)).setCell ⟨B, 2, none⟩ (.string a1)).setCell ⟨B, 3, none⟩ (.string b1)).drew ∧ Sty w0 S cA cs cc ((((w1.setCell ⟨B, 0, none⟩ (.string a2)).setCell ⟨B, 1, none⟩ (.string b2)).setCell ⟨B, 2, none⟩ (.string a1)).setCell ⟨B, 3, none⟩ (.string b1)).drew ∧ Keeps w.heap.size [S, B] w ((((w1.setCell ⟨B, 0, none⟩ (.string a2)).setCell ⟨B, 1, none⟩ (.string b2)).setCell ⟨B, 2, none⟩ (.string a1)).setCell ⟨B, 3, none⟩ (.string b1)).drew) := by
      refine ⟨?_, HA.out.sty.kept hk HA.out.sty.size (by simp; exact fun e => hBS e.symm) (by simpa using hw0), (HA.out.keeps.mono (Nat.le_refl _) (fun s hs _ => by simp at hs; simp [hs])).trans (hk.mono HA.out.keeps.size (fun s hs _ => by simp at hs; simp [hs]))⟩
      intro i hi
      have h2 : i = 0 ∨ i = 1 := by omega
      rcases h2 with rfl | rfl
      · exact ⟨a2, b2, by simp [go_sem, ca1', cb1', ca2', cb2', kf], by simp [go_sem, ca1', cb1', ca2', cb2', kf], by simpa using ha2⟩
      · exact ⟨a1, b1, by simp [go_sem, ca1', cb1', ca2', cb2', kf], by simp [go_sem, ca1', cb1', ca2', cb2', kf], by simpa using ha1⟩
    clear kf ca1' cb1' ca2' cb2' hB hBS hBk hk
    generalize ((((w1.setCell ⟨B, 0, none⟩ (.string a2)).setCell ⟨B, 1, none⟩ (.string b2)).setCell ⟨B, 2, none⟩ (.string a1)).setCell ⟨B, 3, none⟩ (.string b1)).drew = w2 at HW ⊢
    obtain ⟨g, hg⟩ : ∃ g : Nat → Nat, g = fun i => if i = 0 then f 1 else f 0 := ⟨_, rfl⟩
    rw [← hg] at HW
    have hsum : sumF f 2 = sumF g 2 := by subst hg; simp [sumF]; omega
    have hM2 : ∀ i, g i ≤ 1000000000000 := by intro i; subst hg; simp only; split; exact hM 1; exact hM 0
    have HSM := Lib.hid hsum
    clear hsum hg
    go_wp2_with fail
    go_loopw [7, 8, 9, 33] (fun o i b q wr => ∃ (k : Nat) (u : ByteArray), k ≤ 2 ∧ q = .int .i64 k ∧ o = .string u ∧ u.size ≤ 1 + sumF g k ∧ Hid (Sty w0 S cA cs cc wr ∧ Keeps w2.heap.size [S] w2 wr)) (fun _ _ _ q _ => 2 - (intOf q).toNat)
    case atStart => exact ⟨0, ⟨#[123]⟩, by omega, rfl, rfl, by show 1 ≤ _; omega, ⟨HW.out.2.1, Keeps.refl _ _ _⟩⟩
    case round =>
      obtain ⟨k, u, hk, rfl, rfl, hu, HS⟩ := hrel
      have hkM := sumF_le hM2 k
      by_cases hlt : k < 2
      · obtain ⟨a, b, ca, cb, ha⟩ := HW.out.1 k hlt
        have hMk := hM2 k
        have hBW := Nat.lt_of_lt_of_le HB.out HW.out.2.2.size
        have ca2 : wr.cell? ⟨B, 2 * k, none⟩ = some (.string a) := (HS.out.2.cell (p := ⟨B, 2 * k, none⟩) hBW (by simp; exact HBS.out)).trans ca
        have cb2 : wr.cell? ⟨B, 2 * k + 1, none⟩ = some (.string b) := (HS.out.2.cell (p := ⟨B, 2 * k + 1, none⟩) hBW (by simp; exact HBS.out)).trans cb
        have hSw := HS.out.1.size
        have hBr : B < wr.heap.size := Nat.lt_of_lt_of_le hBW HS.out.2.size
        clear ca cb
        have hk2 : k = 0 ∨ k = 1 := by omega
        rcases hk2 with rfl | rfl
        · have hu2 : u.size ≤ 10000000000000 := by omega
          have ha2 : a.size ≤ 1000000000000 := by omega
          have hb2 : b.size ≤ 1000000000000 := by omega
          have hap := @ByteArray.size_append
          go_wp2_with fail
          have HC : Hid (∀ w', StyAfter w0 S cA cs cc (wr.alloc (.cells #[.string a, .string b] 61)) w' → StyAfter w0 S cA cs cc (wr.alloc (.cells #[.string a, .string b] 61)) w' ∧ w'.cell? ⟨wr.heap.size, 0, none⟩ = some (.string a) ∧ w'.cell? ⟨wr.heap.size, 1, none⟩ = some (.string b)) := by
            intro w' h
            exact ⟨h, (h.keeps.cell (p := ⟨wr.heap.size, 0, none⟩) (by simp) (by simp; omega)).trans (by simp [go_sem]), (h.keeps.cell (p := ⟨wr.heap.size, 1, none⟩) (by simp) (by simp; omega)).trans (by simp [go_sem])⟩
          have HA : Hid (StyAfter w0 S cA cs cc wr (wr.alloc (.cells #[.string a, .string b] 61))) := HS.out.1.alloc _
          first | (go_must (go_region_held3 (fun w' => StyAfter w0 S cA cs cc (wr.alloc (.cells #[.string a, .string b] 61)) w' ∧ w'.cell? ⟨wr.heap.size, 0, none⟩ = some (.string a) ∧ w'.cell? ⟨wr.heap.size, 1, none⟩ = some (.string b)) (first | assumption | exact HC.out _ (HA.out.sty.with (Below.refl _ _).drew) | exact HC.out _ ((And.left ‹StyAfter w0 S cA cs cc (wr.alloc _) _ ∧ _›).trans HG.out)) (first | (go_at_call 11; have _t := G3; refine (gap_b (And.left ‹StyAfter w0 S cA cs cc (wr.alloc _) _ ∧ _›).sty).mono ?_; rintro e w6 ⟨⟨g4, rfl, hg1, G4⟩, hg3⟩; (try clear HG); have HG := Lib.hid hg3; clear hg3 hg1; rw [bytesOf_length] at G4; have f40 : (9223372036854775807 < g1.size + 1 + a.size + 1 + g2.size + 1 + g3.size + b.size + g4.size) = False := eq_false (by omega); have f41 : (9223372036854775807 < u.size + (g1.size + 1 + a.size + 1 + g2.size + 1 + g3.size + b.size + g4.size)) = False := eq_false (by omega); have f42 : (9223372036854775807 < u.size + 1 + (g1.size + 1 + a.size + 1 + g2.size + 1 + g3.size + b.size + g4.size)) = False := eq_false (by omega); (skip)) | (go_at_call 11; have _t := G2; refine (gap_b (And.left ‹StyAfter w0 S cA cs cc (wr.alloc _) _ ∧ _›).sty).mono ?_; rintro e w6 ⟨⟨g3, rfl, hg1, G3⟩, hg3⟩; (try clear HG); have HG := Lib.hid hg3; clear hg3 hg1; rw [bytesOf_length] at G3; have f30 : (9223372036854775807 < g1.size + 1 + a.size + 1 + g2.size + 1 + g3.size) = False := eq_false (by omega); have f31 : (9223372036854775807 < g1.size + 1 + a.size + 1 + g2.size + 1 + g3.size + b.size) = False := eq_false (by omega); (skip)) | (go_at_call 11; have _t := G1; refine (gap_b (And.left ‹StyAfter w0 S cA cs cc (wr.alloc _) _ ∧ _›).sty).mono ?_; rintro e w6 ⟨⟨g2, rfl, hg1, G2⟩, hg3⟩; (try clear HG); have HG := Lib.hid hg3; clear hg3 hg1; rw [bytesOf_length] at G2; have f20 : (9223372036854775807 < g1.size + 1 + a.size + 1 + g2.size) = False := eq_false (by omega); have f21 : (9223372036854775807 < g1.size + 1 + a.size + 1 + g2.size + 1) = False := eq_false (by omega); (skip)) | (go_at_call 11; refine (gap_b (And.left ‹StyAfter w0 S cA cs cc (wr.alloc _) _ ∧ _›).sty).mono ?_; rintro e w6 ⟨⟨g1, rfl, hg1, G1⟩, hg3⟩; (try clear HG); have HG := Lib.hid hg3; clear hg3 hg1; rw [bytesOf_length] at G1; have f10 : (9223372036854775807 < g1.size + 1) = False := eq_false (by omega); have f11 : (9223372036854775807 < g1.size + 1 + a.size) = False := eq_false (by omega); have f12 : (9223372036854775807 < g1.size + 1 + a.size + 1) = False := eq_false (by omega); (skip))))) | skip
          have HF : Hid (Sty w0 S cA cs cc w6 ∧ Keeps w2.heap.size [S] w2 w6) := by
            have k1 := And.left ‹StyAfter w0 S cA cs cc (wr.alloc _) w6 ∧ _›
            exact ⟨k1.sty, HS.out.2.trans ((HA.out.trans k1).keeps.mono HS.out.2.size (fun s hs _ => hs))⟩
          have e34 : (ByteArray.mk #[34]).size = 1 := rfl
          have e44 : (ByteArray.mk #[44]).size = 1 := rfl
          have e58 : (ByteArray.mk #[58]).size = 1 := rfl
          go_wp2_with fail
          exact ⟨⟨1, _, by omega, rfl, rfl, by simp only [sumF] at hu ha ⊢; simp only [ByteArray.size_append, e34, e44, e58]; omega, HF.out⟩, by simp [intOf] <;> omega⟩
        · have hu2 : u.size ≤ 10000000000000 := by omega
          have ha2 : a.size ≤ 1000000000000 := by omega
          have hb2 : b.size ≤ 1000000000000 := by omega
          have hap := @ByteArray.size_append
          go_wp2_with fail
          have HC : Hid (∀ w', StyAfter w0 S cA cs cc (wr.alloc (.cells #[.string a, .string b] 61)) w' → StyAfter w0 S cA cs cc (wr.alloc (.cells #[.string a, .string b] 61)) w' ∧ w'.cell? ⟨wr.heap.size, 0, none⟩ = some (.string a) ∧ w'.cell? ⟨wr.heap.size, 1, none⟩ = some (.string b)) := by
            intro w' h
            exact ⟨h, (h.keeps.cell (p := ⟨wr.heap.size, 0, none⟩) (by simp) (by simp; omega)).trans (by simp [go_sem]), (h.keeps.cell (p := ⟨wr.heap.size, 1, none⟩) (by simp) (by simp; omega)).trans (by simp [go_sem])⟩
          have HA : Hid (StyAfter w0 S cA cs cc wr (wr.alloc (.cells #[.string a, .string b] 61))) := HS.out.1.alloc _
          first | (go_must (go_region_held3 (fun w' => StyAfter w0 S cA cs cc (wr.alloc (.cells #[.string a, .string b] 61)) w' ∧ w'.cell? ⟨wr.heap.size, 0, none⟩ = some (.string a) ∧ w'.cell? ⟨wr.heap.size, 1, none⟩ = some (.string b)) (first | assumption | exact HC.out _ (HA.out.sty.with (Below.refl _ _).drew) | exact HC.out _ ((And.left ‹StyAfter w0 S cA cs cc (wr.alloc _) _ ∧ _›).trans HG.out)) (first | (go_at_call 11; have _t := G3; refine (gap_b (And.left ‹StyAfter w0 S cA cs cc (wr.alloc _) _ ∧ _›).sty).mono ?_; rintro e w6 ⟨⟨g4, rfl, hg1, G4⟩, hg3⟩; (try clear HG); have HG := Lib.hid hg3; clear hg3 hg1; rw [bytesOf_length] at G4; have f40 : (9223372036854775807 < g1.size + 1 + a.size + 1 + g2.size + 1 + g3.size + b.size + g4.size) = False := eq_false (by omega); have f41 : (9223372036854775807 < u.size + (g1.size + 1 + a.size + 1 + g2.size + 1 + g3.size + b.size + g4.size)) = False := eq_false (by omega); have f42 : (9223372036854775807 < u.size + 1 + (g1.size + 1 + a.size + 1 + g2.size + 1 + g3.size + b.size + g4.size)) = False := eq_false (by omega); (skip)) | (go_at_call 11; have _t := G2; refine (gap_b (And.left ‹StyAfter w0 S cA cs cc (wr.alloc _) _ ∧ _›).sty).mono ?_; rintro e w6 ⟨⟨g3, rfl, hg1, G3⟩, hg3⟩; (try clear HG); have HG := Lib.hid hg3; clear hg3 hg1; rw [bytesOf_length] at G3; have f30 : (9223372036854775807 < g1.size + 1 + a.size + 1 + g2.size + 1 + g3.size) = False := eq_false (by omega); have f31 : (9223372036854775807 < g1.size + 1 + a.size + 1 + g2.size + 1 + g3.size + b.size) = False := eq_false (by omega); (skip)) | (go_at_call 11; have _t := G1; refine (gap_b (And.left ‹StyAfter w0 S cA cs cc (wr.alloc _) _ ∧ _›).sty).mono ?_; rintro e w6 ⟨⟨g2, rfl, hg1, G2⟩, hg3⟩; (try clear HG); have HG := Lib.hid hg3; clear hg3 hg1; rw [bytesOf_length] at G2; have f20 : (9223372036854775807 < g1.size + 1 + a.size + 1 + g2.size) = False := eq_false (by omega); have f21 : (9223372036854775807 < g1.size + 1 + a.size + 1 + g2.size + 1) = False := eq_false (by omega); (skip)) | (go_at_call 11; refine (gap_b (And.left ‹StyAfter w0 S cA cs cc (wr.alloc _) _ ∧ _›).sty).mono ?_; rintro e w6 ⟨⟨g1, rfl, hg1, G1⟩, hg3⟩; (try clear HG); have HG := Lib.hid hg3; clear hg3 hg1; rw [bytesOf_length] at G1; have f10 : (9223372036854775807 < g1.size + 1) = False := eq_false (by omega); have f11 : (9223372036854775807 < g1.size + 1 + a.size) = False := eq_false (by omega); have f12 : (9223372036854775807 < g1.size + 1 + a.size + 1) = False := eq_false (by omega); (skip))))) | skip
          have HF : Hid (Sty w0 S cA cs cc w6 ∧ Keeps w2.heap.size [S] w2 w6) := by
            have k1 := And.left ‹StyAfter w0 S cA cs cc (wr.alloc _) w6 ∧ _›
            exact ⟨k1.sty, HS.out.2.trans ((HA.out.trans k1).keeps.mono HS.out.2.size (fun s hs _ => hs))⟩
          have e34 : (ByteArray.mk #[34]).size = 1 := rfl
          have e44 : (ByteArray.mk #[44]).size = 1 := rfl
          have e58 : (ByteArray.mk #[58]).size = 1 := rfl
          go_wp2_with fail
          exact ⟨⟨2, _, by omega, rfl, rfl, by simp only [sumF] at hu ha ⊢; simp only [ByteArray.size_append, e34, e44, e58]; omega, HF.out⟩, by simp [intOf] <;> omega⟩
      · have hu2 : u.size ≤ 10000000000000 := by omega
        go_wp2_with fail
        go_ret
        obtain rfl : k = 2 := by omega
        exact ⟨⟨_, rfl, by simp only [ByteArray.size_append]; rw [HSM.out]; show u.size + 1 ≤ _; omega⟩, HS.out.1, HW.out.2.2.trans (HS.out.2.mono HW.out.2.2.size (by simp))⟩
end Go.Proofs.YtlgmlfhalgnppaaGreatDoor
