/- A part of the proof that laws.FnExtKind returns true at every input: Par, Adv, Step, Kind. -/
import Derived.Test.YtlgmlfhalgnppaaGreatDoorQ
import Derived.Great.Walk
import Derived.BigQuiet
/-! bson.extJSONParser: its state, one step. -/
set_option linter.unusedSimpArgs false
set_option linter.unusedVariables false
namespace Go.Proofs.YtlgmlfhalgnppaaGreatDoor
open Go.RowKit
section
open Go.Proofs.YtlgmlfhalgnppaaGreatDoorW.PrintWords hiding bt bt_at bt_range
abbrev OwnM (W : World) (base : Nat) (v : Value) (xs : List Int) : Prop := W.ownsRow base 134 1 v xs.length (nums .u8 xs)
theorem info_mode : (Tryz.prog.info? 134).map (fun i => (i.zero, i.size, i.bytes)) = some (some (.int .u8 0), 1, 1) := by kernel_rfl
/-- The parser's cells. -/
structure Par (P : Nat) (c : Nat → Value) (w : World) : Prop where
  cell : ∀ i, i < 11 → w.cell? ⟨P, i, none⟩ = some (c i)
  fr : ∀ o, w.frozen? ⟨P, o, none⟩ = false
  lt : P < w.heap.size
def upd (c : Nat → Value) (i : Nat) (v : Value) : Nat → Value := fun j => if j = i then v else c j
theorem Par.keeps {P : Nat} {c : Nat → Value} {w w' : World} {B : Nat} {S : List Nat} (h : Par P c w) (k : Keeps B S w w') (hP : P < B) (hn : P ∉ S) : Par P c w' :=
  ⟨fun i hi => (k.cell (p := ⟨P, i, none⟩) hP hn).trans (h.cell i hi), fun o => (k.frozen (p := ⟨P, o, none⟩) hP hn).trans (h.fr o), Nat.lt_of_lt_of_le h.lt k.size⟩
theorem Par.set {P : Nat} {c : Nat → Value} {w : World} (h : Par P c w) (i : Nat) (hi : i < 11) (v : Value) : Par P (upd c i v) (w.setCell ⟨P, i, none⟩ v) := by
  refine ⟨fun j hj => ?_, fun o => ?_, ?_⟩
  · by_cases e : j = i
    · subst e
      rw [World.cell?_setCell_same _ _ _ (h.cell j hj)]
      simp [upd]
    · rw [World.cell?_setCell_other _ _ _ _ (by intro e2; injection e2 with _ e3 _; omega), h.cell j hj]
      simp [upd, e]
  · rw [World.frozen?_setCell]; exact h.fr o
  · simpa [World.setCell] using h.lt
theorem JsR.kept2 {J R : Nat} {ad : Addr} {l : List Int} {lc : Nat} {bf : Option Nat} {rest : List Int} {w w' : World} (h : JsR J R ad l lc bf rest w) {S : List Nat} (hk : Keeps w.heap.size S w w') (hJS : J ∉ S) (hRS : R ∉ S) (hbS : ∀ b, bf = some b → b ∉ S) (hA : ad.block ∉ S) : JsR J R ad l lc bf rest w' := by
  obtain ⟨bs, pos, i, hj, hr⟩ := h.out
  have hlt := hj.lt
  refine ⟨bs, pos, i, ⟨(hk.cell (p := ⟨J, 0, none⟩) hlt hJS).trans hj.j0, (hk.cell (p := ⟨J, 1, none⟩) hlt hJS).trans hj.j1, (hk.cell (p := ⟨J, 2, none⟩) hlt hJS).trans hj.j2, (hk.cell (p := ⟨J, 3, none⟩) hlt hJS).trans hj.j3, fun o => (hk.frozen (p := ⟨J, o, none⟩) hlt hJS).trans (hj.fr o), Nat.lt_of_lt_of_le hlt hk.size, hj.ne, hj.adJ, hj.rd.kept hk hj.rd.lt hRS hA, ?_, hj.pl, hj.bl⟩, hr⟩
  cases bf with
  | none => exact hj.buf
  | some b =>
    obtain ⟨hb1, hb2, hb3, cur, hcur, hheap, htake⟩ := hj.buf
    exact ⟨Nat.lt_of_lt_of_le hb1 hk.size, hb2, hb3, cur, hcur, (hk.block b hb1 (hbS b rfl)).trans hheap, htake⟩
/-- The parser in state s at depth dep, with the modes xs; its scanner stands before rest. -/
structure PS (base P J R : Nat) (ad : Addr) (l : List Int) (lc : Nat) (bf : Option Nat) (rest : List Int) (s dep : Int) (xs : List Int) (c : Nat → Value) (w : World) : Prop where
  par : Par P c w
  c0 : c 0 = .pointer (some ⟨J, 0, none⟩)
  c1 : c 1 = .int .u8 s
  c7 : c 7 = .int .i64 dep
  c8 : c 8 = .int .i64 200
  own : OwnM w base (c 2) xs
  js : JsR J R ad l lc bf rest w
  bJ : base ≤ J
  bR : base ≤ R
  bP : base ≤ P
  bA : base ≤ ad.block
  PJ : P ≠ J ∧ P ≠ R ∧ P ≠ ad.block
  bb : ∀ b, bf = some b → base ≤ b ∧ b ≠ P ∧ (c 2).ownBlock ≠ some b ∧ b < w.heap.size
  m : ∀ g, (c 2).ownBlock = some g → g ≠ J ∧ g ≠ R ∧ g ≠ P ∧ g ≠ ad.block
  Jl : J < w.heap.size
  Rl : R < w.heap.size
  eof : EofW w
  eb : 7 < base
theorem PS.bs {base P J R : Nat} {ad : Addr} {l : List Int} {lc : Nat} {bf : Option Nat} {rest : List Int} {s dep : Int} {xs : List Int} {c : Nat → Value} {w : World} (h : PS base P J R ad l lc bf rest s dep xs c w) : base ≤ w.heap.size := Nat.le_of_lt (Nat.lt_of_le_of_lt h.bP h.par.lt)
theorem PS.jeof {base P J R : Nat} {ad : Addr} {l : List Int} {lc : Nat} {bf : Option Nat} {rest : List Int} {s dep : Int} {xs : List Int} {c : Nat → Value} {w : World} (h : PS base P J R ad l lc bf rest s dep xs c w) : 7 < J ∧ 7 < R ∧ (∀ b, bf = some b → 7 < b) :=
  ⟨Nat.lt_of_lt_of_le h.eb h.bJ, Nat.lt_of_lt_of_le h.eb h.bR, fun b e => Nat.lt_of_lt_of_le h.eb (h.bb b e).1⟩
/-- Behind a token. -/
theorem PS.scan {base P J R : Nat} {ad : Addr} {l : List Int} {lc : Nat} {bf : Option Nat} {rest rest2 : List Int} {s dep : Int} {xs : List Int} {c : Nat → Value} {w w' : World} (h : PS base P J R ad l lc bf rest s dep xs c w) (k : ScanTo J R ad l lc bf rest2 w w') :
    ∃ b, PS base P J R ad l lc (some b) rest2 s dep xs c w' := by
  obtain ⟨b, hj, h1, h2⟩ := k.out
  have hb := h.bb
  have hm := h.m
  have hol : ∀ g, (c 2).ownBlock = some g → g < w.heap.size := fun g e => (h.own.lt g e).2
  have hbs := h.bs
  have hlt := h.par.lt
  have hPn : P ∉ (J :: R :: bf.toList) := by
    have := h.PJ
    cases bf with
    | none => simp; omega
    | some b0 => have := hb b0 rfl; simp; omega
  have hJS : ∀ x ∈ (J :: R :: bf.toList), base ≤ x := by
    intro x hx
    have := h.bJ; have := h.bR
    cases bf with
    | none => simp at hx; omega
    | some b0 => have := hb b0 rfl; simp at hx; omega
  have hbx : base ≤ b ∧ b ≠ P ∧ (c 2).ownBlock ≠ some b := by
    cases bf with
    | none =>
      have := h2 rfl
      exact ⟨by omega, by omega, fun e => by have := hol b e; omega⟩
    | some b0 =>
      obtain rfl := h1 b0 rfl
      obtain ⟨x1, x2, x3, _⟩ := hb b rfl
      exact ⟨x1, x2, x3⟩
  have hown : OwnM w' base (c 2) xs := k.keeps.owns h.own (fun g e => ⟨hol g e, by
    have := hm g e
    cases bf with
    | none => simp; omega
    | some b0 =>
      have := (hb b0 rfl).2.2.1
      have hgb : g ≠ b0 := fun e2 => this (e2 ▸ e)
      simp; omega⟩)
  have heof : EofW w' := ScanTo.eof k h.eof h.jeof.1 h.jeof.2.1 h.jeof.2.2 h.Jl
  exact ⟨b, h.par.keeps k.keeps hlt hPn, h.c0, h.c1, h.c7, h.c8, hown, hj, h.bJ, h.bR, h.bP, h.bA, h.PJ, fun b' e => by injection e with e; subst e; exact ⟨hbx.1, hbx.2.1, hbx.2.2, hj.order.2.1⟩, h.m, Nat.lt_of_lt_of_le h.Jl k.keeps.size, Nat.lt_of_lt_of_le h.Rl k.keeps.size, heof, h.eb⟩
theorem PS.below {base P J R : Nat} {ad : Addr} {l : List Int} {lc : Nat} {bf : Option Nat} {rest rest2 : List Int} {s dep : Int} {xs : List Int} {c : Nat → Value} {w w' : World} (h : PS base P J R ad l lc bf rest s dep xs c w) (k : ScanTo J R ad l lc bf rest2 w w') : Below base w w' :=
  k.keeps.below h.bs (fun x hx => by
    have := h.bJ; have := h.bR
    have hb := h.bb
    cases bf with
    | none => simp at hx; omega
    | some b0 => have := hb b0 rfl; simp at hx; omega)
/-- One of the parser's cells is written. -/
theorem PS.put {base P J R : Nat} {ad : Addr} {l : List Int} {lc : Nat} {bf : Option Nat} {rest : List Int} {s dep : Int} {xs : List Int} {c : Nat → Value} {w : World} (h : PS base P J R ad l lc bf rest s dep xs c w) (i : Nat) (hi : i < 11) (h0 : i ≠ 0) (h2 : i ≠ 2) (h8 : i ≠ 8) (v : Value) (s' dep' : Int) (e1 : (if i = 1 then v else c 1) = .int .u8 s') (e7 : (if i = 7 then v else c 7) = .int .i64 dep') :
    PS base P J R ad l lc bf rest s' dep' xs (upd c i v) (w.setCell ⟨P, i, none⟩ v) := by
  have hk : Keeps w.heap.size [P] w (w.setCell ⟨P, i, none⟩ v) := (Keeps.refl _ _ _).setCell (Or.inl (by simp)) _
  have hPJ := h.PJ
  have hcc : upd c i v 2 = c 2 := by simp [upd]; omega
  refine ⟨h.par.set i hi v, ?_, ?_, ?_, ?_, ?_, h.js.kept2 hk (by simp; omega) (by simp; omega) (fun b e => by have := h.bb b e; simp; omega) (by simp; omega), h.bJ, h.bR, h.bP, h.bA, h.PJ, ?_, ?_, ?_, ?_, ?_, h.eb⟩
  · rw [← h.c0]; simp [upd]; omega
  · rw [← e1]; simp only [upd]; by_cases e : i = 1
    · rw [if_pos e.symm, if_pos e]
    · rw [if_neg (fun e2 => e e2.symm), if_neg e]
  · rw [← e7]; simp only [upd]; by_cases e : i = 7
    · rw [if_pos e.symm, if_pos e]
    · rw [if_neg (fun e2 => e e2.symm), if_neg e]
  · rw [← h.c8]; simp [upd]; omega
  · rw [hcc]; exact hk.owns h.own (fun g e => ⟨(h.own.lt g e).2, by have := h.m g e; simp; omega⟩)
  · intro b e; rw [hcc]; have := h.bb b e; simpa [World.setCell] using this
  · intro g e; rw [hcc] at e; exact h.m g e
  · simpa [World.setCell] using h.Jl
  · simpa [World.setCell] using h.Rl
  · obtain ⟨a, ha⟩ := h.eof
    have := h.eb; have := h.bP; have := h.bs
    exact ⟨a, (hk.cell (p := ⟨7, 0, none⟩) (by show 7 < _; omega) (by show 7 ∉ _; simp; omega)).trans ha⟩
/-- The modes have grown. -/
theorem PS.push {base P J R : Nat} {ad : Addr} {l : List Int} {lc : Nat} {bf : Option Nat} {rest : List Int} {s dep : Int} {xs ys : List Int} {c : Nat → Value} {w w1 : World} {v : Value} (h : PS base P J R ad l lc bf rest s dep xs c w) (ho : OwnM w1 base v ys) (hg : w.grownBy w1 (c 2).ownBlock) (ha : v.ownBlock = (c 2).ownBlock ∨ ∃ b, v.ownBlock = some b ∧ w.heap.size ≤ b) :
    PS base P J R ad l lc bf rest s dep ys (upd c 2 v) (w1.setCell ⟨P, 2, none⟩ v) := by
  have hol : ∀ g, (c 2).ownBlock = some g → base ≤ g ∧ g < w.heap.size := fun g e => h.own.lt g e
  have hk1 : Keeps w.heap.size (c 2).ownBlock.toList w w1 := ⟨hg.os, hg.tape, hg.output, hg.size, fun k hk hn => hg.block k hk (fun e => hn (by rw [← e]; simp))⟩
  have hPS : ∀ x, x ∈ (c 2).ownBlock.toList → (c 2).ownBlock = some x := fun x hx => by
    cases hc : (c 2).ownBlock with
    | none => rw [hc] at hx; simp at hx
    | some g => rw [hc] at hx; simp at hx; rw [hx]
  have hPJ := h.PJ
  have nP : P ∉ (c 2).ownBlock.toList := fun hx => by have := h.m P (hPS P hx); omega
  have nJ : J ∉ (c 2).ownBlock.toList := fun hx => by have := h.m J (hPS J hx); omega
  have nR : R ∉ (c 2).ownBlock.toList := fun hx => by have := h.m R (hPS R hx); omega
  have nA : ad.block ∉ (c 2).ownBlock.toList := fun hx => by have := h.m _ (hPS _ hx); omega
  have nb : ∀ b, bf = some b → b ∉ (c 2).ownBlock.toList := fun b e hx => (h.bb b e).2.2.1 (hPS b hx)
  have hp1 : Par P c w1 := h.par.keeps hk1 h.par.lt nP
  have hj1 : JsR J R ad l lc bf rest w1 := h.js.kept2 hk1 nJ nR nb nA
  have hA : ad.block < w.heap.size := by
    obtain ⟨bs, pos, i, hj, hr⟩ := h.js.out
    exact Nat.lt_trans hj.adJ hj.lt
  have hv : ∀ g, v.ownBlock = some g → g ≠ J ∧ g ≠ R ∧ g ≠ P ∧ g ≠ ad.block ∧ (∀ b, bf = some b → g ≠ b) := by
    intro g e
    rcases ha with ha | ⟨g2, e2, hle⟩
    · rw [ha] at e
      have := h.m g e
      exact ⟨this.1, this.2.1, this.2.2.1, this.2.2.2, fun b eb e3 => (h.bb b eb).2.2.1 (e3 ▸ e)⟩
    · rw [e2] at e
      injection e with e
      subst e
      have := h.Jl; have := h.Rl; have := h.par.lt
      exact ⟨by omega, by omega, by omega, by omega, fun b eb => by have := (h.bb b eb).2.2.2; omega⟩
  have hk2 : Keeps w1.heap.size [P] w1 (w1.setCell ⟨P, 2, none⟩ v) := (Keeps.refl _ _ _).setCell (Or.inl (by simp)) _
  have hsz := hg.size
  refine ⟨hp1.set 2 (by omega) v, ?_, ?_, ?_, ?_, ?_, hj1.kept2 hk2 (by simp; omega) (by simp; omega) (fun b e => by have := h.bb b e; simp; omega) (by simp; omega), h.bJ, h.bR, h.bP, h.bA, h.PJ, ?_, ?_, ?_, ?_, ?_, h.eb⟩
  · rw [← h.c0]; simp [upd]
  · rw [← h.c1]; simp [upd]
  · rw [← h.c7]; simp [upd]
  · rw [← h.c8]; simp [upd]
  · rw [show upd c 2 v 2 = v by simp [upd]]
    exact hk2.owns ho (fun g e => ⟨(ho.lt g e).2, by have := hv g e; simp; omega⟩)
  · intro b e
    rw [show upd c 2 v 2 = v by simp [upd]]
    have := h.bb b e
    exact ⟨this.1, this.2.1, fun e2 => (hv b e2).2.2.2.2 b e rfl, by simp [World.setCell]; omega⟩
  · intro g e
    rw [show upd c 2 v 2 = v by simp [upd]] at e
    have := hv g e
    exact ⟨this.1, this.2.1, this.2.2.1, this.2.2.2.1⟩
  · have := h.Jl; simp [World.setCell]; omega
  · have := h.Rl; simp [World.setCell]; omega
  · obtain ⟨a, ha2⟩ := h.eof
    have := h.eb; have := h.bP; have := h.bs
    have e1 := (hk1.cell (p := ⟨7, 0, none⟩) (by show 7 < _; omega) (by show 7 ∉ _; exact fun hx => by have := (hol _ (hPS _ hx)).1; omega)).trans ha2
    exact ⟨a, (hk2.cell (p := ⟨7, 0, none⟩) (by show 7 < _; omega) (by show 7 ∉ _; simp; omega)).trans e1⟩
/-- A new block. -/
theorem PS.alloc {base P J R : Nat} {ad : Addr} {l : List Int} {lc : Nat} {bf : Option Nat} {rest : List Int} {s dep : Int} {xs : List Int} {c : Nat → Value} {w w' : World} (h : PS base P J R ad l lc bf rest s dep xs c w) (hb : Below w.heap.size w w') : PS base P J R ad l lc bf rest s dep xs c w' := by
  have hk : Keeps w.heap.size [] w w' := Keeps.ofBelow hb
  have hsz := hb.size
  refine ⟨h.par.keeps hk h.par.lt (by simp), h.c0, h.c1, h.c7, h.c8, hk.owns h.own (fun g e => ⟨(h.own.lt g e).2, by simp⟩), h.js.kept2 hk (by simp) (by simp) (by simp) (by simp), h.bJ, h.bR, h.bP, h.bA, h.PJ, fun b e => by have := h.bb b e; exact ⟨this.1, this.2.1, this.2.2.1, by omega⟩, h.m, Nat.lt_of_lt_of_le h.Jl hsz, Nat.lt_of_lt_of_le h.Rl hsz, ?_, h.eb⟩
  obtain ⟨a, ha⟩ := h.eof
  have := h.eb; have := h.bs
  exact ⟨a, (hk.cell (p := ⟨7, 0, none⟩) (by show 7 < _; omega) (by simp)).trans ha⟩
end
end Go.Proofs.YtlgmlfhalgnppaaGreatDoor
/-! bson.extJSONParser.advanceState on four roads. -/
set_option linter.unusedSimpArgs false
set_option linter.unusedVariables false
namespace Go.Proofs.YtlgmlfhalgnppaaGreatDoor
open Go.RowKit
section
open Go.Proofs.YtlgmlfhalgnppaaGreatDoorW.PrintWords hiding bt bt_at bt_range
variable {P : Program} {ops : Array Oper} {rest : List Oper} {o : Oper} {a : Act} {Q : Exit → Act → World → Prop}
theorem append_mode {W : World} (base : Nat) (hgd : o.guard = none) (s x : Operand)
    (ho : o.op = .call { callee := .builtin .append, args := #[s, x], argTypes := #[128, 128] })
    (v : Value) (xs : List Int) (y : Int) (hs : a.eval s = v) (hx : a.eval x = .slice (some ⟨W.heap.size, 0, none⟩) 1 1)
    (HO : OwnM W base v xs) (hbase : base ≤ W.heap.size) (hl : xs.length ≤ 100000)
    (h : ∀ v1 w1, OwnM w1 base v1 (xs ++ [y]) → Below base W w1 → W.grownBy w1 v.ownBlock → (v1.ownBlock = v.ownBlock ∨ ∃ b, v1.ownBlock = some b ∧ W.heap.size ≤ b) → wpList Tryz.prog ops Q rest (a.put o.dst v1) w1) :
    wpList Tryz.prog ops Q (o :: rest) a (W.alloc (.cells #[.int .u8 y] 134)) := by
  have hr : ReadsInt (W.alloc (.cells #[.int .u8 y] 134)) .u8 (some ⟨W.heap.size, 0, none⟩) 1 [y] := by
    obtain ⟨A, c, he, hr⟩ := own_reads (own_lit W 0 134 .u8 [y] (Nat.zero_le _) (by simp))
    injection he with h1
    subst h1
    exact hr
  refine print_append_row (w0 := W) base hgd s x 128 134 .u8 1 ho Tryz.underlying128 info_mode (by decide) v xs [y] _ _ _ hs hx (HO.alloc _) hr ((Below.refl _ _).alloc hbase _) (by simp; omega) (by omega) ?_
  intro v1 w1 hown hb hg hat
  refine h v1 w1 hown hb (World.grownBy.trans (World.grownBy_alloc W _ _) hg) ?_
  rcases hat with hat | ⟨b, hb1, hb2⟩
  · exact .inl hat
  · exact .inr ⟨b, hb1, by simp at hb2; omega⟩
end
open Go.Proofs.YtlgmlfhalgnppaaGreatDoorW.PrintWords hiding bt bt_at bt_range
theorem pushMode_calls (mode : Int) {base P J R : Nat} {ad : Addr} {l : List Int} {lc : Nat} {bf : Option Nat} {rest : List Int} {s dep : Int} {xs : List Int} {c : Nat → Value} {w : World} (h : PS base P J R ad l lc bf rest s dep xs c w) (hx : xs.length ≤ 1000) :
    Calls Tryz.prog 99 #[.pointer (some ⟨P, 0, none⟩), .int .u8 mode] w fun e w' => e = .returned (.tuple #[]) ∧ Below base w w' ∧ ∃ c', PS base P J R ad l lc bf rest s dep (xs ++ [mode]) c' w' := by
  have p2 := h.par.cell 2 (by omega)
  have HP := Lib.hid h
  obtain ⟨mv, hmv⟩ : ∃ mv, mv = c 2 := ⟨_, rfl⟩
  rw [← hmv] at p2
  have HM := Lib.hid hmv
  clear h hmv
  go_enter Tryz.func99, Tryz.ntmps99
  go_wp2_with (at_builtin; refine append_mode base rfl (.tmp 8) (.tmp 10) rfl _ xs mode rfl rfl (HM.out ▸ HP.out.own) HP.out.bs (by omega) ?_; intro v1 w1 n0 n1 n2 n3; obtain ⟨A1, c1, hv1, hr1⟩ := own_reads n0; subst hv1; clear hr1; have N0 := Lib.hid n0; have N1 := Lib.hid n1; have N2 := Lib.hid n2; have N3 := Lib.hid n3; clear n0 n1 n2 n3; have q2 := (World.cell?_of_block (w := w) (w' := w1) (a := ⟨P, 2, none⟩) (N2.out.block P HP.out.par.lt (fun e => (HP.out.m P (HM.out ▸ e.symm)).2.2.1 rfl))).trans p2; have qf := fun o => (World.frozen?_of_block (w := w) (w' := w1) (a := ⟨P, o, none⟩) (N2.out.block P HP.out.par.lt (fun e => (HP.out.m P (HM.out ▸ e.symm)).2.2.1 rfl))).trans (HP.out.par.fr o))
  have hps := HP.out.push N0.out (HM.out ▸ N2.out) (HM.out ▸ N3.out)
  rw [show (xs ++ [mode]).length = xs.length + 1 by simp] at hps
  exact Great.bodyPost_end0 (by rfl) rfl ⟨rfl, N1.out.setCell HP.out.bP _, _, hps⟩
theorem popMode_calls {base P J R : Nat} {ad : Addr} {l : List Int} {lc : Nat} {bf : Option Nat} {rest : List Int} {s dep x : Int} {c : Nat → Value} {w : World} (h : PS base P J R ad l lc bf rest s dep [x] c w) :
    Calls Tryz.prog 101 #[.pointer (some ⟨P, 0, none⟩)] w fun e w' => e = .returned (.int .u8 x) ∧ Below base w w' ∧ ∃ c', PS base P J R ad l lc bf rest s dep [] c' w' := by
  have p2 := h.par.cell 2 (by omega)
  have pf := h.par.fr
  have HP := Lib.hid h
  have ho := h.own
  rcases ho.2 with ⟨_, hn⟩ | ⟨g, cap, cur, hv, hbg, hheap, hnc, hcm, hsz, htk⟩
  · cases hn
  have ho0 : OwnM w base (.slice (some ⟨g, 0, none⟩) 0 cap) [] := ⟨by simp [nums], .inr ⟨g, cap, cur, rfl, hbg, hheap, Nat.zero_le _, hcm, hsz, by simp [nums]⟩⟩
  have hat := own_at (hv ▸ ho) 0 (by omega) (by simp)
  have hc0 : w.cell? ⟨g, 0, none⟩ = some (.int .u8 x) := hat.1
  rw [hv] at p2
  have hcap : cap ≤ 9223372036854775807 := by simpa [maxLen] using hcm
  have hcap1 : 1 ≤ cap := hnc
  have H0 := Lib.hid ho0
  have HV := Lib.hid hv
  clear h ho hheap htk ho0 hat hv hnc hcm hsz hbg
  go_enter Tryz.func101, Tryz.ntmps101
  go_wp2_with fail
  go_ret
  have hps := HP.out.push H0.out (World.grownBy.refl w _) (.inl (by rw [HV.out]; rfl))
  exact ⟨rfl, (Below.refl _ _).setCell HP.out.bP _, _, hps⟩
theorem jpsValid_calls (s t : Int) (h : s = 0 ∧ (t = 0 ∨ t = 2 ∨ t = 9) ∨ s = 1 ∧ (t = 1 ∨ t = 9)) (w : World) :
    Calls Tryz.prog 142 #[.int .u8 s, .int .u8 t] w fun e w' => e = .returned (.bool true) ∧ w' = w := by
  rcases h with ⟨rfl, rfl | rfl | rfl⟩ | ⟨rfl, rfl | rfl⟩ <;> (go_enter Tryz.func142, Tryz.ntmps142; go_wp2; go_ret; exact ⟨rfl, rfl⟩)
theorem validate_calls (P : Nat) (s t : Int) (h : s = 0 ∧ (t = 0 ∨ t = 2 ∨ t = 9) ∨ s = 1 ∧ (t = 1 ∨ t = 9)) (w : World) (p1 : w.cell? ⟨P, 1, none⟩ = some (.int .u8 s)) :
    Calls Tryz.prog 97 #[.pointer (some ⟨P, 0, none⟩), .int .u8 t] w fun e w' => e = .returned (.bool true) ∧ w' = w := by
  have HJ := Lib.hid (jpsValid_calls s t h w)
  have hs : s = 0 ∨ s = 1 := by omega
  clear h
  rcases hs with rfl | rfl <;> (go_enter Tryz.func97, Tryz.ntmps97; go_wp2_with fail; refine HJ.out.mono ?_; rintro e w' ⟨rfl, rfl⟩; go_wp2; go_ret; exact ⟨rfl, rfl⟩)
theorem extend_calls (T : Nat) (u : ByteArray) (w : World) (t0 : w.cell? ⟨T, 0, none⟩ = some (.int .u8 9)) (t1 : w.cell? ⟨T, 1, none⟩ = some (.iface 9 (.string u))) :
    Calls Tryz.prog 102 #[.pointer (some ⟨T, 0, none⟩)] w fun e w' => e = .returned (.pointer (some ⟨w.heap.size, 0, none⟩)) ∧ w' = w.alloc (.cells #[.int .u8 2, .iface 9 (.string u)] 133) := by
  go_enter Tryz.func102, Tryz.ntmps102
  go_wp2_with fail
  go_ret
  exact ⟨rfl, rfl⟩
end Go.Proofs.YtlgmlfhalgnppaaGreatDoor
/-! bson.extJSONParser.advanceState on five roads. -/
set_option linter.unusedSimpArgs false
set_option linter.unusedVariables false
namespace Go.Proofs.YtlgmlfhalgnppaaGreatDoor
open Go.RowKit
open Go.Proofs.YtlgmlfhalgnppaaGreatDoorW.PrintWords hiding bt bt_at bt_range
theorem assert_string (u : ByteArray) (W : World) : (Instr.typeAssert (.iface 9 (.string u)) 20 9 false).run Tryz.prog W = .ok (.string u) W := by kernel_rfl
set_option maxRecDepth 100000 in
set_option maxHeartbeats 4000000 in
theorem advance_brace (g rest : List Int) (hg : Bl g) {base P J R : Nat} {ad : Addr} {l : List Int} {lc : Nat} {bf : Option Nat} {c : Nat → Value} {w : World} (h : PS base P J R ad l lc bf (g ++ 123 :: rest) 0 0 [] c w) :
    Calls Tryz.prog 77 #[.pointer (some ⟨P, 0, none⟩)] w fun e w' => e = .returned (.tuple #[]) ∧ Below base w w' ∧ ∃ b c', PS base P J R ad l lc (some b) rest 1 1 [1] c' w' := by
  have p0 := h.par.cell 0 (by omega)
  rw [h.c0] at p0
  have p1 := h.par.cell 1 (by omega)
  rw [h.c1] at p1
  have HP := Lib.hid h
  clear h
  go_enter Tryz.func77, Tryz.ntmps77
  go_wp2_with fail
  refine (nextToken_brace g rest hg J R bf ad l lc _ HP.out.js HP.out.eof HP.out.jeof.1 HP.out.jeof.2.1 HP.out.jeof.2.2 HP.out.Jl).mono ?_
  rintro e w1 h1
  obtain ⟨T, v, p, rfl, t1, t2, t3, t4, t5⟩ := h1.out
  obtain ⟨b, hp1⟩ := HP.out.scan h1.scan
  have HB1 := Lib.hid (HP.out.below h1.scan)
  clear p0 p1
  have p1 := hp1.par.cell 1 (by omega)
  rw [hp1.c1] at p1
  have pf := hp1.par.fr
  have PT : P ≠ T := by have := HP.out.par.lt; omega
  have HT := Lib.hid (And.intro t1 t2)
  have HPT := Lib.hid PT
  have HP1 := Lib.hid hp1
  clear h1 hp1 t1 t2 PT
  go_wp2_with fail
  refine (validate_calls P 0 0 (Or.inl ⟨rfl, Or.inl rfl⟩) _ p1).mono ?_
  rintro e w2 ⟨rfl, rfl⟩
  go_wp2_with fail
  have hp2 := HP1.out.put 1 (by omega) (by omega) (by omega) (by omega) (.int .u8 1) 1 0 rfl (by rw [if_neg (by omega)]; exact HP1.out.c7)
  refine (pushMode_calls 1 hp2 (by simp)).mono ?_
  rintro e w3 ⟨rfl, hb3, c3, hp3⟩
  have HB3 : Hid (Below base w w3) := (HB1.out.setCell HP.out.bP _).trans hb3
  have r7 := hp3.par.cell 7 (by omega)
  rw [hp3.c7] at r7
  have r8 := hp3.par.cell 8 (by omega)
  rw [hp3.c8] at r8
  have rf := hp3.par.fr
  have HP3 := Lib.hid hp3
  clear hp2 hp3 hb3 p1 pf t3 t4 t5
  go_wp2_with fail
  go_quiet (fail)
  go_wp2_with fail
  have hp4 := HP3.out.put 7 (by omega) (by omega) (by omega) (by omega) (.int .i64 1) 1 1 (by rw [if_neg (by omega)]; exact HP3.out.c1) rfl
  exact Great.bodyPost_end0 (by rfl) rfl ⟨rfl, (HB3.out.setCell HP.out.bP _).trans (pw_below_drewN (Below.refl _ _) _), b, _, hp4.alloc (pw_below_drewN (Below.refl _ _) _)⟩
set_option maxRecDepth 100000 in
set_option maxHeartbeats 4000000 in
theorem advance_bracket (g rest : List Int) (hg : Bl g) {base P J R : Nat} {ad : Addr} {l : List Int} {lc : Nat} {bf : Option Nat} {c : Nat → Value} {w : World} (h : PS base P J R ad l lc bf (g ++ 91 :: rest) 0 0 [] c w) :
    Calls Tryz.prog 77 #[.pointer (some ⟨P, 0, none⟩)] w fun e w' => e = .returned (.tuple #[]) ∧ Below base w w' ∧ ∃ b c', PS base P J R ad l lc (some b) rest 3 0 [2] c' w' := by
  have p0 := h.par.cell 0 (by omega)
  rw [h.c0] at p0
  have p1 := h.par.cell 1 (by omega)
  rw [h.c1] at p1
  have HP := Lib.hid h
  clear h
  go_enter Tryz.func77, Tryz.ntmps77
  go_wp2_with fail
  refine (nextToken_bracket g rest hg J R bf ad l lc _ HP.out.js HP.out.eof HP.out.jeof.1 HP.out.jeof.2.1 HP.out.jeof.2.2 HP.out.Jl).mono ?_
  rintro e w1 h1
  obtain ⟨T, v, p, rfl, t1, t2, t3, t4, t5⟩ := h1.out
  obtain ⟨b, hp1⟩ := HP.out.scan h1.scan
  have HB1 := Lib.hid (HP.out.below h1.scan)
  clear p0 p1
  have p1 := hp1.par.cell 1 (by omega)
  rw [hp1.c1] at p1
  have pf := hp1.par.fr
  have PT : P ≠ T := by have := HP.out.par.lt; omega
  have HT := Lib.hid (And.intro t1 t2)
  have HPT := Lib.hid PT
  have HP1 := Lib.hid hp1
  clear h1 hp1 t1 t2 PT
  go_wp2_with fail
  refine (validate_calls P 0 2 (Or.inl ⟨rfl, Or.inr (Or.inl rfl)⟩) _ p1).mono ?_
  rintro e w2 ⟨rfl, rfl⟩
  go_wp2_with fail
  have hp2 := HP1.out.put 1 (by omega) (by omega) (by omega) (by omega) (.int .u8 3) 3 0 rfl (by rw [if_neg (by omega)]; exact HP1.out.c7)
  refine (pushMode_calls 2 hp2 (by simp)).mono ?_
  rintro e w3 ⟨rfl, hb3, c3, hp3⟩
  have HB3 : Hid (Below base w w3) := (HB1.out.setCell HP.out.bP _).trans hb3
  have HP3 := Lib.hid hp3
  clear hp2 hp3 hb3 p1 pf t3 t4 t5
  go_wp2_with fail
  exact Great.bodyPost_end0 (by rfl) rfl ⟨rfl, HB3.out, b, c3, HP3.out⟩
set_option maxRecDepth 100000 in
set_option maxHeartbeats 4000000 in
theorem advance_close (g rest : List Int) (hg : Bl g) {base P J R : Nat} {ad : Addr} {l : List Int} {lc : Nat} {bf : Option Nat} {c : Nat → Value} {w : World} (h : PS base P J R ad l lc bf (g ++ 125 :: rest) 1 1 [1] c w) :
    Calls Tryz.prog 77 #[.pointer (some ⟨P, 0, none⟩)] w fun e w' => e = .returned (.tuple #[]) ∧ Below base w w' ∧ ∃ b c', PS base P J R ad l lc (some b) rest 2 0 [] c' w' := by
  have p0 := h.par.cell 0 (by omega)
  rw [h.c0] at p0
  have p1 := h.par.cell 1 (by omega)
  rw [h.c1] at p1
  have HP := Lib.hid h
  clear h
  go_enter Tryz.func77, Tryz.ntmps77
  go_wp2_with fail
  refine (nextToken_close g rest hg J R bf ad l lc _ HP.out.js HP.out.eof HP.out.jeof.1 HP.out.jeof.2.1 HP.out.jeof.2.2 HP.out.Jl).mono ?_
  rintro e w1 h1
  obtain ⟨T, v, p, rfl, t1, t2, t3, t4, t5⟩ := h1.out
  obtain ⟨b, hp1⟩ := HP.out.scan h1.scan
  have HB1 := Lib.hid (HP.out.below h1.scan)
  clear p0 p1
  have p1 := hp1.par.cell 1 (by omega)
  rw [hp1.c1] at p1
  have pf := hp1.par.fr
  have PT : P ≠ T := by have := HP.out.par.lt; omega
  have HT := Lib.hid (And.intro t1 t2)
  have HPT := Lib.hid PT
  have HP1 := Lib.hid hp1
  clear h1 hp1 t1 t2 PT
  go_wp2_with fail
  refine (validate_calls P 1 1 (Or.inr ⟨rfl, Or.inl rfl⟩) _ p1).mono ?_
  rintro e w2 ⟨rfl, rfl⟩
  have p7 := HP1.out.par.cell 7 (by omega)
  rw [HP1.out.c7] at p7
  go_wp2_with fail
  have hp2 := HP1.out.put 1 (by omega) (by omega) (by omega) (by omega) (.int .u8 2) 2 1 rfl (by rw [if_neg (by omega)]; exact HP1.out.c7)
  have hp3 := hp2.put 7 (by omega) (by omega) (by omega) (by omega) (.int .i64 0) 2 0 (by rw [if_neg (by omega)]; exact hp2.c1) rfl
  refine (popMode_calls hp3).mono ?_
  rintro e w3 ⟨rfl, hb3, c3, hp4⟩
  have HB3 : Hid (Below base w w3) := ((HB1.out.setCell HP.out.bP _).setCell HP.out.bP _).trans hb3
  have HP3 := Lib.hid hp4
  clear hp2 hp3 hb3 hp4 p1 p7 pf t3 t4 t5
  go_wp2_with fail
  exact Great.bodyPost_end0 (by rfl) rfl ⟨rfl, HB3.out, b, c3, HP3.out⟩
set_option maxRecDepth 100000 in
set_option maxHeartbeats 4000000 in
theorem advance_string (g body rest : List Int) (hg : Bl g) (hB : JB body) (hlen : body.length ≤ 1000000000) {base P J R : Nat} {ad : Addr} {l : List Int} {lc : Nat} {bf : Option Nat} {c : Nat → Value} {w : World} (h : PS base P J R ad l lc bf (g ++ 34 :: (body ++ 34 :: rest)) 0 0 [] c w) :
    Calls Tryz.prog 77 #[.pointer (some ⟨P, 0, none⟩)] w fun e w' => e = .returned (.tuple #[]) ∧ Below base w w' ∧ ∃ b c', PS base P J R ad l lc (some b) rest 8 0 [] c' w' ∧ ∃ V, c' 4 = .pointer (some ⟨V, 0, none⟩) ∧ w'.cell? ⟨V, 0, none⟩ = some (.int .u8 2) := by
  have p0 := h.par.cell 0 (by omega)
  rw [h.c0] at p0
  have p1 := h.par.cell 1 (by omega)
  rw [h.c1] at p1
  have HP := Lib.hid h
  clear h
  go_enter Tryz.func77, Tryz.ntmps77
  go_wp2_with fail
  refine (nextToken_string g (body ++ 34 :: rest) hg J R bf ad l lc _ HP.out.js HP.out.eof HP.out.jeof.1 HP.out.jeof.2.1 HP.out.jeof.2.2 HP.out.Jl rest (fun b W hj he hs hbf => scanString_calls body rest hB hlen J R b ad l lc W hj)).mono ?_
  rintro e w1 h1
  obtain ⟨T, u, p, rfl, t1, t2, t3, t4, t5⟩ := h1.out
  obtain ⟨b, hp1⟩ := HP.out.scan h1.scan
  have HB1 := Lib.hid (HP.out.below h1.scan)
  clear p0 p1
  have p1 := hp1.par.cell 1 (by omega)
  rw [hp1.c1] at p1
  have pf := hp1.par.fr
  have PT : P ≠ T := by have := HP.out.par.lt; omega
  have HT := Lib.hid (And.intro t1 t2)
  have HPT := Lib.hid PT
  have HP1 := Lib.hid hp1
  clear h1 hp1 t1 t2 PT
  go_wp2_with fail
  refine (validate_calls P 0 9 (Or.inl ⟨rfl, Or.inr (Or.inr rfl)⟩) _ p1).mono ?_
  rintro e w2 ⟨rfl, rfl⟩
  go_wp2_with fail
  have hp2 := HP1.out.put 1 (by omega) (by omega) (by omega) (by omega) (.int .u8 8) 8 0 rfl (by rw [if_neg (by omega)]; exact HP1.out.c7)
  have s0 : (w2.setCell ⟨P, 1, none⟩ (.int .u8 8)).cell? ⟨T, 0, none⟩ = some (.int .u8 9) := (World.cell?_setCell_other _ _ _ _ (by intro e; injection e with e; exact HPT.out e)).trans t3
  have s1 : (w2.setCell ⟨P, 1, none⟩ (.int .u8 8)).cell? ⟨T, 1, none⟩ = some (.iface 9 (.string u)) := (World.cell?_setCell_other _ _ _ _ (by intro e; injection e with e; exact HPT.out e)).trans t4
  refine (extend_calls T _ _ s0 s1).mono ?_
  rintro e w3 ⟨rfl, rfl⟩
  have hp3 := hp2.alloc ((Below.refl _ _).alloc (Nat.le_refl _) (.cells #[.int .u8 2, .iface 9 (.string u)] 133))
  have r4 := hp3.par.cell 4 (by omega)
  have rf := hp3.par.fr
  have HP3 := Lib.hid hp3
  clear hp2 hp3 p1 pf t3 t4 t5 s0 s1
  go_wp2_with fail
  have hp4 := HP3.out.put 4 (by omega) (by omega) (by omega) (by omega) (.pointer (some ⟨w2.heap.size, 0, none⟩)) 8 0 (by rw [if_neg (by omega)]; exact HP3.out.c1) (by rw [if_neg (by omega)]; exact HP3.out.c7)
  have hlt := HP1.out.par.lt
  refine Great.bodyPost_end0 (by rfl) rfl ⟨rfl, ((HB1.out.setCell HP.out.bP _).alloc (by have := HP1.out.bs; simpa [World.setCell] using this) _).setCell HP.out.bP _, b, _, hp4, w2.heap.size, by simp [upd], ?_⟩
  have hsz : (w2.setCell ⟨P, 1, none⟩ (.int .u8 8)).heap.size = w2.heap.size := by simp [World.setCell]
  rw [World.cell?_setCell_other _ _ _ _ (by intro e; injection e with e; omega), ← hsz, World.cell?_alloc_new]
  rfl
set_option maxRecDepth 100000 in
set_option maxHeartbeats 4000000 in
theorem advance_key (g body rest : List Int) (hg : Bl g) (hB : JB body) (hlen : body.length ≤ 1000000000) {base P J R : Nat} {ad : Addr} {l : List Int} {lc : Nat} {bf : Option Nat} {c : Nat → Value} {w : World} (h : PS base P J R ad l lc bf (g ++ 34 :: (body ++ 34 :: rest)) 1 1 [1] c w) :
    Calls Tryz.prog 77 #[.pointer (some ⟨P, 0, none⟩)] w fun e w' => e = .returned (.tuple #[]) ∧ Below base w w' ∧ ∃ b c', PS base P J R ad l lc (some b) rest 7 1 [1] c' w' := by
  have p0 := h.par.cell 0 (by omega)
  rw [h.c0] at p0
  have p1 := h.par.cell 1 (by omega)
  rw [h.c1] at p1
  have HP := Lib.hid h
  clear h
  go_enter Tryz.func77, Tryz.ntmps77
  go_wp2_with fail
  refine (nextToken_string g (body ++ 34 :: rest) hg J R bf ad l lc _ HP.out.js HP.out.eof HP.out.jeof.1 HP.out.jeof.2.1 HP.out.jeof.2.2 HP.out.Jl rest (fun b W hj he hs hbf => scanString_calls body rest hB hlen J R b ad l lc W hj)).mono ?_
  rintro e w1 h1
  obtain ⟨T, u, p, rfl, t1, t2, t3, t4, t5⟩ := h1.out
  obtain ⟨b, hp1⟩ := HP.out.scan h1.scan
  have HB1 := Lib.hid (HP.out.below h1.scan)
  clear p0 p1
  have p1 := hp1.par.cell 1 (by omega)
  rw [hp1.c1] at p1
  have pf := hp1.par.fr
  have PT : P ≠ T := by have := HP.out.par.lt; omega
  have HT := Lib.hid (And.intro t1 t2)
  have HPT := Lib.hid PT
  have HP1 := Lib.hid hp1
  clear h1 hp1 t1 t2 PT
  go_wp2_with fail
  refine (validate_calls P 1 9 (Or.inr ⟨rfl, Or.inr rfl⟩) _ p1).mono ?_
  rintro e w2 ⟨rfl, rfl⟩
  have p3 := HP1.out.par.cell 3 (by omega)
  have hta := assert_string u
  have s1 : (w2.setCell ⟨P, 1, none⟩ (.int .u8 7)).cell? ⟨T, 1, none⟩ = some (.iface 9 (.string u)) := (World.cell?_setCell_other _ _ _ _ (by intro e; injection e with e; exact HPT.out e)).trans t4
  go_wp2_with fail
  refine bodyPost_ret (results_none rfl _ _ _) rfl ?_
  have hp2 := HP1.out.put 1 (by omega) (by omega) (by omega) (by omega) (.int .u8 7) 7 1 rfl (by rw [if_neg (by omega)]; exact HP1.out.c7)
  have hp3 := hp2.put 3 (by omega) (by omega) (by omega) (by omega) (.string u) 7 1 (by rw [if_neg (by omega)]; exact hp2.c1) (by rw [if_neg (by omega)]; exact hp2.c7)
  exact ⟨rfl, (HB1.out.setCell HP.out.bP _).setCell HP.out.bP _, b, _, hp3⟩
end Go.Proofs.YtlgmlfhalgnppaaGreatDoor
/-! bson.extJSONParser.peekType, bson.extJSONValueReader.reset, impl.ExtKind. -/
set_option linter.unusedSimpArgs false
set_option linter.unusedVariables false
namespace Go.Proofs.YtlgmlfhalgnppaaGreatDoor
open Go.RowKit
open Go.Proofs.YtlgmlfhalgnppaaGreatDoorW.PrintWords hiding bt bt_at bt_range
/-- Bytes that begin with a value of JSON: a document, an array, a string. -/
inductive Kd : List Int → Int → Prop
  | doc (g1 g2 body rest : List Int) : Bl g1 → Bl g2 → JB body → Kd (g1 ++ 123 :: (g2 ++ 34 :: (body ++ 34 :: rest))) 3
  | emp (g1 g2 rest : List Int) : Bl g1 → Bl g2 → Kd (g1 ++ 123 :: (g2 ++ 125 :: rest)) 3
  | arr (g rest : List Int) : Bl g → Kd (g ++ 91 :: rest) 4
  | str (g body rest : List Int) : Bl g → JB body → Kd (g ++ 34 :: (body ++ 34 :: rest)) 2
set_option maxRecDepth 100000 in
set_option maxHeartbeats 4000000 in
theorem peek_calls {l0 : List Int} {k : Int} (hk : Kd l0 k) (hl : l0.length ≤ 1000000000) {base P J R : Nat} {ad : Addr} {l : List Int} {lc : Nat} {bf : Option Nat} {c : Nat → Value} {w : World} (h : PS base P J R ad l lc bf l0 0 0 [] c w) :
    Calls Tryz.prog 68 #[.pointer (some ⟨P, 0, none⟩)] w fun e w' => e = .returned (.tuple #[.int .u8 k, .nilIface]) ∧ Below base w w' := by
  have p1 := h.par.cell 1 (by omega)
  rw [h.c1] at p1
  cases hk with
  | doc g1 g2 body rest b1 b2 b3 =>
    have hlb : body.length ≤ 1000000000 := by simp at hl; omega
    have HA := Lib.hid (advance_brace g1 _ b1 h)
    have HX := Lib.hid (And.intro b2 (And.intro b3 hlb))
    clear h hl b1 b2 b3 hlb
    go_enter Tryz.func68, Tryz.ntmps68
    go_wp2_with fail
    refine HA.out.mono ?_
    rintro e w1 ⟨rfl, hb1, b, c1, hp1⟩
    have q1 := hp1.par.cell 1 (by omega)
    rw [hp1.c1] at q1
    have HB := Lib.hid hb1
    have HA2 := Lib.hid (advance_key g2 body rest HX.out.1 HX.out.2.1 HX.out.2.2 hp1)
    clear hp1 hb1 p1
    go_wp2_with fail
    refine HA2.out.mono ?_
    rintro e w2 ⟨rfl, hb2, b', c2, hp2⟩
    have q2 := hp2.par.cell 1 (by omega)
    rw [hp2.c1] at q2
    have HB2 := Lib.hid (HB.out.trans hb2)
    clear hp2 hb2 q1
    go_wp2_with fail
    go_ret2
    exact ⟨rfl, HB2.out⟩
  | emp g1 g2 rest b1 b2 =>
    have HA := Lib.hid (advance_brace g1 _ b1 h)
    have HX := Lib.hid b2
    clear h hl b1 b2
    go_enter Tryz.func68, Tryz.ntmps68
    go_wp2_with fail
    refine HA.out.mono ?_
    rintro e w1 ⟨rfl, hb1, b, c1, hp1⟩
    have q1 := hp1.par.cell 1 (by omega)
    rw [hp1.c1] at q1
    have HB := Lib.hid hb1
    have HA2 := Lib.hid (advance_close g2 rest HX.out hp1)
    clear hp1 hb1 p1
    go_wp2_with fail
    refine HA2.out.mono ?_
    rintro e w2 ⟨rfl, hb2, b', c2, hp2⟩
    have q2 := hp2.par.cell 1 (by omega)
    rw [hp2.c1] at q2
    have q9 := hp2.par.cell 9 (by omega)
    have qf := hp2.par.fr
    have HBP := Lib.hid hp2.bP
    have HB2 := Lib.hid (HB.out.trans hb2)
    clear hp2 hb2 q1
    go_wp2_with fail
    go_ret2
    exact ⟨rfl, HB2.out.setCell HBP.out _⟩
  | arr g rest b1 =>
    have HA := Lib.hid (advance_bracket g _ b1 h)
    clear h hl b1
    go_enter Tryz.func68, Tryz.ntmps68
    go_wp2_with fail
    refine HA.out.mono ?_
    rintro e w1 ⟨rfl, hb1, b, c1, hp1⟩
    have q1 := hp1.par.cell 1 (by omega)
    rw [hp1.c1] at q1
    have HB := Lib.hid hb1
    clear hp1 hb1 p1
    go_wp2_with fail
    go_ret2
    exact ⟨rfl, HB.out⟩
  | str g body rest b1 b3 =>
    have hlb : body.length ≤ 1000000000 := by simp at hl; omega
    have HA := Lib.hid (advance_string g body rest b1 b3 hlb h)
    clear h hl b1 b3 hlb
    go_enter Tryz.func68, Tryz.ntmps68
    go_wp2_with fail
    refine HA.out.mono ?_
    rintro e w1 ⟨rfl, hb1, b, c1, hp1, V, hV, hV0⟩
    have q1 := hp1.par.cell 1 (by omega)
    rw [hp1.c1] at q1
    have q4 := hp1.par.cell 4 (by omega)
    rw [hV] at q4
    have HB := Lib.hid hb1
    clear hp1 hb1 p1 hV
    go_wp2_with fail
    go_ret2
    exact ⟨rfl, HB.out⟩
set_option maxRecDepth 100000 in
theorem newParser_calls {R : Nat} {ad : Addr} {l : List Int} {lc base : Nat} {w : World} (hr : Rd R ad l lc 0 w) (hA : base ≤ ad.block) (he : EofW w) (eb : 7 < base) :
    Calls Tryz.prog 67 #[.iface 47 (.pointer (some ⟨R, 0, none⟩)), .bool false] w fun e w' => ∃ P J c, e = .returned (.pointer (some ⟨P, 0, none⟩)) ∧ PS base P J R ad l lc none l 0 0 [] c w' ∧ Below w.heap.size w w' := by
  have HR := Lib.hid hr
  have HE := Lib.hid he
  clear hr he
  go_enter Tryz.func67, Tryz.ntmps67
  go_wp2_with fail
  go_ret
  have hlt := HR.out.lt
  have hal := HR.out.adlt
  generalize hw1 : w.alloc (.cells #[.iface 47 (.pointer (some ⟨R, 0, none⟩)), .slice none 0 0, .int .i64 0, .nilIface] 126) = w1
  have z1 : w1.heap.size = w.heap.size + 1 := by rw [← hw1]; simp
  have b1 : Below w.heap.size w w1 := by rw [← hw1]; exact (Below.refl _ _).alloc (Nat.le_refl _) _
  have k1 : ∀ i, w1.cell? ⟨w.heap.size, i, none⟩ = #[Value.iface 47 (.pointer (some ⟨R, 0, none⟩)), .slice none 0 0, .int .i64 0, .nilIface][i]? := fun i => by rw [← hw1, World.cell?_alloc_new]
  have f1 : ∀ i, w1.frozen? ⟨w.heap.size, i, none⟩ = false := fun i => by rw [← hw1]; exact World.frozen?_alloc_new _ _ _ _
  generalize hw2 : w1.alloc (.cells #[] 134) = w2
  have z2 : w2.heap.size = w.heap.size + 1 + 1 := by rw [← hw2]; simp [z1]
  have b2 : Below w1.heap.size w1 w2 := by rw [← hw2]; exact (Below.refl _ _).alloc (Nat.le_refl _) _
  have h2 : w2.heap[w.heap.size + 1]? = some (.cells #[] 134 (0, 0)) := by rw [← hw2, ← z1]; exact heap_alloc_new w1 _
  generalize hcs : (#[Value.pointer (some ⟨w.heap.size, 0, none⟩), .int .u8 0, .slice (some ⟨w.heap.size + 1, 0, none⟩) 0 0, .string ⟨#[]⟩, .pointer none, .nilIface, .bool false, .int .i64 0, .int .i64 200, .bool false, .bool false] : Array Value) = cs
  have hsz : cs.size = 11 := by rw [← hcs]; rfl
  have z3 : (w2.alloc (.cells cs 131)).heap.size = w.heap.size + 1 + 1 + 1 := by simp [z2]
  have b3 : Below w2.heap.size w2 (w2.alloc (.cells cs 131)) := (Below.refl _ _).alloc (Nat.le_refl _) _
  have b23 : Below w1.heap.size w1 (w2.alloc (.cells cs 131)) := b2.trans (b3.mono (by omega))
  have b13 : Below w.heap.size w (w2.alloc (.cells cs 131)) := b1.trans (b23.mono (by omega))
  have k3 : ∀ i, (w2.alloc (.cells cs 131)).cell? ⟨w.heap.size + 1 + 1, i, none⟩ = cs[i]? := fun i => by rw [← z2, World.cell?_alloc_new]
  have f3 : ∀ i, (w2.alloc (.cells cs 131)).frozen? ⟨w.heap.size + 1 + 1, i, none⟩ = false := fun i => by rw [← z2]; exact World.frozen?_alloc_new _ _ _ _
  have kk : ∀ i, (w2.alloc (.cells cs 131)).cell? ⟨w.heap.size, i, none⟩ = #[Value.iface 47 (.pointer (some ⟨R, 0, none⟩)), .slice none 0 0, .int .i64 0, .nilIface][i]? := fun i => (b23.cell (p := ⟨w.heap.size, i, none⟩) (by show w.heap.size < _; omega)).trans (k1 i)
  have kf : ∀ i, (w2.alloc (.cells cs 131)).frozen? ⟨w.heap.size, i, none⟩ = false := fun i => (b23.frozen (p := ⟨w.heap.size, i, none⟩) (by show w.heap.size < _; omega)).trans (f1 i)
  have h3 : (w2.alloc (.cells cs 131)).heap[w.heap.size + 1]? = some (.cells #[] 134 (0, 0)) := (b3.block _ (by omega)).trans h2
  refine ⟨_, w.heap.size, fun i => (cs[i]?).getD (.bool false), rfl, ?_, b13⟩
  have c2 : (cs[2]?).getD (.bool false) = .slice (some ⟨w.heap.size + 1, 0, none⟩) 0 0 := by rw [← hcs]; rfl
  refine ⟨⟨fun i hi => ?_, f3, by omega⟩, by rw [← hcs]; rfl, by rw [← hcs]; rfl, by rw [← hcs]; rfl, by rw [← hcs]; rfl, ?_, ⟨[], 0, 0, ⟨kk 0, kk 1, kk 2, kk 3, kf, by omega, by omega, by omega, HR.out.kept (Keeps.ofBelow b13) hlt (by simp : R ∉ ([] : List Nat)) (by simp), rfl, by simp, by simp⟩, by simp⟩, by omega, by omega, by omega, hA, ⟨by omega, by omega, by omega⟩, (fun b e => by cases e), ?_, by omega, by omega, ?_, eb⟩
  · rw [k3, Array.getElem?_eq_getElem (by omega)]; rfl
  · rw [c2]
    exact ⟨by simp [nums], .inr ⟨w.heap.size + 1, 0, #[], rfl, by omega, h3, by simp, by simp [maxLen], by simp, by simp [nums]⟩⟩
  · intro g e
    rw [c2] at e
    injection e with e
    simp only at e
    omega
  · obtain ⟨a, ha⟩ := HE.out
    exact ⟨a, (b13.cell (p := ⟨7, 0, none⟩) (by show 7 < _; omega)).trans ha⟩
theorem info_stack : (Tryz.prog.info? 79).map (fun i => (i.zero, i.size, i.bytes)) = some (some (.agg #[.int .i64 0, .int .u8 0, .int .i64 0]), 3, 24) := by kernel_rfl
theorem made_stack (W : World) : (Instr.makeSlice 81 (.int .i64 1) (.int .i64 5)).run Tryz.prog W = .ok (.slice (some ⟨W.heap.size, 0, none⟩) 1 5) (W.alloc (.cells #[.int .i64 0, .int .u8 0, .int .i64 0, .int .i64 0, .int .u8 0, .int .i64 0, .int .i64 0, .int .u8 0, .int .i64 0, .int .i64 0, .int .u8 0, .int .i64 0, .int .i64 0, .int .u8 0, .int .i64 0] 79)) := by
  obtain ⟨i, hi, hh⟩ := Option.map_eq_some_iff.1 info_stack
  simp only [Prod.mk.injEq] at hh
  obtain ⟨hz, hc, hb⟩ := hh
  have := run_make (P := Tryz.prog) W 81 79 i _ Tryz.underlying81 hi hz .i64 .i64 1 5 (by omega) (by omega) (by rw [hb]; omega) (by omega)
  rw [hc] at this
  have e : madeCells (Value.agg #[.int .i64 0, .int .u8 0, .int .i64 0]).cells (Int.toNat 5 * 3) = #[.int .i64 0, .int .u8 0, .int .i64 0, .int .i64 0, .int .u8 0, .int .i64 0, .int .i64 0, .int .u8 0, .int .i64 0, .int .i64 0, .int .u8 0, .int .i64 0, .int .i64 0, .int .u8 0, .int .i64 0] := by kernel_rfl
  rw [e] at this
  exact this
set_option maxRecDepth 100000 in
set_option maxHeartbeats 1000000 in
/-- The answer of reset: a reader whose first frame's type is k. -/
theorem reset_calls {l : List Int} {k : Int} (hk : Kd l k) (hk2 : k = 2 ∨ k = 3 ∨ k = 4) (hl : l.length ≤ 1000000000) {R : Nat} {ad : Addr} {lc base X : Nat} {w : World} (hr : Rd R ad l lc 0 w) (hA : base ≤ ad.block) (he : EofW w) (eb : 7 < base) (hb : base ≤ w.heap.size) :
    Calls Tryz.prog 53 #[.pointer (some ⟨X, 0, none⟩), .iface 47 (.pointer (some ⟨R, 0, none⟩)), .bool false] w fun e w' =>
      Below base w w' ∧ ∃ Y S : Nat, e = .returned (.tuple #[.pointer (some ⟨Y, 0, none⟩), .nilIface]) ∧ w'.cell? ⟨Y, 1, none⟩ = some (.slice (some ⟨S, 0, none⟩) 1 5) ∧ w'.cell? ⟨Y, 2, none⟩ = some (.int .i64 0) ∧ w'.cell? ⟨S, 1, none⟩ = some (.int .u8 k) := by
  have hmk := made_stack
  have HN := Lib.hid (newParser_calls hr hA he eb)
  have HK := Lib.hid hk
  have HL := Lib.hid hl
  clear hr he hk hl
  rcases hk2 with rfl | rfl | rfl
  · go_enter Tryz.func53, Tryz.ntmps53
    go_wp2_with fail
    refine HN.out.mono ?_
    rintro e w1 ⟨P, J, c, rfl, hps, hb1⟩
    have HPK := Lib.hid (peek_calls HK.out HL.out hps)
    have HB1 := Lib.hid (hb1.mono hb)
    clear hps hb1
    go_wp2_with fail
    refine HPK.out.mono ?_
    rintro e w2 ⟨rfl, hb2⟩
    have HB2 := Lib.hid (HB1.out.trans hb2)
    clear hb2
    go_wp2_with fail
    go_ret2
    have hz := HB2.out.size
    exact ⟨(HB2.out.alloc (by omega) _).alloc (by simp; omega) _, w2.heap.size + 1, w2.heap.size, rfl, by simp [go_sem], by simp [go_sem], by simp [go_sem]⟩
  · go_enter Tryz.func53, Tryz.ntmps53
    go_wp2_with fail
    refine HN.out.mono ?_
    rintro e w1 ⟨P, J, c, rfl, hps, hb1⟩
    have HPK := Lib.hid (peek_calls HK.out HL.out hps)
    have HB1 := Lib.hid (hb1.mono hb)
    clear hps hb1
    go_wp2_with fail
    refine HPK.out.mono ?_
    rintro e w2 ⟨rfl, hb2⟩
    have HB2 := Lib.hid (HB1.out.trans hb2)
    clear hb2
    go_wp2_with fail
    go_ret2
    have hz := HB2.out.size
    exact ⟨(HB2.out.alloc (by omega) _).alloc (by simp; omega) _, w2.heap.size + 1, w2.heap.size, rfl, by simp [go_sem], by simp [go_sem], by simp [go_sem]⟩
  · go_enter Tryz.func53, Tryz.ntmps53
    go_wp2_with fail
    refine HN.out.mono ?_
    rintro e w1 ⟨P, J, c, rfl, hps, hb1⟩
    have HPK := Lib.hid (peek_calls HK.out HL.out hps)
    have HB1 := Lib.hid (hb1.mono hb)
    clear hps hb1
    go_wp2_with fail
    refine HPK.out.mono ?_
    rintro e w2 ⟨rfl, hb2⟩
    have HB2 := Lib.hid (HB1.out.trans hb2)
    clear hb2
    go_wp2_with fail
    go_ret2
    have hz := HB2.out.size
    exact ⟨(HB2.out.alloc (by omega) _).alloc (by simp; omega) _, w2.heap.size + 1, w2.heap.size, rfl, by simp [go_sem], by simp [go_sem], by simp [go_sem]⟩
set_option maxRecDepth 100000 in
theorem Type_calls (Y S : Nat) (k : Int) (w : World) (y1 : w.cell? ⟨Y, 1, none⟩ = some (.slice (some ⟨S, 0, none⟩) 1 5)) (y2 : w.cell? ⟨Y, 2, none⟩ = some (.int .i64 0)) (s1 : w.cell? ⟨S, 1, none⟩ = some (.int .u8 k)) :
    Calls Tryz.prog 14 #[.pointer (some ⟨Y, 0, none⟩)] w fun e w' => e = .returned (.int .u8 k) ∧ Below w.heap.size w w' := by
  go_enter Tryz.func14, Tryz.ntmps14
  go_wp2_with fail
  go_quiet (fail)
  go_wp2_with fail
  go_ret
  exact ⟨rfl, pw_below_drewN (Below.refl _ _) _⟩
theorem NewReader_calls (v : Option Addr) (n c : Nat) (w : World) :
    Calls Tryz.prog 13 #[.slice v n c] w fun e w' => e = .returned (.pointer (some ⟨w.heap.size, 0, none⟩)) ∧ w' = w.alloc (.cells #[.slice v n c, .int .i64 0, .int .i64 (-1)] 76) := by
  go_enter Tryz.func13, Tryz.ntmps13
  go_wp2
  go_ret
  exact ⟨rfl, rfl⟩
set_option maxRecDepth 100000 in
set_option maxHeartbeats 1000000 in
theorem ZzExt_calls {l : List Int} {k : Int} (hk : Kd l k) (hk2 : k = 2 ∨ k = 3 ∨ k = 4) (hl : l.length ≤ 1000000000) {R : Nat} {ad : Addr} {lc base : Nat} {w : World} (hr : Rd R ad l lc 0 w) (hA : base ≤ ad.block) (he : EofW w) (eb : 7 < base) (hb : base ≤ w.heap.size) :
    Calls Tryz.prog 12 #[.iface 47 (.pointer (some ⟨R, 0, none⟩)), .bool false] w fun e w' =>
      Below base w w' ∧ ∃ Y S : Nat, e = .returned (.tuple #[.pointer (some ⟨Y, 0, none⟩), .nilIface]) ∧ w'.cell? ⟨Y, 1, none⟩ = some (.slice (some ⟨S, 0, none⟩) 1 5) ∧ w'.cell? ⟨Y, 2, none⟩ = some (.int .i64 0) ∧ w'.cell? ⟨S, 1, none⟩ = some (.int .u8 k) := by
  have hnew : Calls Tryz.prog 35 #[.iface 47 (.pointer (some ⟨R, 0, none⟩)), .bool false] w fun e w' =>
      Below base w w' ∧ ∃ Y S : Nat, e = .returned (.tuple #[.pointer (some ⟨Y, 0, none⟩), .nilIface]) ∧ w'.cell? ⟨Y, 1, none⟩ = some (.slice (some ⟨S, 0, none⟩) 1 5) ∧ w'.cell? ⟨Y, 2, none⟩ = some (.int .i64 0) ∧ w'.cell? ⟨S, 1, none⟩ = some (.int .u8 k) := by
    have HK := Lib.hid (And.intro hk (And.intro hk2 hl))
    have HR := Lib.hid hr
    have HE := Lib.hid he
    clear hk hk2 hl hr he
    go_enter Tryz.func35, Tryz.ntmps35
    go_wp2_with fail
    generalize ho : Obj.cells _ _ = o
    have hba : Below w.heap.size w (w.alloc o) := (Below.refl _ _).alloc (Nat.le_refl _) _
    have hr1 : Rd R ad l lc 0 (w.alloc o) := HR.out.kept (Keeps.ofBelow hba) HR.out.lt (by simp : R ∉ ([] : List Nat)) (by simp)
    have he1 : EofW (w.alloc o) := by
      obtain ⟨a, ha⟩ := HE.out
      exact ⟨a, (hba.cell (p := ⟨7, 0, none⟩) (by show 7 < _; omega)).trans ha⟩
    refine (reset_calls HK.out.1 HK.out.2.1 HK.out.2.2 hr1 hA he1 eb (by simp; omega)).mono ?_
    rintro e w2 ⟨hb2, Y, S, rfl, y1, y2, s1⟩
    have HY := Lib.hid (And.intro y1 (And.intro y2 s1))
    have HB := Lib.hid ((hba.mono hb).trans hb2)
    clear y1 y2 s1 hb2 hba hr1 he1
    go_wp2_with fail
    go_ret2
    exact ⟨HB.out, Y, S, rfl, HY.out.1, HY.out.2.1, HY.out.2.2⟩
  have HN := Lib.hid hnew
  clear hnew hk hk2 hl hr he
  go_enter Tryz.func12, Tryz.ntmps12
  go_wp2_with fail
  refine HN.out.mono ?_
  rintro e w2 ⟨hb2, Y, S, rfl, y1, y2, s1⟩
  have HY := Lib.hid (And.intro y1 (And.intro y2 s1))
  have HB := Lib.hid hb2
  clear y1 y2 s1 hb2
  go_wp2_with fail
  go_ret2
  exact ⟨HB.out, Y, S, rfl, HY.out.1, HY.out.2.1, HY.out.2.2⟩
set_option maxRecDepth 100000 in
set_option maxHeartbeats 1000000 in
/-- impl.ExtKind of a text that begins with a document, an array or a string. -/
theorem ExtKind_calls (u : ByteArray) {k : Int} (hk : Kd (bytesOf u) k) (hk2 : k = 2 ∨ k = 3 ∨ k = 4) (hu : u.size ≤ 1000000000) (w : World) (he : EofW w) (eb : 7 < w.heap.size) :
    Calls Tryz.prog 8 #[.string u] w fun e w' => e = .returned (.tuple #[.int .i64 k, .bool true]) ∧ Below w.heap.size w w' := by
  have hl : (bytesOf u).length = u.size := bytesOf_length u
  have hcv := print_bytes (P := Tryz.prog) 9 23 5 Tryz.underlying9 Tryz.underlying23 Tryz.underlying5 u w
  have hby : By (bytesOf u) := fun x hx => by
    unfold bytesOf at hx
    obtain ⟨b, _, rfl⟩ := List.mem_map.1 hx
    have := b.toNat_lt
    omega
  have hrd := bytes_reads w 5 u (by omega)
  have hbel := bytes_below (Below.refl w.heap.size w) (Nat.le_refl _) 5 u
  obtain ⟨lc, hlc⟩ : ∃ lc, lc = grownCap w u.size 0 5 := ⟨_, rfl⟩
  have hlc1 : u.size ≤ lc := by rw [hlc]; exact grownCap_ge _ _ _ _
  have hlc2 : lc ≤ maxLen := by rw [hlc]; exact grownCap_le_maxLen _ _ _ _ (by simp [maxLen]; omega)
  rw [← hlc] at hcv
  have hsz : (Lib.bytesWorld w 5 u).heap.size = w.heap.size + 1 := Lib.bytesWorld_size ..
  generalize Lib.bytesWorld w 5 u = W at hcv hrd hbel hsz
  have HK := Lib.hid (And.intro hk hk2)
  have HE := Lib.hid he
  have HR := Lib.hid hrd
  have HB := Lib.hid hbel
  have HC := Lib.hid (And.intro hlc1 hlc2)
  have HY := Lib.hid hby
  have HZ := Lib.hid hsz
  clear hsz hk hk2 he hrd hbel hlc hlc1 hlc2 hby
  go_enter Tryz.func8, Tryz.ntmps8
  go_wp2_with fail
  refine (NewReader_calls _ _ _ _).mono ?_
  rintro e w1 ⟨rfl, rfl⟩
  go_wp2_with fail
  have hsz := HZ.out
  generalize hw2 : W.alloc (.cells #[.slice (some ⟨w.heap.size, 0, none⟩) u.size lc, .int .i64 0, .int .i64 (-1)] 76) = w2
  have hb2 : Below W.heap.size W w2 := by rw [← hw2]; exact (Below.refl _ _).alloc (Nat.le_refl _) _
  have hz2 : w2.heap.size = W.heap.size + 1 := by rw [← hw2]; simp
  have hk2 : ∀ i, w2.cell? ⟨W.heap.size, i, none⟩ = #[Value.slice (some ⟨w.heap.size, 0, none⟩) u.size lc, .int .i64 0, .int .i64 (-1)][i]? := fun i => by rw [← hw2, World.cell?_alloc_new]
  have hf2 : ∀ i, w2.frozen? ⟨W.heap.size, i, none⟩ = false := fun i => by rw [← hw2]; exact World.frozen?_alloc_new _ _ _ _
  have hbw : Below w.heap.size w w2 := HB.out.trans (hb2.mono (by omega))
  have hR2 : Rd W.heap.size ⟨w.heap.size, 0, none⟩ (bytesOf u) lc 0 w2 := ⟨by rw [hk2, hl]; rfl, by rw [hk2]; rfl, ⟨_, by rw [hk2]; rfl⟩, hf2, by omega, by show w.heap.size < _; omega, by rw [hl]; exact HR.out.below hb2, HY.out, by omega, by rw [hl]; exact HC.out.1, HC.out.2⟩
  have he2 : EofW w2 := by
    obtain ⟨a, ha⟩ := HE.out
    exact ⟨a, (hbw.cell (p := ⟨7, 0, none⟩) eb).trans ha⟩
  refine (ZzExt_calls HK.out.1 HK.out.2 (by omega) hR2 (Nat.le_refl w.heap.size) he2 eb (by omega)).mono ?_
  rintro e w3 ⟨hb3, Y, S, rfl, y1, y2, s1⟩
  have HB3 := Lib.hid (hbw.trans hb3)
  have HT := Lib.hid (Type_calls Y S k w3 y1 y2 s1)
  clear y1 y2 s1 hb3 hbw hR2 he2 hk2 hf2 hz2 hb2 hcv hsz
  go_wp2_with fail
  refine HT.out.mono ?_
  rintro e w4 ⟨rfl, hb4⟩
  have HB4 := Lib.hid (HB3.out.trans (hb4.mono HB3.out.size))
  clear hb4
  rcases HK.out.2 with rfl | rfl | rfl
  all_goals go_wp2_with fail
  all_goals go_ret2
  all_goals exact ⟨rfl, HB4.out⟩
end Go.Proofs.YtlgmlfhalgnppaaGreatDoor
