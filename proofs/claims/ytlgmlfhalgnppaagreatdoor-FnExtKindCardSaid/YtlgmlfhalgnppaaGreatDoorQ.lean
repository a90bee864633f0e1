/- A part of the proof that laws.FnExtKind returns true at every input: Tok0, Tok1, Rnn, Dr, Scan. -/
import Derived.Test.YtlgmlfhalgnppaaGreatDoorO
import Derived.Deep.LoopGhost
import Derived.Test.YtlgmlfhalgnppaaGreatDoorShelf
import Derived.WalkMore
/-! isWhiteSpace, errors.Is of nil, IsSurrogate, getu4. -/
set_option linter.unusedSimpArgs false
set_option linter.unusedVariables false
namespace Go.Proofs.YtlgmlfhalgnppaaGreatDoor
open Go.RowKit
open Go.Proofs.YtlgmlfhalgnppaaGreatDoorW.PrintWords hiding bt bt_at bt_range
theorem isWhiteSpace_yes (c : Int) (h : c = 32 ∨ c = 9 ∨ c = 13 ∨ c = 10) (w : World) : Calls Tryz.prog 136 #[.int .u8 c] w fun e w' => e = .returned (.bool true) ∧ w' = w := by
  rcases h with rfl | rfl | rfl | rfl
  all_goals go_enter Tryz.func136, Tryz.ntmps136
  all_goals go_wp2
  all_goals go_ret
  all_goals exact ⟨rfl, rfl⟩
theorem isWhiteSpace_no (c : Int) (h : ¬ (c = 32 ∨ c = 9 ∨ c = 13 ∨ c = 10)) (w : World) : Calls Tryz.prog 136 #[.int .u8 c] w fun e w' => e = .returned (.bool false) ∧ w' = w := by
  have h1 : (c == 32) = false := by rw [beq_eq_false_iff_ne]; omega
  have h2 : (c == 9) = false := by rw [beq_eq_false_iff_ne]; omega
  have h3 : (c == 13) = false := by rw [beq_eq_false_iff_ne]; omega
  have h4 : (c == 10) = false := by rw [beq_eq_false_iff_ne]; omega
  clear h
  go_enter Tryz.func136, Tryz.ntmps136
  go_wp2
  go_ret
  exact ⟨rfl, rfl⟩
set_option maxRecDepth 100000 in
theorem errorsIs_nil (a : Addr) (w : World) : Calls Tryz.prog 137 #[.nilIface, .iface 183 (.pointer (some a))] w fun e w' => e = .returned (.bool false) ∧ w' = w := by
  have hq : ∀ w : World, (binOp .eql 44 .nilIface (.iface 183 (.pointer (some a)))).run Tryz.prog w = .ok (.bool false) w := fun _ => by first | rfl | kernel_rfl
  go_enter Tryz.func137, Tryz.ntmps137
  go_wp2
  go_ret
  exact ⟨rfl, rfl⟩
theorem IsSurrogate_yes (r : Int) (h : 55296 ≤ r ∧ r < 57344) (w : World) : Calls Tryz.prog 159 #[.int .i32 r] w fun e w' => e = .returned (.bool true) ∧ w' = w := by
  have h1 : decide (55296 ≤ r) = true := decide_eq_true h.1
  have h2 : decide (r < 57344) = true := decide_eq_true h.2
  clear h
  go_enter Tryz.func159, Tryz.ntmps159
  go_wp2
  go_ret
  exact ⟨rfl, rfl⟩
theorem IsSurrogate_no (r : Int) (h : r < 55296 ∨ 57344 ≤ r) (w : World) : Calls Tryz.prog 159 #[.int .i32 r] w fun e w' => e = .returned (.bool false) ∧ w' = w := by
  by_cases h0 : 55296 ≤ r
  · have h1 : decide (55296 ≤ r) = true := decide_eq_true h0
    have h2 : decide (r < 57344) = false := decide_eq_false (by omega)
    clear h h0
    go_enter Tryz.func159, Tryz.ntmps159
    go_wp2
    go_ret
    exact ⟨rfl, rfl⟩
  · have h1 : decide (55296 ≤ r) = false := decide_eq_false h0
    clear h h0
    go_enter Tryz.func159, Tryz.ntmps159
    go_wp2
    go_ret
    exact ⟨rfl, rfl⟩
/-- getu4's answer in the making. -/
def accU (f : Nat → Int) : Nat → Int
  | 0 => 0
  | k + 1 => accU f k * 16 + hv (f k)
set_option maxRecDepth 100000 in
set_option maxHeartbeats 2000000 in
theorem getu4_calls (B : Nat) (f : Nat → Int) (hx4 : ∀ j, j < 4 → hx (f j)) (w : World) (hc : ∀ j, j < 4 → w.cell? ⟨B, j, none⟩ = some (.int .u8 (f j))) :
    Calls Tryz.prog 158 #[.slice (some ⟨B, 0, none⟩) 4 4] w fun e w' => e = .returned (.int .i32 (accU f 4)) ∧ w' = w := by
  have hcc : ∀ r : Nat, r ≤ 4 → 0 ≤ accU f r ∧ accU f r < 16 ^ r := by
    intro r
    induction r with
    | zero => intro _; simp [accU]
    | succ r ih =>
      intro hr
      have h1 := ih (by omega)
      have h2 := hx4 r (by omega)
      unfold hx hv at h2
      have h3 : hv (f r) < 16 := by unfold hv; (repeat' split) <;> omega
      have h4 : 0 ≤ hv (f r) := hx4 r (by omega)
      have e : (16 : Int) ^ (r + 1) = 16 ^ r * 16 := by rw [Int.pow_succ]
      show 0 ≤ accU f r * 16 + hv (f r) ∧ _ < _
      rw [e]
      constructor
      · omega
      · show accU f r * 16 + hv (f r) < _
        omega
  have HC := Lib.hid hcc
  have HH := Lib.hid hc
  have HX := Lib.hid hx4
  clear hcc hc hx4
  go_enter Tryz.func158, Tryz.ntmps158
  go_wp2_with fail
  go_loopw [3, 5, 12] (fun r c q wr => ∃ k : Nat, k ≤ 4 ∧ q = .int .i64 k ∧ r = .int .i32 (accU f k) ∧ wr = w) (fun _ _ q _ => 4 - (intOf q).toNat)
  case atStart => exact ⟨0, by omega, rfl, rfl, rfl⟩
  case round =>
    obtain ⟨k, hk, rfl, rfl, rfl⟩ := hrel
    by_cases hlt : k < 4
    · have hck := HH.out k hlt
      have hxk := HX.out k hlt
      have hb := HC.out k (by omega)
      have hb2 : accU f k < 4096 := by
        have h4 : k = 0 ∨ k = 1 ∨ k = 2 ∨ k = 3 := by omega
        rcases h4 with rfl | rfl | rfl | rfl <;> omega
      have hb1 := hb.1
      have hs : accU f (k + 1) = accU f k * 16 + hv (f k) := rfl
      have HSS := Lib.hid hs
      obtain ⟨A, hA⟩ : ∃ A, A = accU f k := ⟨_, rfl⟩
      rw [← hA] at hb1 hb2 HSS ⊢
      obtain ⟨c, hcx⟩ : ∃ c, c = f k := ⟨_, rfl⟩
      rw [← hcx] at hck hxk HSS
      have hd : decide ((k : Int) < 4) = true := by simp; omega
      have HAE := Lib.hid hA
      have HCE := Lib.hid hcx
      clear hb hs hA hcx
      unfold hx hv at hxk
      by_cases z1 : 48 ≤ c ∧ c ≤ 57
      · have hvv : hv c = c - 48 := by unfold hv; rw [if_pos z1]
        have HVV := Lib.hid hvv
        have d1 : decide (48 ≤ c) = true := decide_eq_true z1.1
        have d2 : decide (c ≤ 57) = true := decide_eq_true z1.2
        clear hvv hxk
        go_wp2
        exact ⟨⟨k + 1, by omega, by first | rfl | (congr 1; omega), by rw [HSS.out, HVV.out], trivial⟩, by simp [intOf] <;> omega⟩
      · by_cases z2 : 97 ≤ c ∧ c ≤ 102
        · have hvv : hv c = c - 87 := by unfold hv; rw [if_neg z1, if_pos z2]
          have HVV := Lib.hid hvv
          have d1 : decide (48 ≤ c) = true := decide_eq_true (by omega)
          have d2 : decide (c ≤ 57) = false := decide_eq_false (by omega)
          have d3 : decide (97 ≤ c) = true := decide_eq_true z2.1
          have d4 : decide (c ≤ 102) = true := decide_eq_true z2.2
          clear hvv hxk z1
          go_wp2
          exact ⟨⟨k + 1, by omega, by first | rfl | (congr 1; omega), by rw [HSS.out, HVV.out]; congr 1; omega, trivial⟩, by simp [intOf] <;> omega⟩
        · have z3 : 65 ≤ c ∧ c ≤ 70 := by
            rw [if_neg z1, if_neg z2] at hxk
            by_cases z3 : 65 ≤ c ∧ c ≤ 70
            · exact z3
            · rw [if_neg z3] at hxk; omega
          have hvv : hv c = c - 55 := by unfold hv; rw [if_neg z1, if_neg z2, if_pos z3]
          have HVV := Lib.hid hvv
          have d1 : decide (48 ≤ c) = true := decide_eq_true (by omega)
          have d2 : decide (c ≤ 57) = false := decide_eq_false (by omega)
          have d3 : decide (97 ≤ c) = false := decide_eq_false (by omega)
          have d5 : decide (65 ≤ c) = true := decide_eq_true z3.1
          have d6 : decide (c ≤ 70) = true := decide_eq_true z3.2
          clear hvv hxk z1 z2
          go_wp2
          exact ⟨⟨k + 1, by omega, by first | rfl | (congr 1; omega), by rw [HSS.out, HVV.out]; congr 1; omega, trivial⟩, by simp [intOf] <;> omega⟩
    · obtain rfl : k = 4 := by omega
      go_wp2
      go_ret
      exact ⟨rfl, rfl⟩
end Go.Proofs.YtlgmlfhalgnppaaGreatDoor
/-! bson.jsonScanner.nextToken at an opening bracket behind blanks. -/
set_option linter.unusedSimpArgs false
set_option linter.unusedVariables false
namespace Go.Proofs.YtlgmlfhalgnppaaGreatDoor
open Go.RowKit
open Go.Proofs.YtlgmlfhalgnppaaGreatDoorW.PrintWords hiding bt bt_at bt_range
/-- io.EOF is an error value. -/
def EofW (w : World) : Prop := ∃ a, w.cell? ⟨7, 0, none⟩ = some (.iface 183 (.pointer (some a)))
/-- What reading leaves: the scanner before rest; all else as it was. -/
structure ScanTo (J R : Nat) (ad : Addr) (l : List Int) (lc : Nat) (bf : Option Nat) (rest : List Int) (w w' : World) : Prop where
  out : ∃ b, JsR J R ad l lc (some b) rest w' ∧ (∀ b0, bf = some b0 → b = b0) ∧ (bf = none → w.heap.size ≤ b)
  keeps : Keeps w.heap.size (J :: R :: bf.toList) w w'
theorem NextB.scan {c : Int} {J R : Nat} {ad : Addr} {l : List Int} {lc : Nat} {bf : Option Nat} {rest : List Int} {w : World} {e : Ending} {w' : World} (h : NextB c J R ad l lc bf rest w e w') : ScanTo J R ad l lc bf rest w w' := ⟨h.out, h.keeps⟩
theorem ScanTo.step {J R : Nat} {ad : Addr} {l : List Int} {lc : Nat} {bf : Option Nat} {r1 r2 : List Int} {a b c : World} (h : ScanTo J R ad l lc bf r1 a b) {x : Nat} (h1 : ∀ b0, bf = some b0 → x = b0) (h2 : bf = none → a.heap.size ≤ x) (hk : ScanTo J R ad l lc (some x) r2 b c) : ScanTo J R ad l lc bf r2 a c := by
  obtain ⟨y, hy, h3, _⟩ := hk.out
  obtain rfl := h3 x rfl
  refine ⟨⟨y, hy, h1, h2⟩, h.keeps.trans (hk.keeps.mono h.keeps.size (fun s hs hlt => ?_))⟩
  simp only [Option.toList_some, List.mem_cons, List.not_mem_nil, or_false] at hs
  rcases hs with rfl | rfl | rfl
  · simp
  · simp
  · cases bf with
    | none => have := h2 rfl; omega
    | some b0 => have := h1 b0 rfl; subst this; simp
theorem JsR.below {J R : Nat} {ad : Addr} {l : List Int} {lc : Nat} {bf : Option Nat} {rest : List Int} {w w' : World} (h : JsR J R ad l lc bf rest w) (hb : Below w.heap.size w w') : JsR J R ad l lc bf rest w' := by
  obtain ⟨bs, pos, i, hj, hr⟩ := h.out
  have hlt := hj.lt
  have hk : Keeps w.heap.size [] w w' := Keeps.ofBelow hb
  refine ⟨bs, pos, i, ⟨(hb.cell (p := ⟨J, 0, none⟩) hlt).trans hj.j0, (hb.cell (p := ⟨J, 1, none⟩) hlt).trans hj.j1, (hb.cell (p := ⟨J, 2, none⟩) hlt).trans hj.j2, (hb.cell (p := ⟨J, 3, none⟩) hlt).trans hj.j3, fun o => (hb.frozen (p := ⟨J, o, none⟩) hlt).trans (hj.fr o), Nat.lt_of_lt_of_le hlt hb.size, hj.ne, hj.adJ, hj.rd.kept hk hj.rd.lt (by simp) (by simp), ?_, hj.pl, hj.bl⟩, hr⟩
  cases bf with
  | none => exact hj.buf
  | some b =>
    obtain ⟨hb1, hb2, hb3, cur, hcur, hheap, htake⟩ := hj.buf
    exact ⟨Nat.lt_of_lt_of_le hb1 hb.size, hb2, hb3, cur, hcur, (hb.block b hb1).trans hheap, htake⟩
theorem JsR.alloc {J R : Nat} {ad : Addr} {l : List Int} {lc : Nat} {x : Nat} {rest : List Int} {w : World} (h : JsR J R ad l lc (some x) rest w) (o : Obj) : ScanTo J R ad l lc (some x) rest w (w.alloc o) :=
  ⟨⟨x, h.below ((Below.refl _ _).alloc (Nat.le_refl _) o), fun b0 e => Option.some.inj e, fun e => by cases e⟩, (Keeps.refl _ _ _).alloc (Nat.le_refl _) o⟩
theorem ScanTo.eof {J R : Nat} {ad : Addr} {l : List Int} {lc : Nat} {bf : Option Nat} {rest : List Int} {w w' : World} (h : ScanTo J R ad l lc bf rest w w') (he : EofW w) (hJ : 7 < J) (hR : 7 < R) (hb : ∀ b, bf = some b → 7 < b) (hJl : J < w.heap.size) : EofW w' := by
  obtain ⟨a, ha⟩ := he
  refine ⟨a, (h.keeps.cell (p := ⟨7, 0, none⟩) (by show 7 < _; omega) ?_).trans ha⟩
  show 7 ∉ _
  cases bf with
  | none => simp; omega
  | some b => have := hb b rfl; simp; omega
/-- A token in a new block. -/
structure TokAns (t : Int) (J R : Nat) (ad : Addr) (l : List Int) (lc : Nat) (bf : Option Nat) (rest : List Int) (w : World) (e : Ending) (w' : World) : Prop where
  out : ∃ T v p, e = .returned (.tuple #[.pointer (some ⟨T, 0, none⟩), .nilIface]) ∧ w.heap.size ≤ T ∧ T < w'.heap.size ∧ w'.cell? ⟨T, 0, none⟩ = some (.int .u8 t) ∧ w'.cell? ⟨T, 1, none⟩ = some v ∧ w'.cell? ⟨T, 2, none⟩ = some p
  scan : ScanTo J R ad l lc bf rest w w'
set_option maxRecDepth 100000 in
set_option maxHeartbeats 4000000 in
theorem nextToken_brace (g rest : List Int) (hg : Bl g) (J R : Nat) (bf : Option Nat) (ad : Addr) (l : List Int) (lc : Nat) (w : World) (h : JsR J R ad l lc bf (g ++ 123 :: rest) w) (he : EofW w) (hJ : 7 < J) (hR : 7 < R) (hb : ∀ b, bf = some b → 7 < b) (hJl : J < w.heap.size) :
    Calls Tryz.prog 96 #[.pointer (some ⟨J, 0, none⟩)] w (TokAns 0 J R ad l lc bf rest w) := by
  obtain ⟨x0, r0, hx0⟩ : ∃ x0 r0, g ++ 123 :: rest = x0 :: r0 := by
    cases g with
    | nil => exact ⟨_, _, rfl⟩
    | cons a b => exact ⟨_, _, rfl⟩
  have HX := Lib.hid hx0
  rw [hx0] at h
  have HG := Lib.hid hg
  have HE := Lib.hid he
  clear hx0 hg he
  go_enter Tryz.func96, Tryz.ntmps96
  go_wp2_with fail
  refine (readNextByte_calls x0 r0 J R bf ad l lc _ h).mono ?_
  rintro e w1 h1
  obtain rfl := h1.ret
  have HS1 := Lib.hid h1.scan
  clear h1 h
  go_wp2_with fail
  go_loopg [4, 5] (r0.length) (fun k c e wr => ∃ (x : Int) (rc g2 : List Int), k = rc.length ∧ c = .int .u8 x ∧ e = .nilIface ∧ Hid (x :: rc = g2 ++ 123 :: rest) ∧ Hid (Bl g2) ∧ Hid (ScanTo J R ad l lc bf rc w wr))
  case atStart => exact ⟨x0, r0, g, rfl, rfl, rfl, HX.out.symm, HG.out, HS1.out⟩
  case round =>
    obtain ⟨x, rc, g2, rfl, rfl, rfl, HXr, HGr, HSr⟩ := hrel
    obtain ⟨b, hjr, hb1, hb2⟩ := HSr.out.out
    cases g2 with
    | nil =>
      have hxr := HXr.out
      rw [List.nil_append] at hxr
      injection hxr with hx1 hx2
      subst hx1 hx2
      obtain ⟨bs, pos, i, hj, hr⟩ := hjr.out
      have j2 := hj.j2
      obtain ⟨ea, hea⟩ := HSr.out.eof HE.out hJ hR hb hJl
      have hJr := hj.lt
      have HBB := Lib.hid (And.intro hjr (And.intro hb1 hb2))
      clear hjr hb1 hb2 hj hr HXr HX
      go_wp2_with fail
      refine (isWhiteSpace_no 123 (by omega) _).mono ?_
      rintro e w2 ⟨rfl, rfl⟩
      go_wp2_with fail
      refine (errorsIs_nil ea _).mono ?_
      rintro e w2 ⟨rfl, rfl⟩
      go_wp2_with fail
      go_ret2
      refine ⟨⟨_, _, _, rfl, HSr.out.keeps.size, by simp, by simp [go_sem], by simp [go_sem]; rfl, by simp [go_sem]; rfl⟩, HSr.out.step HBB.out.2.1 HBB.out.2.2 (JsR.alloc HBB.out.1 _)⟩
    | cons y g3 =>
      have hxr := HXr.out
      rw [List.cons_append] at hxr
      injection hxr with hx1 hx2
      subst hx1
      have hy := HGr.out x (List.mem_cons_self ..)
      obtain ⟨x1, r1, hx11⟩ : ∃ x1 r1, g3 ++ 123 :: rest = x1 :: r1 := by
        cases g3 with
        | nil => exact ⟨_, _, rfl⟩
        | cons a b => exact ⟨_, _, rfl⟩
      have hrc : rc = x1 :: r1 := hx2.trans hx11
      subst hrc
      have HX1 := Lib.hid hx11
      have HG3 : Hid (Bl g3) := fun z hz => HGr.out z (List.mem_cons_of_mem _ hz)
      have HBB := Lib.hid (And.intro hb1 hb2)
      clear hx2 hx11 hb1 hb2
      go_wp2_with fail
      refine (isWhiteSpace_yes x (by omega) _).mono ?_
      rintro e w2 ⟨rfl, rfl⟩
      go_wp2_with fail
      refine (readNextByte_calls x1 r1 J R (some b) ad l lc _ hjr).mono ?_
      rintro e w3 h1
      obtain rfl := h1.ret
      have HS3 := Lib.hid h1.scan
      clear h1
      go_wp2_with fail
      go_roundg r1.length
      case measure => simp
      case rel => exact ⟨x1, r1, g3, rfl, rfl, rfl, HX1.out.symm, HG3.out, HSr.out.step HBB.out.1 HBB.out.2 HS3.out⟩
set_option maxRecDepth 100000 in
set_option maxHeartbeats 4000000 in
theorem nextToken_bracket (g rest : List Int) (hg : Bl g) (J R : Nat) (bf : Option Nat) (ad : Addr) (l : List Int) (lc : Nat) (w : World) (h : JsR J R ad l lc bf (g ++ 91 :: rest) w) (he : EofW w) (hJ : 7 < J) (hR : 7 < R) (hb : ∀ b, bf = some b → 7 < b) (hJl : J < w.heap.size) :
    Calls Tryz.prog 96 #[.pointer (some ⟨J, 0, none⟩)] w (TokAns 2 J R ad l lc bf rest w) := by
  obtain ⟨x0, r0, hx0⟩ : ∃ x0 r0, g ++ 91 :: rest = x0 :: r0 := by
    cases g with
    | nil => exact ⟨_, _, rfl⟩
    | cons a b => exact ⟨_, _, rfl⟩
  have HX := Lib.hid hx0
  rw [hx0] at h
  have HG := Lib.hid hg
  have HE := Lib.hid he
  clear hx0 hg he
  go_enter Tryz.func96, Tryz.ntmps96
  go_wp2_with fail
  refine (readNextByte_calls x0 r0 J R bf ad l lc _ h).mono ?_
  rintro e w1 h1
  obtain rfl := h1.ret
  have HS1 := Lib.hid h1.scan
  clear h1 h
  go_wp2_with fail
  go_loopg [4, 5] (r0.length) (fun k c e wr => ∃ (x : Int) (rc g2 : List Int), k = rc.length ∧ c = .int .u8 x ∧ e = .nilIface ∧ Hid (x :: rc = g2 ++ 91 :: rest) ∧ Hid (Bl g2) ∧ Hid (ScanTo J R ad l lc bf rc w wr))
  case atStart => exact ⟨x0, r0, g, rfl, rfl, rfl, HX.out.symm, HG.out, HS1.out⟩
  case round =>
    obtain ⟨x, rc, g2, rfl, rfl, rfl, HXr, HGr, HSr⟩ := hrel
    obtain ⟨b, hjr, hb1, hb2⟩ := HSr.out.out
    cases g2 with
    | nil =>
      have hxr := HXr.out
      rw [List.nil_append] at hxr
      injection hxr with hx1 hx2
      subst hx1 hx2
      obtain ⟨bs, pos, i, hj, hr⟩ := hjr.out
      have j2 := hj.j2
      obtain ⟨ea, hea⟩ := HSr.out.eof HE.out hJ hR hb hJl
      have hJr := hj.lt
      have HBB := Lib.hid (And.intro hjr (And.intro hb1 hb2))
      clear hjr hb1 hb2 hj hr HXr HX
      go_wp2_with fail
      refine (isWhiteSpace_no 91 (by omega) _).mono ?_
      rintro e w2 ⟨rfl, rfl⟩
      go_wp2_with fail
      refine (errorsIs_nil ea _).mono ?_
      rintro e w2 ⟨rfl, rfl⟩
      go_wp2_with fail
      go_ret2
      refine ⟨⟨_, _, _, rfl, HSr.out.keeps.size, by simp, by simp [go_sem], by simp [go_sem]; rfl, by simp [go_sem]; rfl⟩, HSr.out.step HBB.out.2.1 HBB.out.2.2 (JsR.alloc HBB.out.1 _)⟩
    | cons y g3 =>
      have hxr := HXr.out
      rw [List.cons_append] at hxr
      injection hxr with hx1 hx2
      subst hx1
      have hy := HGr.out x (List.mem_cons_self ..)
      obtain ⟨x1, r1, hx11⟩ : ∃ x1 r1, g3 ++ 91 :: rest = x1 :: r1 := by
        cases g3 with
        | nil => exact ⟨_, _, rfl⟩
        | cons a b => exact ⟨_, _, rfl⟩
      have hrc : rc = x1 :: r1 := hx2.trans hx11
      subst hrc
      have HX1 := Lib.hid hx11
      have HG3 : Hid (Bl g3) := fun z hz => HGr.out z (List.mem_cons_of_mem _ hz)
      have HBB := Lib.hid (And.intro hb1 hb2)
      clear hx2 hx11 hb1 hb2
      go_wp2_with fail
      refine (isWhiteSpace_yes x (by omega) _).mono ?_
      rintro e w2 ⟨rfl, rfl⟩
      go_wp2_with fail
      refine (readNextByte_calls x1 r1 J R (some b) ad l lc _ hjr).mono ?_
      rintro e w3 h1
      obtain rfl := h1.ret
      have HS3 := Lib.hid h1.scan
      clear h1
      go_wp2_with fail
      go_roundg r1.length
      case measure => simp
      case rel => exact ⟨x1, r1, g3, rfl, rfl, rfl, HX1.out.symm, HG3.out, HSr.out.step HBB.out.1 HBB.out.2 HS3.out⟩
set_option maxRecDepth 100000 in
set_option maxHeartbeats 4000000 in
theorem nextToken_close (g rest : List Int) (hg : Bl g) (J R : Nat) (bf : Option Nat) (ad : Addr) (l : List Int) (lc : Nat) (w : World) (h : JsR J R ad l lc bf (g ++ 125 :: rest) w) (he : EofW w) (hJ : 7 < J) (hR : 7 < R) (hb : ∀ b, bf = some b → 7 < b) (hJl : J < w.heap.size) :
    Calls Tryz.prog 96 #[.pointer (some ⟨J, 0, none⟩)] w (TokAns 1 J R ad l lc bf rest w) := by
  obtain ⟨x0, r0, hx0⟩ : ∃ x0 r0, g ++ 125 :: rest = x0 :: r0 := by
    cases g with
    | nil => exact ⟨_, _, rfl⟩
    | cons a b => exact ⟨_, _, rfl⟩
  have HX := Lib.hid hx0
  rw [hx0] at h
  have HG := Lib.hid hg
  have HE := Lib.hid he
  clear hx0 hg he
  go_enter Tryz.func96, Tryz.ntmps96
  go_wp2_with fail
  refine (readNextByte_calls x0 r0 J R bf ad l lc _ h).mono ?_
  rintro e w1 h1
  obtain rfl := h1.ret
  have HS1 := Lib.hid h1.scan
  clear h1 h
  go_wp2_with fail
  go_loopg [4, 5] (r0.length) (fun k c e wr => ∃ (x : Int) (rc g2 : List Int), k = rc.length ∧ c = .int .u8 x ∧ e = .nilIface ∧ Hid (x :: rc = g2 ++ 125 :: rest) ∧ Hid (Bl g2) ∧ Hid (ScanTo J R ad l lc bf rc w wr))
  case atStart => exact ⟨x0, r0, g, rfl, rfl, rfl, HX.out.symm, HG.out, HS1.out⟩
  case round =>
    obtain ⟨x, rc, g2, rfl, rfl, rfl, HXr, HGr, HSr⟩ := hrel
    obtain ⟨b, hjr, hb1, hb2⟩ := HSr.out.out
    cases g2 with
    | nil =>
      have hxr := HXr.out
      rw [List.nil_append] at hxr
      injection hxr with hx1 hx2
      subst hx1 hx2
      obtain ⟨bs, pos, i, hj, hr⟩ := hjr.out
      have j2 := hj.j2
      obtain ⟨ea, hea⟩ := HSr.out.eof HE.out hJ hR hb hJl
      have hJr := hj.lt
      have HBB := Lib.hid (And.intro hjr (And.intro hb1 hb2))
      clear hjr hb1 hb2 hj hr HXr HX
      go_wp2_with fail
      refine (isWhiteSpace_no 125 (by omega) _).mono ?_
      rintro e w2 ⟨rfl, rfl⟩
      go_wp2_with fail
      refine (errorsIs_nil ea _).mono ?_
      rintro e w2 ⟨rfl, rfl⟩
      go_wp2_with fail
      go_ret2
      refine ⟨⟨_, _, _, rfl, HSr.out.keeps.size, by simp, by simp [go_sem], by simp [go_sem]; rfl, by simp [go_sem]; rfl⟩, HSr.out.step HBB.out.2.1 HBB.out.2.2 (JsR.alloc HBB.out.1 _)⟩
    | cons y g3 =>
      have hxr := HXr.out
      rw [List.cons_append] at hxr
      injection hxr with hx1 hx2
      subst hx1
      have hy := HGr.out x (List.mem_cons_self ..)
      obtain ⟨x1, r1, hx11⟩ : ∃ x1 r1, g3 ++ 125 :: rest = x1 :: r1 := by
        cases g3 with
        | nil => exact ⟨_, _, rfl⟩
        | cons a b => exact ⟨_, _, rfl⟩
      have hrc : rc = x1 :: r1 := hx2.trans hx11
      subst hrc
      have HX1 := Lib.hid hx11
      have HG3 : Hid (Bl g3) := fun z hz => HGr.out z (List.mem_cons_of_mem _ hz)
      have HBB := Lib.hid (And.intro hb1 hb2)
      clear hx2 hx11 hb1 hb2
      go_wp2_with fail
      refine (isWhiteSpace_yes x (by omega) _).mono ?_
      rintro e w2 ⟨rfl, rfl⟩
      go_wp2_with fail
      refine (readNextByte_calls x1 r1 J R (some b) ad l lc _ hjr).mono ?_
      rintro e w3 h1
      obtain rfl := h1.ret
      have HS3 := Lib.hid h1.scan
      clear h1
      go_wp2_with fail
      go_roundg r1.length
      case measure => simp
      case rel => exact ⟨x1, r1, g3, rfl, rfl, rfl, HX1.out.symm, HG3.out, HSr.out.step HBB.out.1 HBB.out.2 HS3.out⟩
/-- A string's token in a new block. -/
structure TokStr (J R : Nat) (ad : Addr) (l : List Int) (lc : Nat) (bf : Option Nat) (rest : List Int) (w : World) (e : Ending) (w' : World) : Prop where
  out : ∃ T u p, e = .returned (.tuple #[.pointer (some ⟨T, 0, none⟩), .nilIface]) ∧ w.heap.size ≤ T ∧ T < w'.heap.size ∧ w'.cell? ⟨T, 0, none⟩ = some (.int .u8 9) ∧ w'.cell? ⟨T, 1, none⟩ = some (.iface 9 (.string u)) ∧ w'.cell? ⟨T, 2, none⟩ = some p
  scan : ScanTo J R ad l lc bf rest w w'
set_option maxRecDepth 100000 in
set_option maxHeartbeats 4000000 in
theorem nextToken_string (g rest : List Int) (hg : Bl g) (J R : Nat) (bf : Option Nat) (ad : Addr) (l : List Int) (lc : Nat) (w : World) (h : JsR J R ad l lc bf (g ++ 34 :: rest) w) (he : EofW w) (hJ : 7 < J) (hR : 7 < R) (hb : ∀ b, bf = some b → 7 < b) (hJl : J < w.heap.size) (rest2 : List Int)
    (hS : ∀ (b : Nat) (W : World), JsR J R ad l lc (some b) rest W → EofW W → w.heap.size ≤ W.heap.size → ((∀ b0, bf = some b0 → b = b0) ∧ (bf = none → w.heap.size ≤ b)) → Calls Tryz.prog 138 #[.pointer (some ⟨J, 0, none⟩)] W (TokStr J R ad l lc (some b) rest2 W)) :
    Calls Tryz.prog 96 #[.pointer (some ⟨J, 0, none⟩)] w (TokStr J R ad l lc bf rest2 w) := by
  obtain ⟨x0, r0, hx0⟩ : ∃ x0 r0, g ++ 34 :: rest = x0 :: r0 := by
    cases g with
    | nil => exact ⟨_, _, rfl⟩
    | cons a b => exact ⟨_, _, rfl⟩
  have HX := Lib.hid hx0
  rw [hx0] at h
  have HG := Lib.hid hg
  have HE := Lib.hid he
  clear hx0 hg he
  go_enter Tryz.func96, Tryz.ntmps96
  go_wp2_with fail
  refine (readNextByte_calls x0 r0 J R bf ad l lc _ h).mono ?_
  rintro e w1 h1
  obtain rfl := h1.ret
  have HS1 := Lib.hid h1.scan
  clear h1 h
  go_wp2_with fail
  go_loopg [4, 5] (r0.length) (fun k c e wr => ∃ (x : Int) (rc g2 : List Int), k = rc.length ∧ c = .int .u8 x ∧ e = .nilIface ∧ Hid (x :: rc = g2 ++ 34 :: rest) ∧ Hid (Bl g2) ∧ Hid (ScanTo J R ad l lc bf rc w wr))
  case atStart => exact ⟨x0, r0, g, rfl, rfl, rfl, HX.out.symm, HG.out, HS1.out⟩
  case round =>
    obtain ⟨x, rc, g2, rfl, rfl, rfl, HXr, HGr, HSr⟩ := hrel
    obtain ⟨b, hjr, hb1, hb2⟩ := HSr.out.out
    cases g2 with
    | nil =>
      have hxr := HXr.out
      rw [List.nil_append] at hxr
      injection hxr with hx1 hx2
      subst hx1 hx2
      obtain ⟨ea, hea⟩ := HSr.out.eof HE.out hJ hR hb hJl
      have HBB := Lib.hid (And.intro hjr (And.intro hb1 hb2))
      have HSS := Lib.hid hS
      clear hjr hb1 hb2 HXr HX hS
      go_wp2_with fail
      refine (isWhiteSpace_no 34 (by omega) _).mono ?_
      rintro e w2 ⟨rfl, rfl⟩
      go_wp2_with fail
      refine (errorsIs_nil ea _).mono ?_
      rintro e w2 ⟨rfl, rfl⟩
      go_wp2_with fail
      refine (HSS.out b _ HBB.out.1 ⟨ea, hea⟩ HSr.out.keeps.size HBB.out.2).mono ?_
      rintro e w3 ⟨⟨T, v, p, rfl, t1, t2, t3, t4, t5⟩, hsc⟩
      have HSC := Lib.hid hsc
      have HTT := Lib.hid (And.intro t1 (And.intro t2 (And.intro t3 (And.intro t4 t5))))
      clear hsc t1 t2 t3 t4 t5
      go_wp2_with fail
      go_ret2
      exact ⟨⟨T, v, p, rfl, Nat.le_trans HSr.out.keeps.size HTT.out.1, HTT.out.2.1, HTT.out.2.2.1, HTT.out.2.2.2.1, HTT.out.2.2.2.2⟩, HSr.out.step HBB.out.2.1 HBB.out.2.2 HSC.out⟩
    | cons y g3 =>
      have hxr := HXr.out
      rw [List.cons_append] at hxr
      injection hxr with hx1 hx2
      subst hx1
      have hy := HGr.out x (List.mem_cons_self ..)
      obtain ⟨x1, r1, hx11⟩ : ∃ x1 r1, g3 ++ 34 :: rest = x1 :: r1 := by
        cases g3 with
        | nil => exact ⟨_, _, rfl⟩
        | cons a b => exact ⟨_, _, rfl⟩
      have hrc : rc = x1 :: r1 := hx2.trans hx11
      subst hrc
      have HX1 := Lib.hid hx11
      have HG3 : Hid (Bl g3) := fun z hz => HGr.out z (List.mem_cons_of_mem _ hz)
      have HBB := Lib.hid (And.intro hb1 hb2)
      clear hx2 hx11 hb1 hb2
      go_wp2_with fail
      refine (isWhiteSpace_yes x (by omega) _).mono ?_
      rintro e w2 ⟨rfl, rfl⟩
      go_wp2_with fail
      refine (readNextByte_calls x1 r1 J R (some b) ad l lc _ hjr).mono ?_
      rintro e w3 h1
      obtain rfl := h1.ret
      have HS3 := Lib.hid h1.scan
      clear h1
      go_wp2_with fail
      go_roundg r1.length
      case measure => simp
      case rel => exact ⟨x1, r1, g3, rfl, rfl, rfl, HX1.out.symm, HG3.out, HSr.out.step HBB.out.1 HBB.out.2 HS3.out⟩
end Go.Proofs.YtlgmlfhalgnppaaGreatDoor
/-! bson.jsonScanner.readNNextBytes at n = 4. -/
set_option linter.unusedSimpArgs false
set_option linter.unusedVariables false
namespace Go.Proofs.YtlgmlfhalgnppaaGreatDoor
open Go.RowKit
open Go.Proofs.YtlgmlfhalgnppaaGreatDoorW.PrintWords hiding bt bt_at bt_range
/-- JsR does not look at another block. -/
theorem JsR.kept {J R b : Nat} {ad : Addr} {l : List Int} {lc : Nat} {rest : List Int} {w w' : World} (h : JsR J R ad l lc (some b) rest w) {B : Nat} {S : List Nat} (hk : Keeps B S w w') (hJ : J < B) (hb : b < B) (hJS : J ∉ S) (hRS : R ∉ S) (hbS : b ∉ S) (hA : ad.block ∉ S) : JsR J R ad l lc (some b) rest w' := by
  obtain ⟨bs, pos, i, hj, hr⟩ := h.out
  obtain ⟨hb1, hb2, hb3, cur, hcur, hheap, htake⟩ := hj.buf
  exact ⟨bs, pos, i, ⟨(hk.cell (p := ⟨J, 0, none⟩) hJ hJS).trans hj.j0, (hk.cell (p := ⟨J, 1, none⟩) hJ hJS).trans hj.j1, (hk.cell (p := ⟨J, 2, none⟩) hJ hJS).trans hj.j2, (hk.cell (p := ⟨J, 3, none⟩) hJ hJS).trans hj.j3, fun o => (hk.frozen (p := ⟨J, o, none⟩) hJ hJS).trans (hj.fr o), Nat.lt_of_lt_of_le hj.lt hk.size, hj.ne, hj.adJ, hj.rd.kept hk (by omega) hRS hA,
    ⟨Nat.lt_of_lt_of_le hb1 hk.size, hb2, hb3, cur, hcur, (hk.block b hb hbS).trans hheap, htake⟩, hj.pl, hj.bl⟩, hr⟩
/-- What stays of the blocks' order. -/
theorem JsR.order {J R b : Nat} {ad : Addr} {l : List Int} {lc : Nat} {rest : List Int} {w : World} (h : JsR J R ad l lc (some b) rest w) : J < w.heap.size ∧ b < w.heap.size ∧ J < b ∧ R < b ∧ ad.block < J := by
  obtain ⟨bs, pos, i, hj, hr⟩ := h.out
  obtain ⟨hb1, hb2, hb3, _⟩ := hj.buf
  exact ⟨hj.lt, hb1, hb3, hb2, hj.adJ⟩
set_option maxRecDepth 100000 in
set_option maxHeartbeats 4000000 in
theorem readN4_calls (f0 f1 f2 f3 : Int) (rest : List Int) (J R b U : Nat) (ad : Addr) (l : List Int) (lc : Nat) (w : World) (h : JsR J R ad l lc (some b) (f0 :: f1 :: f2 :: f3 :: rest) w) (hU : U < w.heap.size) (hbU : b < U)
    (v0 v1 v2 v3 : Value) (u0 : w.cell? ⟨U, 0, none⟩ = some v0) (u1 : w.cell? ⟨U, 1, none⟩ = some v1) (u2 : w.cell? ⟨U, 2, none⟩ = some v2) (u3 : w.cell? ⟨U, 3, none⟩ = some v3) (uf : ∀ o, w.frozen? ⟨U, o, none⟩ = false) :
    Calls Tryz.prog 157 #[.pointer (some ⟨J, 0, none⟩), .slice (some ⟨U, 0, none⟩) 4 4, .int .i64 4, .int .i64 0] w
      (fun e w' => e = .returned .nilIface ∧ JsR J R ad l lc (some b) rest w' ∧ Keeps w.heap.size [J, R, b, U] w w' ∧ (w'.cell? ⟨U, 0, none⟩ = some (.int .u8 f0) ∧ w'.cell? ⟨U, 1, none⟩ = some (.int .u8 f1) ∧ w'.cell? ⟨U, 2, none⟩ = some (.int .u8 f2) ∧ w'.cell? ⟨U, 3, none⟩ = some (.int .u8 f3)) ∧ (∀ o, w'.frozen? ⟨U, o, none⟩ = false) ∧ U < w'.heap.size) := by
  have HO := Lib.hid h.order
  have hUs := hU
  have HJ0 := Lib.hid h
  have HK0 : Hid (Keeps w.heap.size [J, R, b, U] w w) := Keeps.refl _ _ _
  clear h
  go_enter Tryz.func157, Tryz.ntmps157
  go_wp2_with fail
  refine wp_loop_rounds 5 ?_
  rw [rounds_succ]
  go_wp2_with fail
  refine (readNextByte_calls f0 (f1 :: f2 :: f3 :: rest) J R (some b) ad l lc _ HJ0.out).mono ?_
  rintro e x1 h1
  obtain rfl := h1.ret
  have hk1 := h1.keeps
  obtain ⟨b2, hj2, hbb, _⟩ := h1.out
  obtain rfl := (hbb b rfl).symm
  have c0 := (hk1.cell (p := ⟨U, 0, none⟩) hUs (by have := HO.out; simp; omega)).trans u0
  have c1 := (hk1.cell (p := ⟨U, 1, none⟩) hUs (by have := HO.out; simp; omega)).trans u1
  have c2 := (hk1.cell (p := ⟨U, 2, none⟩) hUs (by have := HO.out; simp; omega)).trans u2
  have c3 := (hk1.cell (p := ⟨U, 3, none⟩) hUs (by have := HO.out; simp; omega)).trans u3
  have cf : ∀ o, x1.frozen? ⟨U, o, none⟩ = false := fun o => (hk1.frozen (p := ⟨U, o, none⟩) hUs (by have := HO.out; simp; omega)).trans (uf o)
  have hUx : U < x1.heap.size := Nat.lt_of_lt_of_le hUs hk1.size
  have HK1x : Hid (Keeps w.heap.size [J, R, b, U] w x1) := HK0.out.trans (hk1.mono HK0.out.size (fun s hs _ => by simp at hs; simp; omega))
  have hkS : Keeps x1.heap.size [U] x1 (x1.setCell ⟨U, 0, none⟩ (.int .u8 f0)) := (Keeps.refl _ _ _).setCell (Or.inl (by simp)) _
  have HJ1 := Lib.hid (hj2.kept hkS hj2.order.1 hj2.order.2.1 (by have := HO.out; simp; omega) (by have := HO.out; simp; omega) (by have := HO.out; simp; omega) (by have := HO.out; simp; omega))
  have HK1 : Hid (Keeps w.heap.size [J, R, b, U] w (x1.setCell ⟨U, 0, none⟩ (.int .u8 f0))) := HK1x.out.setCell (Or.inl (by simp)) _
  clear u0 u1 u2 u3 uf h1 hj2 hk1 hkS hbb
  go_wp2_with fail
  have u0 : (x1.setCell ⟨U, 0, none⟩ (.int .u8 f0)).cell? ⟨U, 0, none⟩ = some (.int .u8 f0) := by simp [go_sem, c0, c0]
  have u1 : (x1.setCell ⟨U, 0, none⟩ (.int .u8 f0)).cell? ⟨U, 1, none⟩ = some (v1) := by simp [go_sem, c1, c0]
  have u2 : (x1.setCell ⟨U, 0, none⟩ (.int .u8 f0)).cell? ⟨U, 2, none⟩ = some (v2) := by simp [go_sem, c2, c0]
  have u3 : (x1.setCell ⟨U, 0, none⟩ (.int .u8 f0)).cell? ⟨U, 3, none⟩ = some (v3) := by simp [go_sem, c3, c0]
  have uf : ∀ o, (x1.setCell ⟨U, 0, none⟩ (.int .u8 f0)).frozen? ⟨U, o, none⟩ = false := fun o => by simp [go_sem, cf]
  have hUs : U < (x1.setCell ⟨U, 0, none⟩ (.int .u8 f0)).heap.size := by simp [World.setCell]; exact hUx
  generalize x1.setCell ⟨U, 0, none⟩ (.int .u8 f0) = y1 at u0 u1 u2 u3 uf hUs HJ1 HK1 ⊢
  clear c0 c1 c2 c3 cf hUx
  rw [rounds_succ]
  go_wp2_with fail
  refine (readNextByte_calls f1 (f2 :: f3 :: rest) J R (some b) ad l lc _ HJ1.out).mono ?_
  rintro e x2 h1
  obtain rfl := h1.ret
  have hk2 := h1.keeps
  obtain ⟨b2, hj2, hbb, _⟩ := h1.out
  obtain rfl := (hbb b rfl).symm
  have c0 := (hk2.cell (p := ⟨U, 0, none⟩) hUs (by have := HO.out; simp; omega)).trans u0
  have c1 := (hk2.cell (p := ⟨U, 1, none⟩) hUs (by have := HO.out; simp; omega)).trans u1
  have c2 := (hk2.cell (p := ⟨U, 2, none⟩) hUs (by have := HO.out; simp; omega)).trans u2
  have c3 := (hk2.cell (p := ⟨U, 3, none⟩) hUs (by have := HO.out; simp; omega)).trans u3
  have cf : ∀ o, x2.frozen? ⟨U, o, none⟩ = false := fun o => (hk2.frozen (p := ⟨U, o, none⟩) hUs (by have := HO.out; simp; omega)).trans (uf o)
  have hUx : U < x2.heap.size := Nat.lt_of_lt_of_le hUs hk2.size
  have HK2x : Hid (Keeps w.heap.size [J, R, b, U] w x2) := HK1.out.trans (hk2.mono HK1.out.size (fun s hs _ => by simp at hs; simp; omega))
  have hkS : Keeps x2.heap.size [U] x2 (x2.setCell ⟨U, 1, none⟩ (.int .u8 f1)) := (Keeps.refl _ _ _).setCell (Or.inl (by simp)) _
  have HJ2 := Lib.hid (hj2.kept hkS hj2.order.1 hj2.order.2.1 (by have := HO.out; simp; omega) (by have := HO.out; simp; omega) (by have := HO.out; simp; omega) (by have := HO.out; simp; omega))
  have HK2 : Hid (Keeps w.heap.size [J, R, b, U] w (x2.setCell ⟨U, 1, none⟩ (.int .u8 f1))) := HK2x.out.setCell (Or.inl (by simp)) _
  clear u0 u1 u2 u3 uf h1 hj2 hk2 hkS hbb
  go_wp2_with fail
  have u0 : (x2.setCell ⟨U, 1, none⟩ (.int .u8 f1)).cell? ⟨U, 0, none⟩ = some (.int .u8 f0) := by simp [go_sem, c0, c1]
  have u1 : (x2.setCell ⟨U, 1, none⟩ (.int .u8 f1)).cell? ⟨U, 1, none⟩ = some (.int .u8 f1) := by simp [go_sem, c1, c1]
  have u2 : (x2.setCell ⟨U, 1, none⟩ (.int .u8 f1)).cell? ⟨U, 2, none⟩ = some (v2) := by simp [go_sem, c2, c1]
  have u3 : (x2.setCell ⟨U, 1, none⟩ (.int .u8 f1)).cell? ⟨U, 3, none⟩ = some (v3) := by simp [go_sem, c3, c1]
  have uf : ∀ o, (x2.setCell ⟨U, 1, none⟩ (.int .u8 f1)).frozen? ⟨U, o, none⟩ = false := fun o => by simp [go_sem, cf]
  have hUs : U < (x2.setCell ⟨U, 1, none⟩ (.int .u8 f1)).heap.size := by simp [World.setCell]; exact hUx
  generalize x2.setCell ⟨U, 1, none⟩ (.int .u8 f1) = y2 at u0 u1 u2 u3 uf hUs HJ2 HK2 ⊢
  clear c0 c1 c2 c3 cf hUx
  rw [rounds_succ]
  go_wp2_with fail
  refine (readNextByte_calls f2 (f3 :: rest) J R (some b) ad l lc _ HJ2.out).mono ?_
  rintro e x3 h1
  obtain rfl := h1.ret
  have hk3 := h1.keeps
  obtain ⟨b2, hj2, hbb, _⟩ := h1.out
  obtain rfl := (hbb b rfl).symm
  have c0 := (hk3.cell (p := ⟨U, 0, none⟩) hUs (by have := HO.out; simp; omega)).trans u0
  have c1 := (hk3.cell (p := ⟨U, 1, none⟩) hUs (by have := HO.out; simp; omega)).trans u1
  have c2 := (hk3.cell (p := ⟨U, 2, none⟩) hUs (by have := HO.out; simp; omega)).trans u2
  have c3 := (hk3.cell (p := ⟨U, 3, none⟩) hUs (by have := HO.out; simp; omega)).trans u3
  have cf : ∀ o, x3.frozen? ⟨U, o, none⟩ = false := fun o => (hk3.frozen (p := ⟨U, o, none⟩) hUs (by have := HO.out; simp; omega)).trans (uf o)
  have hUx : U < x3.heap.size := Nat.lt_of_lt_of_le hUs hk3.size
  have HK3x : Hid (Keeps w.heap.size [J, R, b, U] w x3) := HK2.out.trans (hk3.mono HK2.out.size (fun s hs _ => by simp at hs; simp; omega))
  have hkS : Keeps x3.heap.size [U] x3 (x3.setCell ⟨U, 2, none⟩ (.int .u8 f2)) := (Keeps.refl _ _ _).setCell (Or.inl (by simp)) _
  have HJ3 := Lib.hid (hj2.kept hkS hj2.order.1 hj2.order.2.1 (by have := HO.out; simp; omega) (by have := HO.out; simp; omega) (by have := HO.out; simp; omega) (by have := HO.out; simp; omega))
  have HK3 : Hid (Keeps w.heap.size [J, R, b, U] w (x3.setCell ⟨U, 2, none⟩ (.int .u8 f2))) := HK3x.out.setCell (Or.inl (by simp)) _
  clear u0 u1 u2 u3 uf h1 hj2 hk3 hkS hbb
  go_wp2_with fail
  have u0 : (x3.setCell ⟨U, 2, none⟩ (.int .u8 f2)).cell? ⟨U, 0, none⟩ = some (.int .u8 f0) := by simp [go_sem, c0, c2]
  have u1 : (x3.setCell ⟨U, 2, none⟩ (.int .u8 f2)).cell? ⟨U, 1, none⟩ = some (.int .u8 f1) := by simp [go_sem, c1, c2]
  have u2 : (x3.setCell ⟨U, 2, none⟩ (.int .u8 f2)).cell? ⟨U, 2, none⟩ = some (.int .u8 f2) := by simp [go_sem, c2, c2]
  have u3 : (x3.setCell ⟨U, 2, none⟩ (.int .u8 f2)).cell? ⟨U, 3, none⟩ = some (v3) := by simp [go_sem, c3, c2]
  have uf : ∀ o, (x3.setCell ⟨U, 2, none⟩ (.int .u8 f2)).frozen? ⟨U, o, none⟩ = false := fun o => by simp [go_sem, cf]
  have hUs : U < (x3.setCell ⟨U, 2, none⟩ (.int .u8 f2)).heap.size := by simp [World.setCell]; exact hUx
  generalize x3.setCell ⟨U, 2, none⟩ (.int .u8 f2) = y3 at u0 u1 u2 u3 uf hUs HJ3 HK3 ⊢
  clear c0 c1 c2 c3 cf hUx
  rw [rounds_succ]
  go_wp2_with fail
  refine (readNextByte_calls f3 (rest) J R (some b) ad l lc _ HJ3.out).mono ?_
  rintro e x4 h1
  obtain rfl := h1.ret
  have hk4 := h1.keeps
  obtain ⟨b2, hj2, hbb, _⟩ := h1.out
  obtain rfl := (hbb b rfl).symm
  have c0 := (hk4.cell (p := ⟨U, 0, none⟩) hUs (by have := HO.out; simp; omega)).trans u0
  have c1 := (hk4.cell (p := ⟨U, 1, none⟩) hUs (by have := HO.out; simp; omega)).trans u1
  have c2 := (hk4.cell (p := ⟨U, 2, none⟩) hUs (by have := HO.out; simp; omega)).trans u2
  have c3 := (hk4.cell (p := ⟨U, 3, none⟩) hUs (by have := HO.out; simp; omega)).trans u3
  have cf : ∀ o, x4.frozen? ⟨U, o, none⟩ = false := fun o => (hk4.frozen (p := ⟨U, o, none⟩) hUs (by have := HO.out; simp; omega)).trans (uf o)
  have hUx : U < x4.heap.size := Nat.lt_of_lt_of_le hUs hk4.size
  have HK4x : Hid (Keeps w.heap.size [J, R, b, U] w x4) := HK3.out.trans (hk4.mono HK3.out.size (fun s hs _ => by simp at hs; simp; omega))
  have hkS : Keeps x4.heap.size [U] x4 (x4.setCell ⟨U, 3, none⟩ (.int .u8 f3)) := (Keeps.refl _ _ _).setCell (Or.inl (by simp)) _
  have HJ4 := Lib.hid (hj2.kept hkS hj2.order.1 hj2.order.2.1 (by have := HO.out; simp; omega) (by have := HO.out; simp; omega) (by have := HO.out; simp; omega) (by have := HO.out; simp; omega))
  have HK4 : Hid (Keeps w.heap.size [J, R, b, U] w (x4.setCell ⟨U, 3, none⟩ (.int .u8 f3))) := HK4x.out.setCell (Or.inl (by simp)) _
  clear u0 u1 u2 u3 uf h1 hj2 hk4 hkS hbb
  go_wp2_with fail
  have u0 : (x4.setCell ⟨U, 3, none⟩ (.int .u8 f3)).cell? ⟨U, 0, none⟩ = some (.int .u8 f0) := by simp [go_sem, c0, c3]
  have u1 : (x4.setCell ⟨U, 3, none⟩ (.int .u8 f3)).cell? ⟨U, 1, none⟩ = some (.int .u8 f1) := by simp [go_sem, c1, c3]
  have u2 : (x4.setCell ⟨U, 3, none⟩ (.int .u8 f3)).cell? ⟨U, 2, none⟩ = some (.int .u8 f2) := by simp [go_sem, c2, c3]
  have u3 : (x4.setCell ⟨U, 3, none⟩ (.int .u8 f3)).cell? ⟨U, 3, none⟩ = some (.int .u8 f3) := by simp [go_sem, c3, c3]
  have uf : ∀ o, (x4.setCell ⟨U, 3, none⟩ (.int .u8 f3)).frozen? ⟨U, o, none⟩ = false := fun o => by simp [go_sem, cf]
  have hUs : U < (x4.setCell ⟨U, 3, none⟩ (.int .u8 f3)).heap.size := by simp [World.setCell]; exact hUx
  generalize x4.setCell ⟨U, 3, none⟩ (.int .u8 f3) = y4 at u0 u1 u2 u3 uf hUs HJ4 HK4 ⊢
  clear c0 c1 c2 c3 cf hUx
  rw [rounds_succ]
  go_wp2_with fail
  go_ret
  exact ⟨rfl, HJ4.out, HK4.out, ⟨u0, u1, u2, u3⟩, uf, hUs⟩
end Go.Proofs.YtlgmlfhalgnppaaGreatDoor
/-! unicode/utf16.DecodeRune, weak. -/
set_option linter.unusedSimpArgs false
set_option linter.unusedVariables false
namespace Go.Proofs.YtlgmlfhalgnppaaGreatDoor
open Go.RowKit
open Go.Proofs.YtlgmlfhalgnppaaGreatDoorW.PrintWords hiding bt bt_at bt_range
theorem i32_range (x : Int) : -2147483648 ≤ IntKind.i32.wrap x ∧ IntKind.i32.wrap x ≤ 2147483647 := by rw [IntKind.wrap_i32]; omega
set_option maxRecDepth 100000 in
theorem DecodeRune_calls (r s : Int) (h0 : 55296 ≤ r) (h1 : r < 57344) (s0 : 0 ≤ s) (s1 : s < 65536) (w : World) :
    Calls Tryz.prog 161 #[.int .i32 r, .int .i32 s] w fun e w' => (∃ x, e = .returned (.int .i32 x) ∧ -2147483648 ≤ x ∧ x ≤ 2147483647) ∧ w' = w := by
  have a1 : decide (55296 ≤ r) = true := decide_eq_true h0
  by_cases z1 : r < 56320
  · have a2 : decide (r < 56320) = true := decide_eq_true z1
    by_cases z2 : 56320 ≤ s
    · have a3 : decide (56320 ≤ s) = true := decide_eq_true z2
      by_cases z3 : s < 57344
      · have a4 : decide (s < 57344) = true := decide_eq_true z3
        go_enter Tryz.func161, Tryz.ntmps161
        go_wp2
        go_ret
        refine ⟨⟨_, rfl, ?_⟩, rfl⟩
        generalize bits BinOp.or IntKind.i32 ((r - 55296) * 1024) (s - 56320) = q
        unfold wrap32
        omega
      · have a4 : decide (s < 57344) = false := decide_eq_false z3
        go_enter Tryz.func161, Tryz.ntmps161
        go_wp2
        go_ret
        exact ⟨⟨_, rfl, by omega, by omega⟩, rfl⟩
    · have a3 : decide (56320 ≤ s) = false := decide_eq_false z2
      go_enter Tryz.func161, Tryz.ntmps161
      go_wp2
      go_ret
      exact ⟨⟨_, rfl, by omega, by omega⟩, rfl⟩
  · have a2 : decide (r < 56320) = false := decide_eq_false z1
    go_enter Tryz.func161, Tryz.ntmps161
    go_wp2
    go_ret
    exact ⟨⟨_, rfl, by omega, by omega⟩, rfl⟩
end Go.Proofs.YtlgmlfhalgnppaaGreatDoor
/-! bson.jsonScanner.scanString. -/
set_option linter.unusedSimpArgs false
set_option linter.unusedVariables false
namespace Go.Proofs.YtlgmlfhalgnppaaGreatDoor
open Go.RowKit
open Go.Proofs.YtlgmlfhalgnppaaGreatDoorW.PrintWords hiding bt bt_at bt_range
/-- The state in scanString's loop: the buffer in block bb holds L; the scanner stands before rest. -/
structure Scn (bb J R b : Nat) (ad : Addr) (l : List Int) (lc : Nat) (w : World) (L : List UInt8) (rest : List Int) (wr : World) : Prop where
  buf : Lib.IsBuffer 233 5 bb bb (Lib.byteCells L) wr
  js : JsR J R ad l lc (some b) rest wr
  keeps : Keeps bb [J, R, b] w wr
  ord : J < bb ∧ R < bb ∧ b < bb ∧ bb ≤ wr.heap.size
theorem buf_keeps {bb : Nat} {bs : List Value} {w w' : World} {S : List Nat} (h : Lib.IsBuffer 233 5 bb bb bs w) (k : Keeps w.heap.size S w w') (hS : ∀ s ∈ S, s < bb ∨ w.heap.size ≤ s) : Lib.IsBuffer 233 5 bb bb bs w' := by
  have hlt := h.lt
  obtain ⟨hB, v, lr, hbk, hown, hne⟩ := h
  refine ⟨hB, v, lr, (k.block bb hlt (fun hm => by have := hS bb hm; omega)).trans hbk, k.owns hown (fun g hg => ?_), hne⟩
  rcases hown.2 with ⟨rfl, _⟩ | ⟨g', cap, cur, rfl, hb, hgg, _⟩
  · cases hg
  · obtain rfl : g' = g := Option.some.inj hg
    have hgl : g' < w.heap.size := by
      by_cases hh : g' < w.heap.size
      · exact hh
      · rw [Array.getElem?_eq_none (by omega)] at hgg; cases hgg
    exact ⟨hgl, fun hm => by have := hS g' hm; omega⟩
theorem Scn.read {bb J R b : Nat} {ad : Addr} {l : List Int} {lc : Nat} {w : World} {L : List UInt8} {c : Int} {r0 rest : List Int} {wr w' : World} {e : Ending} (h : Scn bb J R b ad l lc w L r0 wr) (k : NextB c J R ad l lc (some b) rest wr e w') : Scn bb J R b ad l lc w L rest w' := by
  obtain ⟨b2, hj, hb, _⟩ := k.out
  obtain rfl := (hb b rfl).symm
  refine ⟨buf_keeps h.buf k.keeps (fun s hs => ?_), hj, h.keeps.trans (k.keeps.mono h.ord.2.2.2 (fun s hs _ => by simpa using hs)), h.ord.1, h.ord.2.1, h.ord.2.2.1, Nat.le_trans h.ord.2.2.2 k.keeps.size⟩
  have := h.ord
  simp only [Option.toList_some, List.mem_cons, List.not_mem_nil, or_false] at hs
  rcases hs with rfl | rfl | rfl <;> omega
theorem byteCells_snoc (L : List UInt8) (c : Int) (h0 : 0 ≤ c) (h1 : c ≤ 255) : Lib.byteCells L ++ [.int .u8 c] = Lib.byteCells (L ++ [UInt8.ofNat c.toNat]) := by
  rw [Lib.byteCells_append]
  congr 1
  show [Value.int .u8 c] = [Value.int .u8 ((UInt8.ofNat c.toNat).toNat : Int)]
  have : (UInt8.ofNat c.toNat).toNat = c.toNat := UInt8.toNat_ofNat_of_lt' (by show _ < 256; omega)
  rw [this]
  congr 2
  omega
theorem Scn.wrote {bb J R b : Nat} {ad : Addr} {l : List Int} {lc : Nat} {w : World} {L L2 : List UInt8} {rest : List Int} {wr w' : World} (h : Scn bb J R b ad l lc w L rest wr) (hb : Lib.IsBuffer 233 5 bb bb (Lib.byteCells L2) w') (hw : Below bb wr w') : Scn bb J R b ad l lc w L2 rest w' :=
  ⟨hb, h.js.kept (B := bb) (S := []) (Keeps.ofBelow hw) h.ord.1 h.ord.2.2.1 (by simp) (by simp) (by simp) (by simp), h.keeps.then_below hw, h.ord.1, h.ord.2.1, h.ord.2.2.1, Nat.le_trans h.ord.2.2.2 hw.size⟩
/-- WriteByte into the buffer. -/
theorem writeByte_calls {bb J R b : Nat} {ad : Addr} {l : List Int} {lc : Nat} {w : World} {L : List UInt8} {rest : List Int} {wr : World} (c : Int) (h0 : 0 ≤ c) (h1 : c ≤ 255) (h : Scn bb J R b ad l lc w L rest wr) (hL : L.length ≤ 100000000000) :
    Calls Tryz.prog 156 #[.pointer (some ⟨bb, 0, none⟩), .int .u8 c] wr fun e w' => e = .returned .nilIface ∧ Scn bb J R b ad l lc w (L ++ [UInt8.ofNat c.toNat]) rest w' :=
  (Tryz.Buffer_WriteByte_k bb bb (Lib.byteCells L) c wr h.buf h.ord.2.2.2 (Lib.byteCells_one _) (by rw [Lib.byteCells_length]; omega)).mono fun e w' ⟨he, hb, hw, _⟩ => ⟨he, h.wrote (by rw [← byteCells_snoc L c h0 h1]; exact hb) hw⟩
theorem writeRune_calls {bb J R b : Nat} {ad : Addr} {l : List Int} {lc : Nat} {w : World} {L : List UInt8} {rest : List Int} {wr : World} (r : Int) (h0 : -2147483648 ≤ r) (h1 : r ≤ 2147483647) (h : Scn bb J R b ad l lc w L rest wr) (hL : L.length ≤ 100000000000) :
    Calls Tryz.prog 160 #[.pointer (some ⟨bb, 0, none⟩), .int .i32 r] wr fun e w' => (∃ n : Int, e = .returned (.tuple #[.int .i64 n, .nilIface])) ∧ ∃ L2, L2.length ≤ L.length + 4 ∧ Scn bb J R b ad l lc w L2 rest w' :=
  (Tryz.Buffer_WriteRune_k bb bb (Lib.byteCells L) r h0 h1 wr h.buf h.ord.2.2.2 (Lib.byteCells_one _) (by rw [Lib.byteCells_length]; omega)).mono fun e w' ⟨he, hb, hw, _⟩ => ⟨⟨_, he⟩, L ++ Lib.encodeRune r, by have := (Lib.runeCells_le r).2; rw [Lib.runeCells_length] at this; rw [List.length_append]; omega, h.wrote (by rw [Lib.byteCells_append, Lib.byteCells_encodeRune]; exact hb) hw⟩
/-- The scanner while four bytes are read into the new block U. -/
structure Scu (bb J R b U : Nat) (ad : Addr) (l : List Int) (lc : Nat) (w : World) (L : List UInt8) (rest : List Int) (wr W : World) : Prop where
  base : ∃ r0, Scn bb J R b ad l lc w L r0 wr
  hU : U = wr.heap.size
  lt : U < W.heap.size
  js : JsR J R ad l lc (some b) rest W
  keeps : Keeps wr.heap.size [J, R, b] wr W
  cells : ∀ i, i < 4 → ∃ v, W.cell? ⟨U, i, none⟩ = some v
  fr : ∀ o, W.frozen? ⟨U, o, none⟩ = false
theorem Scu.scn {bb J R b U : Nat} {ad : Addr} {l : List Int} {lc : Nat} {w : World} {L : List UInt8} {rest : List Int} {wr W : World} (h : Scu bb J R b U ad l lc w L rest wr W) : Scn bb J R b ad l lc w L rest W := by
  obtain ⟨r0, hs⟩ := h.base
  have ho := hs.ord
  refine ⟨buf_keeps hs.buf h.keeps (fun s m => ?_), h.js, hs.keeps.trans (h.keeps.mono ho.2.2.2 (fun s m _ => m)), ho.1, ho.2.1, ho.2.2.1, Nat.le_trans ho.2.2.2 h.keeps.size⟩
  simp only [List.mem_cons, List.not_mem_nil, or_false] at m
  rcases m with rfl | rfl | rfl <;> omega
theorem Scu.start {bb J R b : Nat} {ad : Addr} {l : List Int} {lc : Nat} {w : World} {L : List UInt8} {rest : List Int} {wr : World} (h : Scn bb J R b ad l lc w L rest wr) (o : Obj) (hc : ∀ i, i < 4 → ∃ v, (wr.alloc o).cell? ⟨wr.heap.size, i, none⟩ = some v) (hf : ∀ i, (wr.alloc o).frozen? ⟨wr.heap.size, i, none⟩ = false) : Scu bb J R b wr.heap.size ad l lc w L rest wr (wr.alloc o) :=
  ⟨⟨rest, h⟩, rfl, by simp, h.js.below ((Below.refl _ _).alloc (Nat.le_refl _) _), (Keeps.refl _ _ _).alloc (Nat.le_refl _) o, hc, hf⟩
theorem Scu.read {bb J R b U : Nat} {ad : Addr} {l : List Int} {lc : Nat} {w : World} {L : List UInt8} {r0 rest : List Int} {wr W w' : World} {c : Int} {e : Ending} (h : Scu bb J R b U ad l lc w L r0 wr W) (k : NextB c J R ad l lc (some b) rest W e w') : Scu bb J R b U ad l lc w L rest wr w' := by
  obtain ⟨b2, hj, hb, _⟩ := k.out
  obtain rfl := (hb b rfl).symm
  obtain ⟨r1, hs⟩ := h.base
  have ho := hs.ord
  have hU := h.hU
  have hn : U ∉ (J :: R :: (some b).toList) := by
    simp only [Option.toList_some, List.mem_cons, List.not_mem_nil, or_false]
    omega
  refine ⟨⟨r1, hs⟩, hU, Nat.lt_of_lt_of_le h.lt k.keeps.size, hj, h.keeps.trans (k.keeps.mono h.keeps.size (fun s hs _ => by simpa using hs)), fun i hi => ?_, fun o => (k.keeps.frozen (p := ⟨U, o, none⟩) h.lt hn).trans (h.fr o)⟩
  obtain ⟨v, hv⟩ := h.cells i hi
  exact ⟨v, (k.keeps.cell (p := ⟨U, i, none⟩) h.lt hn).trans hv⟩
theorem read4_calls {bb J R b U : Nat} {ad : Addr} {l : List Int} {lc : Nat} {w : World} {L : List UInt8} {f0 f1 f2 f3 : Int} {rest : List Int} {wr W : World} (h : Scu bb J R b U ad l lc w L (f0 :: f1 :: f2 :: f3 :: rest) wr W) :
    Calls Tryz.prog 157 #[.pointer (some ⟨J, 0, none⟩), .slice (some ⟨U, 0, none⟩) 4 4, .int .i64 4, .int .i64 0] W
      (fun e w' => e = .returned .nilIface ∧ Scu bb J R b U ad l lc w L rest wr w' ∧ (w'.cell? ⟨U, 0, none⟩ = some (.int .u8 f0) ∧ w'.cell? ⟨U, 1, none⟩ = some (.int .u8 f1) ∧ w'.cell? ⟨U, 2, none⟩ = some (.int .u8 f2) ∧ w'.cell? ⟨U, 3, none⟩ = some (.int .u8 f3))) := by
  obtain ⟨r1, hs⟩ := h.base
  have ho := hs.ord
  have hU := h.hU
  obtain ⟨v0, h0⟩ := h.cells 0 (by omega)
  obtain ⟨v1, h1⟩ := h.cells 1 (by omega)
  obtain ⟨v2, h2⟩ := h.cells 2 (by omega)
  obtain ⟨v3, h3⟩ := h.cells 3 (by omega)
  refine (readN4_calls f0 f1 f2 f3 rest J R b U ad l lc W h.js h.lt (by omega) v0 v1 v2 v3 h0 h1 h2 h3 h.fr).mono ?_
  rintro e w' ⟨he, hj, hk, ⟨c0, c1, c2, c3⟩, hf, hlt⟩
  refine ⟨he, ⟨⟨r1, hs⟩, hU, hlt, hj, h.keeps.trans (hk.mono h.keeps.size (fun s hs hl => ?_)), fun i hi => ?_, hf⟩, c0, c1, c2, c3⟩
  · simp only [List.mem_cons, List.not_mem_nil, or_false] at hs ⊢
    omega
  · rcases (by omega : i = 0 ∨ i = 1 ∨ i = 2 ∨ i = 3) with rfl | rfl | rfl | rfl
    · exact ⟨_, c0⟩
    · exact ⟨_, c1⟩
    · exact ⟨_, c2⟩
    · exact ⟨_, c3⟩
/-- getu4 of four hexadecimal digits. -/
theorem getu4_hex (U : Nat) (a b c d : Int) (ha : hx a) (hb : hx b) (hc : hx c) (hd : hx d) (w : World) (c0 : w.cell? ⟨U, 0, none⟩ = some (.int .u8 a)) (c1 : w.cell? ⟨U, 1, none⟩ = some (.int .u8 b)) (c2 : w.cell? ⟨U, 2, none⟩ = some (.int .u8 c)) (c3 : w.cell? ⟨U, 3, none⟩ = some (.int .u8 d)) :
    Calls Tryz.prog 158 #[.slice (some ⟨U, 0, none⟩) 4 4] w fun e w' => e = .returned (.int .i32 (u4 a b c d)) ∧ w' = w := by
  let f : Nat → Int := fun i => if i = 0 then a else if i = 1 then b else if i = 2 then c else d
  have e : accU f 4 = u4 a b c d := by simp [accU, u4, f]
  rw [← e]
  exact getu4_calls U f (fun j hj => by rcases (by omega : j = 0 ∨ j = 1 ∨ j = 2 ∨ j = 3) with rfl | rfl | rfl | rfl <;> assumption) w (fun j hj => by rcases (by omega : j = 0 ∨ j = 1 ∨ j = 2 ∨ j = 3) with rfl | rfl | rfl | rfl <;> assumption)
theorem u4_range {a b c d : Int} (ha : hx a) (hb : hx b) (hc : hx c) (hd : hx d) : 0 ≤ u4 a b c d ∧ u4 a b c d < 65536 := by
  have k : ∀ x : Int, hv x < 16 := fun x => by unfold hv; (repeat' split) <;> omega
  have := k a; have := k b; have := k c; have := k d
  unfold hx at ha hb hc hd
  unfold u4
  omega
theorem made_four (W : World) : (Instr.makeSlice 23 (.int .i64 4) (.int .i64 4)).run Tryz.prog W = .ok (.slice (some ⟨W.heap.size, 0, none⟩) 4 4) (W.alloc (.cells #[.int .u8 0, .int .u8 0, .int .u8 0, .int .u8 0] 5)) := by
  obtain ⟨i, hi, hh⟩ := Option.map_eq_some_iff.1 info_u8
  simp only [Prod.mk.injEq] at hh
  obtain ⟨hz, hc, hb⟩ := hh
  have := run_make (P := Tryz.prog) W 23 5 i (.int .u8 0) Tryz.underlying23 hi hz .i64 .i64 4 4 (by omega) (by omega) (by rw [hb]; omega) (by omega)
  rw [hc] at this
  have e : madeCells (Value.int .u8 0).cells (Int.toNat 4 * 1) = #[.int .u8 0, .int .u8 0, .int .u8 0, .int .u8 0] := by kernel_rfl
  rw [e] at this
  exact this
set_option maxRecDepth 100000 in
set_option maxHeartbeats 4000000 in
theorem scanString_calls (body rest : List Int) (hbody : JB body) (hlen : body.length ≤ 1000000000) (J R b : Nat) (ad : Addr) (l : List Int) (lc : Nat) (w : World) (h : JsR J R ad l lc (some b) (body ++ 34 :: rest) w) :
    Calls Tryz.prog 138 #[.pointer (some ⟨J, 0, none⟩)] w (TokStr J R ad l lc (some b) rest w) := by
  have ho := h.order
  obtain ⟨bs0, pos0, i0, hj0, _⟩ := h.out
  have j2 := hj0.j2
  have hlt := ho.1
  have HS0 : Hid (Scn w.heap.size J R b ad l lc w [] (body ++ 34 :: rest) (w.alloc (.cells #[.slice none 0 0, .int .i64 0, .int .i8 0] 233))) :=
    ⟨Lib.fresh_isBuffer _ _ w, h.below ((Below.refl _ _).alloc (Nat.le_refl _) _), (Keeps.refl _ _ _).alloc (Nat.le_refl _) _, by omega, by omega, by omega, by simp⟩
  have hmk := made_four
  have HB := Lib.hid hbody
  have HO := Lib.hid ho
  clear hj0 h hbody ho
  go_enter Tryz.func138, Tryz.ntmps138
  go_wp2_with fail
  go_loopg [5, 6] (body.length) (fun k c e wr => ∃ (bd : List Int) (L : List UInt8), k = bd.length ∧ Hid (JB bd) ∧ L.length + 4 * bd.length ≤ 4000000000 ∧ Hid (Scn w.heap.size J R b ad l lc w L (bd ++ 34 :: rest) wr))
  case atStart => exact ⟨body, [], rfl, HB.out, by simp; omega, HS0.out⟩
  case round =>
    obtain ⟨bd, L, rfl, HJB, hL, HS⟩ := hrel
    go_wp2_with fail
    go_step3
    go_wp2_with fail
    have hjb := HJB.out
    cases hjb with
    | nil =>
      refine (readNextByte_calls 34 rest J R (some b) ad l lc _ HS.out.js).mono ?_
      rintro e w1 h1
      obtain rfl := h1.ret
      have HS1 := Lib.hid (HS.out.read h1)
      clear h1
      go_wp2_with fail
      go_step3
      go_wp2_with fail
      refine (Tryz.Buffer_String _ _ L _ HS1.out.buf).mono ?_
      rintro e w2 ⟨rfl, n, rfl⟩
      go_wp2_with fail
      go_ret2
      have hk := HS1.out.keeps
      have hz : w.heap.size ≤ w1.heap.size := HS1.out.ord.2.2.2
      refine ⟨⟨w1.heap.size, ⟨L.toArray⟩, .int .i64 (wrap64 (pos0 - 1)), rfl, hz, Array.size_push (xs := (w1.drewN n).heap) _ ▸ Nat.lt_succ_self _, ?_, ?_, ?_⟩, ⟨b, (HS1.out.js.below (pw_below_drewN (Below.refl _ _) n)).below ((Below.refl _ _).alloc (Nat.le_refl _) _), fun b0 e => Option.some.inj e, fun e => by cases e⟩, ?_⟩
      · show ((w1.drewN n).alloc _).cell? ⟨(w1.drewN n).heap.size, 0, none⟩ = _
        rw [World.cell?_alloc_new]
        rfl
      · show ((w1.drewN n).alloc _).cell? ⟨(w1.drewN n).heap.size, 1, none⟩ = _
        rw [World.cell?_alloc_new]
        rfl
      · show ((w1.drewN n).alloc _).cell? ⟨(w1.drewN n).heap.size, 2, none⟩ = _
        rw [World.cell?_alloc_new]
        rfl
      · exact ((hk.drewN n).alloc hz _).mono (Nat.le_refl _) (fun s hs _ => by simpa using hs)
    | byte x bd2 q0 q1 q2 q3 q4 =>
      have f1 : (x == 92) = false := by rw [beq_eq_false_iff_ne]; exact q3
      have f2 : (x == 34) = false := by rw [beq_eq_false_iff_ne]; exact q2
      have HQ := Lib.hid q4
      clear q2 q3 q4
      refine (readNextByte_calls x (bd2 ++ 34 :: rest) J R (some b) ad l lc _ HS.out.js).mono ?_
      rintro e w1 h1
      obtain rfl := h1.ret
      have HS1 := Lib.hid (HS.out.read h1)
      clear h1
      simp only [List.length_cons] at hL
      go_wp2_with fail
      go_step3
      go_wp2_with fail
      refine (writeByte_calls x q0 q1 HS1.out (by omega)).mono ?_
      rintro e w2 ⟨rfl, h2⟩
      have HS2 := Lib.hid h2
      clear h2
      go_wp2_with fail
      rw [Exit.noGoto_normal]
      go_wp2_with fail
      go_roundg bd2.length
      case measure => simp
      case rel => exact ⟨bd2, _, rfl, HQ.out, by (try simp only [List.length_append, List.length_cons, List.length_nil]); omega, HS2.out⟩
    | esc x bd2 q0 q1 =>
      have hx8 : x = 34 ∨ x = 92 ∨ x = 47 ∨ x = 98 ∨ x = 102 ∨ x = 110 ∨ x = 114 ∨ x = 116 := by
        simp only [escB, Bool.or_eq_true, beq_iff_eq] at q0
        omega
      have HQ := Lib.hid q1
      clear q0 q1
      simp only [List.length_cons] at hL
      refine (readNextByte_calls 92 (x :: (bd2 ++ 34 :: rest)) J R (some b) ad l lc _ HS.out.js).mono ?_
      rintro e w1 h1
      obtain rfl := h1.ret
      have HS1 := Lib.hid (HS.out.read h1)
      clear h1
      go_wp2_with fail
      go_step3
      go_wp2_with fail
      go_step3
      go_wp2_with fail
      refine (readNextByte_calls x (bd2 ++ 34 :: rest) J R (some b) ad l lc _ HS1.out.js).mono ?_
      rintro e w2 h1
      obtain rfl := h1.ret
      have HS2 := Lib.hid (HS1.out.read h1)
      clear h1
      rcases hx8 with rfl | rfl | rfl | rfl | rfl | rfl | rfl | rfl
      · go_wp2_with fail
        go_step3
        go_wp2_with fail
        refine (writeByte_calls 34 (by omega) (by omega) HS2.out (by omega)).mono ?_
        rintro e w3 ⟨rfl, h2⟩
        have HS3 := Lib.hid h2
        clear h2
        go_wp2_with fail
        rw [Exit.noGoto_normal]
        go_wp2_with fail
        (try rw [Exit.noGoto_normal])
        (try go_wp2_with fail)
        go_roundg bd2.length
        case measure => (try simp only [List.length_cons]); omega
        case rel => exact ⟨bd2, _, rfl, HQ.out, by (try simp only [List.length_append, List.length_cons, List.length_nil]); omega, HS3.out⟩
      · go_wp2_with fail
        go_step3
        go_wp2_with fail
        refine (writeByte_calls 92 (by omega) (by omega) HS2.out (by omega)).mono ?_
        rintro e w3 ⟨rfl, h2⟩
        have HS3 := Lib.hid h2
        clear h2
        go_wp2_with fail
        rw [Exit.noGoto_normal]
        go_wp2_with fail
        (try rw [Exit.noGoto_normal])
        (try go_wp2_with fail)
        go_roundg bd2.length
        case measure => (try simp only [List.length_cons]); omega
        case rel => exact ⟨bd2, _, rfl, HQ.out, by (try simp only [List.length_append, List.length_cons, List.length_nil]); omega, HS3.out⟩
      · go_wp2_with fail
        go_step3
        go_wp2_with fail
        refine (writeByte_calls 47 (by omega) (by omega) HS2.out (by omega)).mono ?_
        rintro e w3 ⟨rfl, h2⟩
        have HS3 := Lib.hid h2
        clear h2
        go_wp2_with fail
        rw [Exit.noGoto_normal]
        go_wp2_with fail
        (try rw [Exit.noGoto_normal])
        (try go_wp2_with fail)
        go_roundg bd2.length
        case measure => (try simp only [List.length_cons]); omega
        case rel => exact ⟨bd2, _, rfl, HQ.out, by (try simp only [List.length_append, List.length_cons, List.length_nil]); omega, HS3.out⟩
      · go_wp2_with fail
        go_step3
        go_wp2_with fail
        refine (writeByte_calls 8 (by omega) (by omega) HS2.out (by omega)).mono ?_
        rintro e w3 ⟨rfl, h2⟩
        have HS3 := Lib.hid h2
        clear h2
        go_wp2_with fail
        rw [Exit.noGoto_normal]
        go_wp2_with fail
        (try rw [Exit.noGoto_normal])
        (try go_wp2_with fail)
        go_roundg bd2.length
        case measure => (try simp only [List.length_cons]); omega
        case rel => exact ⟨bd2, _, rfl, HQ.out, by (try simp only [List.length_append, List.length_cons, List.length_nil]); omega, HS3.out⟩
      · go_wp2_with fail
        go_step3
        go_wp2_with fail
        refine (writeByte_calls 12 (by omega) (by omega) HS2.out (by omega)).mono ?_
        rintro e w3 ⟨rfl, h2⟩
        have HS3 := Lib.hid h2
        clear h2
        go_wp2_with fail
        rw [Exit.noGoto_normal]
        go_wp2_with fail
        (try rw [Exit.noGoto_normal])
        (try go_wp2_with fail)
        go_roundg bd2.length
        case measure => (try simp only [List.length_cons]); omega
        case rel => exact ⟨bd2, _, rfl, HQ.out, by (try simp only [List.length_append, List.length_cons, List.length_nil]); omega, HS3.out⟩
      · go_wp2_with fail
        go_step3
        go_wp2_with fail
        refine (writeByte_calls 10 (by omega) (by omega) HS2.out (by omega)).mono ?_
        rintro e w3 ⟨rfl, h2⟩
        have HS3 := Lib.hid h2
        clear h2
        go_wp2_with fail
        rw [Exit.noGoto_normal]
        go_wp2_with fail
        (try rw [Exit.noGoto_normal])
        (try go_wp2_with fail)
        go_roundg bd2.length
        case measure => (try simp only [List.length_cons]); omega
        case rel => exact ⟨bd2, _, rfl, HQ.out, by (try simp only [List.length_append, List.length_cons, List.length_nil]); omega, HS3.out⟩
      · go_wp2_with fail
        go_step3
        go_wp2_with fail
        refine (writeByte_calls 13 (by omega) (by omega) HS2.out (by omega)).mono ?_
        rintro e w3 ⟨rfl, h2⟩
        have HS3 := Lib.hid h2
        clear h2
        go_wp2_with fail
        rw [Exit.noGoto_normal]
        go_wp2_with fail
        (try rw [Exit.noGoto_normal])
        (try go_wp2_with fail)
        go_roundg bd2.length
        case measure => (try simp only [List.length_cons]); omega
        case rel => exact ⟨bd2, _, rfl, HQ.out, by (try simp only [List.length_append, List.length_cons, List.length_nil]); omega, HS3.out⟩
      · go_wp2_with fail
        go_step3
        go_wp2_with fail
        refine (writeByte_calls 9 (by omega) (by omega) HS2.out (by omega)).mono ?_
        rintro e w3 ⟨rfl, h2⟩
        have HS3 := Lib.hid h2
        clear h2
        go_wp2_with fail
        rw [Exit.noGoto_normal]
        go_wp2_with fail
        (try rw [Exit.noGoto_normal])
        (try go_wp2_with fail)
        go_roundg bd2.length
        case measure => (try simp only [List.length_cons]); omega
        case rel => exact ⟨bd2, _, rfl, HQ.out, by (try simp only [List.length_append, List.length_cons, List.length_nil]); omega, HS3.out⟩
    | uni a1 a2 a3 a4 bd2 q1 q2 q3 q4 q5 q_ =>
      have G1 := q1
      have G2 := q2
      have G3 := q3
      have G4 := q4
      have HR := Lib.hid (And.intro (u4_range q1 q2 q3 q4) q5)
      have HQ := Lib.hid q_
      clear q1 q2 q3 q4 q5 q_
      simp only [List.length_cons] at hL
      refine (readNextByte_calls 92 (117 :: a1 :: a2 :: a3 :: a4 :: (bd2 ++ 34 :: rest)) J R (some b) ad l lc _ HS.out.js).mono ?_
      rintro e w1 h1
      obtain rfl := h1.ret
      have HS1 := Lib.hid (HS.out.read h1)
      clear h1
      go_wp2_with fail
      go_step3
      go_wp2_with fail
      go_step3
      go_wp2_with fail
      refine (readNextByte_calls 117 (a1 :: a2 :: a3 :: a4 :: (bd2 ++ 34 :: rest)) J R (some b) ad l lc _ HS1.out.js).mono ?_
      rintro e w2 h1
      obtain rfl := h1.ret
      have HS2 := Lib.hid (HS1.out.read h1)
      clear h1
      go_wp2_with fail
      go_step3
      go_wp2_with fail
      refine (read4_calls (Scu.start HS2.out _ (fun i hi => ?_) (fun i => ?_))).mono ?_
      · rcases (by omega : i = 0 ∨ i = 1 ∨ i = 2 ∨ i = 3) with rfl | rfl | rfl | rfl <;> exact ⟨.int .u8 0, by simp [go_sem]⟩
      · simp [go_sem]
      rintro e w3 ⟨rfl, h3, k0, k1, k2, k3⟩
      have HS3 := Lib.hid h3
      clear h3
      go_wp2_with fail
      refine (getu4_hex _ a1 a2 a3 a4 G1 G2 G3 G4 _ k0 k1 k2 k3).mono ?_
      clear k0 k1 k2 k3
      rintro e w4 ⟨rfl, rfl⟩
      obtain ⟨rn, hrn⟩ : ∃ rn, rn = u4 a1 a2 a3 a4 := ⟨_, rfl⟩
      rw [← hrn] at HR ⊢
      have HRN := Lib.hid hrn
      clear hrn
      go_wp2_with fail
      refine (IsSurrogate_no rn HR.out.2 _).mono ?_
      rintro e w5 ⟨rfl, rfl⟩
      go_wp2_with fail
      refine (writeRune_calls rn (by have := HR.out; omega) (by have := HR.out; omega) HS3.out.scn (by omega)).mono ?_
      rintro e w6 ⟨⟨n6, rfl⟩, L6, hL6, h6⟩
      have HS6 := Lib.hid h6
      clear h6
      go_wp2_with fail
      rw [Exit.noGoto_normal]
      go_wp2_with fail
      (try rw [Exit.noGoto_normal])
      (try go_wp2_with fail)
      go_roundg bd2.length
      case measure => (try simp only [List.length_cons]); omega
      case rel => exact ⟨bd2, _, rfl, HQ.out, by (try simp only [List.length_append, List.length_cons, List.length_nil]); omega, HS6.out⟩
    | pair a1 a2 a3 a4 e1 e2 e3 e4 bd2 q1 q2 q3 q4 q5 q6 q7 q8 q9 q10 q_ =>
      have G1 := q1
      have G2 := q2
      have G3 := q3
      have G4 := q4
      have K1 := q7
      have K2 := q8
      have K3 := q9
      have K4 := q10
      have HR := Lib.hid (And.intro q5 q6)
      have HR2 := Lib.hid (u4_range q7 q8 q9 q10)
      have HQ := Lib.hid q_
      clear q1 q2 q3 q4 q5 q6 q7 q8 q9 q10 q_
      simp only [List.length_cons] at hL
      refine (readNextByte_calls 92 (117 :: a1 :: a2 :: a3 :: a4 :: 92 :: 117 :: e1 :: e2 :: e3 :: e4 :: (bd2 ++ 34 :: rest)) J R (some b) ad l lc _ HS.out.js).mono ?_
      rintro e w1 h1
      obtain rfl := h1.ret
      have HS1 := Lib.hid (HS.out.read h1)
      clear h1
      go_wp2_with fail
      go_step3
      go_wp2_with fail
      go_step3
      go_wp2_with fail
      refine (readNextByte_calls 117 (a1 :: a2 :: a3 :: a4 :: 92 :: 117 :: e1 :: e2 :: e3 :: e4 :: (bd2 ++ 34 :: rest)) J R (some b) ad l lc _ HS1.out.js).mono ?_
      rintro e w2 h1
      obtain rfl := h1.ret
      have HS2 := Lib.hid (HS1.out.read h1)
      clear h1
      go_wp2_with fail
      go_step3
      go_wp2_with fail
      refine (read4_calls (Scu.start HS2.out _ (fun i hi => ?_) (fun i => ?_))).mono ?_
      · rcases (by omega : i = 0 ∨ i = 1 ∨ i = 2 ∨ i = 3) with rfl | rfl | rfl | rfl <;> exact ⟨.int .u8 0, by simp [go_sem]⟩
      · simp [go_sem]
      rintro e w3 ⟨rfl, h3, k0, k1, k2, k3⟩
      have HS3 := Lib.hid h3
      clear h3
      go_wp2_with fail
      refine (getu4_hex _ a1 a2 a3 a4 G1 G2 G3 G4 _ k0 k1 k2 k3).mono ?_
      clear k0 k1 k2 k3
      rintro e w4 ⟨rfl, rfl⟩
      obtain ⟨rn, hrn⟩ : ∃ rn, rn = u4 a1 a2 a3 a4 := ⟨_, rfl⟩
      rw [← hrn] at HR ⊢
      have HRN := Lib.hid hrn
      clear hrn
      go_wp2_with fail
      refine (IsSurrogate_yes rn HR.out _).mono ?_
      rintro e w5 ⟨rfl, rfl⟩
      go_wp2_with fail
      refine (readNextByte_calls 92 (117 :: e1 :: e2 :: e3 :: e4 :: (bd2 ++ 34 :: rest)) J R (some b) ad l lc _ HS3.out.js).mono ?_
      rintro e w5 h1
      obtain rfl := h1.ret
      have HS5 := Lib.hid (HS3.out.read h1)
      clear h1
      go_wp2_with fail
      refine (readNextByte_calls 117 (e1 :: e2 :: e3 :: e4 :: (bd2 ++ 34 :: rest)) J R (some b) ad l lc _ HS5.out.js).mono ?_
      rintro e w6 h1
      obtain rfl := h1.ret
      have HS6 := Lib.hid (HS5.out.read h1)
      clear h1
      go_wp2_with fail
      refine (read4_calls HS6.out).mono ?_
      rintro e w7 ⟨rfl, h3, k0, k1, k2, k3⟩
      have HS7 := Lib.hid h3
      clear h3
      go_wp2_with fail
      refine (getu4_hex _ e1 e2 e3 e4 K1 K2 K3 K4 _ k0 k1 k2 k3).mono ?_
      clear k0 k1 k2 k3
      rintro e w8 ⟨rfl, rfl⟩
      obtain ⟨rn2, hrn2⟩ : ∃ rn, rn = u4 e1 e2 e3 e4 := ⟨_, rfl⟩
      rw [← hrn2] at HR2 ⊢
      have HRN2 := Lib.hid hrn2
      clear hrn2
      go_wp2_with fail
      refine (DecodeRune_calls rn rn2 HR.out.1 HR.out.2 HR2.out.1 HR2.out.2 _).mono ?_
      rintro e w8 ⟨⟨x, rfl, x0, x1⟩, rfl⟩
      by_cases hx3 : x = 65533
      · subst hx3
        clear x0 x1
        go_wp2_with fail
        refine (writeRune_calls 65533 (by omega) (by omega) HS7.out.scn (by omega)).mono ?_
        rintro e w9 ⟨⟨n9, rfl⟩, L9, hL9, h9⟩
        have HS9 := Lib.hid h9
        clear h9
        go_wp2_with fail
        refine (writeRune_calls rn2 (by have := HR2.out; omega) (by have := HR2.out; omega) HS9.out (by omega)).mono ?_
        rintro e w10 ⟨⟨n10, rfl⟩, L10, hL10, h10⟩
        have HS10 := Lib.hid h10
        clear h10
        go_wp2_with fail
        rw [Exit.noGoto_normal]
        go_wp2_with fail
        (try rw [Exit.noGoto_normal])
        (try go_wp2_with fail)
        go_roundg bd2.length
        case measure => (try simp only [List.length_cons]); omega
        case rel => exact ⟨bd2, _, rfl, HQ.out, by (try simp only [List.length_append, List.length_cons, List.length_nil]); omega, HS10.out⟩
      · have hx4 : (x == 65533) = false := beq_eq_false_iff_ne.2 hx3
        clear hx3
        go_wp2_with fail
        refine (writeRune_calls x x0 x1 HS7.out.scn (by omega)).mono ?_
        rintro e w9 ⟨⟨n9, rfl⟩, L9, hL9, h9⟩
        have HS9 := Lib.hid h9
        clear h9
        go_wp2_with fail
        rw [Exit.noGoto_normal]
        go_wp2_with fail
        (try rw [Exit.noGoto_normal])
        (try go_wp2_with fail)
        go_roundg bd2.length
        case measure => (try simp only [List.length_cons]); omega
        case rel => exact ⟨bd2, _, rfl, HQ.out, by (try simp only [List.length_append, List.length_cons, List.length_nil]); omega, HS9.out⟩
end Go.Proofs.YtlgmlfhalgnppaaGreatDoor
