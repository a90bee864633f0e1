/- A part of the proof that laws.FnExtKind returns true at every input: Rd, Js, Rnb. -/
import Derived.Test.YtlgmlfhalgnppaaGreatDoorB
import Derived.BigQuiet
import Derived.Deep.RegionHeld3
import Derived.Deep.DeepMust
import Derived.Deep.RegionLaw
import Derived.Laws.CopyOwn
/-! bytes.Reader's Read where something is left. -/
set_option linter.unusedSimpArgs false
set_option linter.unusedVariables false
namespace Go.Proofs.YtlgmlfhalgnppaaGreatDoor
open Go.RowKit
open Go.Proofs.YtlgmlfhalgnppaaGreatDoorW.PrintWords hiding bt bt_at bt_range
theorem step_copy_row {P : Program} {ops : Array Oper} {o : Oper} {a : Act} {w : World} {K : Act → World → Prop} {Q : Exit → Act → World → Prop} {E : Prop} (hgd : o.guard = none) (d s : Operand) (dT sT : TypeId)
    (ho : o.op = .call { callee := .builtin .copy, args := #[d, s], argTypes := #[dT, sT] }) (elem : TypeId) (hu : P.underlying dT = some (.slice elem)) (hsz : (P.info? elem).map (·.size) = some 1)
    (g dLen dCap : Nat) (ad : Addr) (sLen sCap : Nat) (hd : a.eval d = .slice (some ⟨g, 0, none⟩) dLen dCap) (hs : a.eval s = .slice (some ad) sLen sCap)
    (cur : List Value) (t : TypeId) (hg : w.heap[g]? = some (.cells cur.toArray t (0, 0))) (cs : List Value) (hn : cs.length = Nat.min sLen dLen)
    (hsrc : ∀ j v, cs[j]? = some v → w.cell? (ad.add j) = some v) (hfit : 0 + cs.length ≤ cur.length) (h1 : ∀ v ∈ cs, v.oneCell' = true)
    (h : ∀ w', Hid (w'.heap[g]? = some (.cells (splice cur 0 cs).toArray t (0, 0))) → Keeps w.heap.size [g] w w' → K (a.put o.dst (goInt cs.length)) w') :
    if Region.wanted o (yielded ops a.tmps) = true then Oper.wp P o a w K Q else E := by
  have hw : Region.wanted o (yielded ops a.tmps) = true := by simp [Region.wanted, hgd]
  rw [if_pos hw]
  have hrun := run_copy_row (P := P) w dT sT o.type elem g 0 dLen dCap ad sLen sCap cur.toArray t cs hu hsz hg hn hsrc (by simpa using hfit) h1
  unfold Oper.wp
  simp [execOp, ho, resolve, invoke, builtin, hd, hs, hrun, Result.andThen]
  refine h _ ?_ ⟨rfl, rfl, rfl, by simp [World.setRow], fun k _ hk => setRow_other w g k _ (by simpa using hk)⟩
  show _ = _
  simpa [splice] using setRow_heap w g _ _ t _ hg
theorem reads_keep {w w' : World} {k : IntKind} {ad : Addr} {n : Nat} {l : List Int} (h : ReadsInt w k (some ad) n l) {B : Nat} {S : List Nat} (hk : Keeps B S w w') (h1 : ad.block < B) (h2 : ad.block ∉ S) : ReadsInt w' k (some ad) n l := by
  refine ⟨h.1, h.2.1, fun hn => ?_⟩
  obtain ⟨ad', e, hc⟩ := h.2.2 hn
  cases e
  refine ⟨ad, rfl, fun j hj => ?_⟩
  have e1 : (ad.add j).block = ad.block := VT.add_block ad _
  exact (hk.cell (p := ad.add j) (by rw [e1]; exact h1) (by rw [e1]; exact h2)).trans (hc j hj)
/-- A bytes.Reader in block R over the bytes l, i of them read. -/
structure Rd (R : Nat) (ad : Addr) (l : List Int) (lc i : Nat) (w : World) : Prop where
  c0 : w.cell? ⟨R, 0, none⟩ = some (.slice (some ad) l.length lc)
  c1 : w.cell? ⟨R, 1, none⟩ = some (.int .i64 i)
  c2 : ∃ v, w.cell? ⟨R, 2, none⟩ = some v
  fr : ∀ o, w.frozen? ⟨R, o, none⟩ = false
  lt : R < w.heap.size
  adlt : ad.block < R
  reads : ReadsInt w .u8 (some ad) l.length l
  by_ : By l
  le : i ≤ l.length
  cap : l.length ≤ lc
  capm : lc ≤ maxLen
theorem Rd.kept {R : Nat} {ad : Addr} {l : List Int} {lc i : Nat} {w w' : World} (h : Rd R ad l lc i w) {B : Nat} {S : List Nat} (k : Keeps B S w w') (hB : R < B) (hS : R ∉ S) (hA : ad.block ∉ S) : Rd R ad l lc i w' where
  c0 := (k.cell (p := ⟨R, 0, none⟩) hB hS).trans h.c0
  c1 := (k.cell (p := ⟨R, 1, none⟩) hB hS).trans h.c1
  c2 := by
    obtain ⟨v, hv⟩ := h.c2
    exact ⟨v, (k.cell (p := ⟨R, 2, none⟩) hB hS).trans hv⟩
  fr := fun o => (k.frozen (p := ⟨R, o, none⟩) hB hS).trans (h.fr o)
  lt := Nat.lt_of_lt_of_le h.lt k.size
  adlt := h.adlt
  reads := reads_keep h.reads k (by have := h.adlt; omega) hA
  by_ := h.by_
  le := h.le
  cap := h.cap
  capm := h.capm
set_option maxRecDepth 100000 in
set_option maxHeartbeats 4000000 in
theorem Read_calls (R bf : Nat) (ad : Addr) (l : List Int) (lc i : Nat) (w : World) (h : Rd R ad l lc i w) (hi : i < l.length) (hbf : R < bf) (hbl : bf < w.heap.size) (cur : List Value) (hc : cur.length = 512) (hg : w.heap[bf]? = some (.cells cur.toArray 5 (0, 0))) :
    Calls Tryz.prog 233 #[.pointer (some ⟨R, 0, none⟩), .slice (some ⟨bf, 0, none⟩) 512 512] w (fun e w' => ∃ n : Nat, e = .returned (.tuple #[.int .i64 n, .nilIface]) ∧ 1 ≤ n ∧ n ≤ 512 ∧ i + n ≤ l.length ∧ Rd R ad l lc (i + n) w' ∧
      w'.heap[bf]? = some (.cells (splice cur 0 (nums .u8 ((l.drop i).take n))).toArray 5 (0, 0)) ∧ Keeps w.heap.size [R, bf] w w') := by
  obtain ⟨c2v, c2⟩ := h.c2
  have c0 := h.c0
  have c1 := h.c1
  have fr := h.fr
  have hcap := h.cap
  have hcm : lc ≤ 9223372036854775807 := by have := h.capm; unfold maxLen at this; omega
  have HR := Lib.hid h
  have hlt := h.lt
  clear h
  have hd : decide ((l.length : Int) ≤ i) = false := by simp; omega
  go_enter Tryz.func233, Tryz.ntmps233
  go_wp2_with fail
  go_quiet (fail)
  go_wp2_with fail
  have hm : Nat.min (l.length - i) 512 = Nat.min (l.length - i) 512 := rfl
  obtain ⟨N, hN⟩ : ∃ N, N = Nat.min (l.length - i) 512 := ⟨_, rfl⟩
  have hN1 : 1 ≤ N ∧ N ≤ 512 ∧ i + N ≤ l.length := by rw [hN]; simp only [Nat.min_def]; split <;> omega
  have hcs : (nums .u8 ((l.drop i).take N)).length = N := by simp [nums]; omega
  have hsrc : ∀ W : World, (∀ (a : Addr) (v : Value), w.cell? a = some v → a.block < R → W.cell? a = some v) → ∀ j v, (nums .u8 ((l.drop i).take N))[j]? = some v → W.cell? ((ad.add i).add j) = some v := by
    intro W hW j v hv
    obtain ⟨hj, rfl⟩ := List.getElem?_eq_some_iff.1 hv
    have hj2 : j < N := by rw [hcs] at hj; exact hj
    obtain ⟨ad', e, hc⟩ := HR.out.reads.at_ ((i + j : Nat) : Int) (by omega) (by omega)
    cases e
    rw [Int.toNat_natCast] at hc
    have e1 : (ad.add i).add j = ad.add (i + j) := by unfold Addr.add; (repeat' split) <;> simp_all <;> omega
    rw [e1]
    refine hW _ _ (hc.trans ?_) ?_
    · simp only [nums, List.getElem_map, List.getElem_take, List.getElem_drop]
      rw [show rd l ((i + j : Nat) : Int) = l[i + j]'(by omega) by unfold rd; rw [Int.toNat_natCast, List.getD_eq_getElem?_getD, List.getElem?_eq_getElem (by omega)]; rfl]
    · have := HR.out.adlt
      rw [show (ad.add (i + j)).block = ad.block from VT.add_block ad _]
      exact this
  have HSRC := Lib.hid hsrc
  have hone : ∀ v ∈ nums .u8 ((l.drop i).take N), v.oneCell' = true := by intro v hv; simp only [nums, List.mem_map] at hv; obtain ⟨x, _, rfl⟩ := hv; rfl
  have HONE := Lib.hid hone
  obtain ⟨XS, hXS⟩ : ∃ XS, XS = nums .u8 ((l.drop i).take N) := ⟨_, rfl⟩
  rw [← hXS] at hcs
  have HX := Lib.hid hXS
  have HN := Lib.hid hN
  have HCS := Lib.hid hcs
  have HG : Hid (∀ (q : Nat) (v : Value), (((w.drewN q).setCell ⟨R, 2, none⟩ v).drew).heap[bf]? = some (.cells cur.toArray 5 (0, 0))) := fun q v => by
    show ((w.drewN q).setCell ⟨R, 2, none⟩ v).heap[bf]? = _
    rw [Below.heap_setCell _ _ _ _ (by show bf ≠ R; omega)]
    simpa [go_sem] using hg
  have HWC : Hid (∀ (q : Nat) (v' : Value) (a : Addr) (v : Value), w.cell? a = some v → a.block < R → (((w.drewN q).setCell ⟨R, 2, none⟩ v').drew).cell? a = some v) := fun q v' a v h1 h2 =>
    (World.cell?_of_block (w := w) (by show ((w.drewN q).setCell ⟨R, 2, none⟩ v').heap[a.block]? = _; rw [Below.heap_setCell _ _ _ _ (by show a.block ≠ R; omega)]; simp [go_sem])).trans h1
  have HHC := Lib.hid hc
  have hil : i ≤ l.length := by omega
  have hne : ¬ lc = i := by omega
  have hsum : (i : Int) + N ≤ 9223372036854775807 := by omega
  clear hsrc hone hXS hN hcs hm
  go_region_law (refine step_copy_row rfl (.tmp 20) (.tmp 29) 23 23 rfl 5 Tryz.underlying23 (by kernel_rfl) bf 512 512 (ad.add i) (l.length - i) (lc - i) rfl rfl cur 5 (HG.out _ _) XS (HCS.out.trans HN.out) (by rw [HX.out]; exact HSRC.out _ (HWC.out _ _)) (by rw [HCS.out, HHC.out]; omega) (by rw [HX.out]; exact HONE.out) ?_; intro w4 hg4 hb4; rw [HCS.out]; have HG4 := Lib.hid hg4; have HB4 := Lib.hid hb4; clear hg4 hb4)
  all_goals (have HK4 : Hid (Keeps w.heap.size [R, bf] w w4) := ((((Keeps.refl _ _ _).drewN nq).setCell (p := ⟨R, 2, none⟩) (Or.inl (by simp)) _).drew).trans (HB4.out.mono (by simp [World.setCell, go_sem]) (fun s hs _ => by simp at hs; simp [hs])))
  all_goals (have kk : ∀ o, w4.cell? ⟨R, o, none⟩ = ((w.drewN nq).setCell ⟨R, 2, none⟩ (.int .i64 (-1))).drew.cell? ⟨R, o, none⟩ := fun o => HB4.out.cell (p := ⟨R, o, none⟩) (by simp [World.setCell, go_sem]; exact hlt) (by simp; omega))
  all_goals (have kf : ∀ o, w4.frozen? ⟨R, o, none⟩ = false := fun o => (HB4.out.frozen (p := ⟨R, o, none⟩) (by simp [World.setCell, go_sem]; exact hlt) (by simp; omega)).trans (by simp [go_sem, fr]))
  all_goals (have k0 : w4.cell? ⟨R, 0, none⟩ = some (.slice (some ad) l.length lc) := (kk 0).trans (by simp [go_sem, c0]))
  all_goals (have k1 : w4.cell? ⟨R, 1, none⟩ = some (.int .i64 i) := (kk 1).trans (by simp [go_sem, c1]))
  all_goals (have k2 : w4.cell? ⟨R, 2, none⟩ = some (.int .i64 (-1)) := (kk 2).trans (by simp [go_sem, c2]))
  all_goals (have hlt4 : R < w4.heap.size := Nat.lt_of_lt_of_le hlt HK4.out.size)
  all_goals clear kk
  all_goals go_wp2_with fail
  all_goals go_ret2
  all_goals (refine ⟨N, rfl, hN1.1, hN1.2.1, hN1.2.2, ⟨by simp [go_sem, k0], by simp [go_sem, k1], ⟨.int .i64 (-1), by simp [go_sem, k2]⟩, fun o => by simp [go_sem, kf], by simp [World.setCell]; exact hlt4, HR.out.adlt, reads_keep HR.out.reads (HK4.out.setCell (Or.inl (by simp)) _) (by have := HR.out.adlt; omega) (by have := HR.out.adlt; simp; omega), HR.out.by_, hN1.2.2, hcap, HR.out.capm⟩, ?_, HK4.out.setCell (Or.inl (by simp)) _⟩)
  all_goals (rw [Below.heap_setCell _ _ _ _ (by show bf ≠ R; omega), ← HX.out]; exact HG4.out.out)
end Go.Proofs.YtlgmlfhalgnppaaGreatDoor
/-! bson.jsonScanner: readIntoBuf, readNextByte. -/
set_option linter.unusedSimpArgs false
set_option linter.unusedVariables false
namespace Go.Proofs.YtlgmlfhalgnppaaGreatDoor
open Go.RowKit
open Go.Proofs.YtlgmlfhalgnppaaGreatDoorW.PrintWords hiding bt bt_at bt_range
def bufV : Option Nat → Nat → Value
  | none, _ => .slice none 0 0
  | some b, n => .slice (some ⟨b, 0, none⟩) n 512
def BufOK (J R : Nat) (bf : Option Nat) (bs : List Int) (w : World) : Prop :=
  match bf with
  | none => bs = []
  | some b => b < w.heap.size ∧ R < b ∧ J < b ∧ ∃ cur : List Value, cur.length = 512 ∧ w.heap[b]? = some (.cells cur.toArray 5 (0, 0)) ∧ cur.take bs.length = nums .u8 bs
/-- A scanner in block J over a reader in block R: the buffer, what it holds, the places. -/
structure Js (J R : Nat) (ad : Addr) (l : List Int) (lc : Nat) (bf : Option Nat) (bs : List Int) (pos i : Nat) (w : World) : Prop where
  j0 : w.cell? ⟨J, 0, none⟩ = some (.iface 47 (.pointer (some ⟨R, 0, none⟩)))
  j1 : w.cell? ⟨J, 1, none⟩ = some (bufV bf bs.length)
  j2 : w.cell? ⟨J, 2, none⟩ = some (.int .i64 pos)
  j3 : w.cell? ⟨J, 3, none⟩ = some .nilIface
  fr : ∀ o, w.frozen? ⟨J, o, none⟩ = false
  lt : J < w.heap.size
  ne : J ≠ R
  adJ : ad.block < J
  rd : Rd R ad l lc i w
  buf : BufOK J R bf bs w
  pl : pos ≤ bs.length
  bl : bs.length ≤ 512
theorem take_splice0 {α : Type} (L cs : List α) : (splice L 0 cs).take cs.length = cs := by
  simp [splice]
/-- Behind a reading: the buffer is full of what was read. -/
theorem Js.filled {J R b : Nat} {ad : Addr} {l : List Int} {lc i n : Nat} {w : World} {v1 v2 : Value} {cur : List Value} (hne : J ≠ R) (hA : ad.block < J) (hlt : J < w.heap.size) (hn2 : n ≤ 512) (hn3 : i + n ≤ l.length) (hb2 : R < b) (hb3 : J < b) (hb1 : b < w.heap.size) (hcur : cur.length = 512)
    (kf : ∀ o, w.frozen? ⟨J, o, none⟩ = false) (k0 : w.cell? ⟨J, 0, none⟩ = some (.iface 47 (.pointer (some ⟨R, 0, none⟩)))) (k1 : w.cell? ⟨J, 1, none⟩ = some v1) (k2 : w.cell? ⟨J, 2, none⟩ = some v2) (k3 : w.cell? ⟨J, 3, none⟩ = some .nilIface)
    (hrd : Rd R ad l lc (i + n) w) (hbu : w.heap[b]? = some (.cells (splice cur 0 (nums .u8 ((l.drop i).take n))).toArray 5 (0, 0))) :
    Js J R ad l lc (some b) ((l.drop i).take n) 0 (i + n) ((w.setCell ⟨J, 1, none⟩ (.slice (some ⟨b, 0, none⟩) n 512)).setCell ⟨J, 2, none⟩ (.int .i64 0)) := by
  have hlen : ((l.drop i).take n).length = n := by simp; omega
  have hk : Keeps w.heap.size [J] w ((w.setCell ⟨J, 1, none⟩ (.slice (some ⟨b, 0, none⟩) n 512)).setCell ⟨J, 2, none⟩ (.int .i64 0)) := ((Keeps.refl _ _ _).setCell (Or.inl (by simp)) _).setCell (Or.inl (by simp)) _
  refine ⟨by simp [go_sem, k0], by rw [hlen]; simp [go_sem, k1, bufV], by simp [go_sem, k2], by simp [go_sem, k3], fun o => by simp [go_sem, kf], by simp [World.setCell]; exact hlt, hne, hA, hrd.kept hk hrd.lt (by simp; omega) (by simp; omega), ?_, by omega, by omega⟩
  refine ⟨by simp [World.setCell]; exact hb1, hb2, hb3, splice cur 0 (nums .u8 ((l.drop i).take n)), ?_, ?_, ?_⟩
  · rw [length_splice _ _ _ (by simp [nums]; omega), hcur]
  · exact (hk.block b hb1 (by simp; omega)).trans hbu
  · have := take_splice0 cur (nums .u8 ((l.drop i).take n))
    rwa [show (nums .u8 ((l.drop i).take n)).length = ((l.drop i).take n).length by simp [nums]] at this
set_option maxRecDepth 100000 in
set_option maxHeartbeats 4000000 in
theorem readIntoBuf_some (J R b : Nat) (ad : Addr) (l : List Int) (lc : Nat) (bs : List Int) (pos i : Nat) (w : World) (h : Js J R ad l lc (some b) bs pos i w) (hi : i < l.length) :
    Calls Tryz.prog 153 #[.pointer (some ⟨J, 0, none⟩)] w (fun e w' => ∃ n : Nat, e = .returned .nilIface ∧ 1 ≤ n ∧ i + n ≤ l.length ∧ Js J R ad l lc (some b) ((l.drop i).take n) 0 (i + n) w' ∧ Keeps w.heap.size [J, R, b] w w') := by
  obtain ⟨hb1, hb2, hb3, cur, hcur, hheap, htake⟩ := h.buf
  have j0 := h.j0
  have j1 := h.j1
  have j2 := h.j2
  have j3 := h.j3
  have fr := h.fr
  have hlt := h.lt
  have hne := h.ne
  have hbl := h.bl
  have H := Lib.hid h
  clear h
  simp only [bufV] at j1
  have hm : ∀ (v : Value) (w : World), (method 445 47 v "Read").run Tryz.prog w = .ok (233, v) w := fun _ _ => by kernel_rfl
  go_enter Tryz.func153, Tryz.ntmps153
  go_wp2_with fail
  have HC : Hid (∀ w', Keeps w.heap.size [R, b] w w' → w'.cell? ⟨J, 0, none⟩ = some (.iface 47 (.pointer (some ⟨R, 0, none⟩))) ∧ w'.cell? ⟨J, 1, none⟩ = some (.slice (some ⟨b, 0, none⟩) bs.length 512)) := fun w' k =>
    ⟨(k.cell (p := ⟨J, 0, none⟩) hlt (by simp; omega)).trans j0, (k.cell (p := ⟨J, 1, none⟩) hlt (by simp; omega)).trans j1⟩
  have RDX : Hid (Rd R ad l lc i w.drew) := H.out.rd.kept (B := w.heap.size) (S := []) (Keeps.refl _ _ _).drew H.out.rd.lt (by simp) (by simp)
  first | (go_must (go_region_held3 (fun w' => w'.cell? ⟨J, 0, none⟩ = some (.iface 47 (.pointer (some ⟨R, 0, none⟩))) ∧ w'.cell? ⟨J, 1, none⟩ = some (.slice (some ⟨b, 0, none⟩) bs.length 512)) (first | assumption | exact HC.out _ (Keeps.refl _ _ _) | exact HC.out _ ((Keeps.refl _ _ _).drew) | exact HC.out _ HK.out) (first | (go_at_call 233; go_must (refine Calls.mono (Read_calls R b ad l lc i _ RDX.out hi hb2 hb1 cur hcur hheap) ?_; rintro e w6 ⟨n, rfl, hn1, hn2, hn3, hrd, hbuf, hk⟩; have HK := Lib.hid ((Keeps.refl w.heap.size [R, b] w).drew.trans hk); have HRD := Lib.hid hrd; have HBU := Lib.hid hbuf; clear hk hrd hbuf))))) | skip
  all_goals (have k0 := (HK.out.cell (p := ⟨J, 0, none⟩) hlt (by simp; omega)).trans j0)
  all_goals (have k1 := (HK.out.cell (p := ⟨J, 1, none⟩) hlt (by simp; omega)).trans j1)
  all_goals (have k2 := (HK.out.cell (p := ⟨J, 2, none⟩) hlt (by simp; omega)).trans j2)
  all_goals (have k3 := (HK.out.cell (p := ⟨J, 3, none⟩) hlt (by simp; omega)).trans j3)
  all_goals (have kf : ∀ o, w6.frozen? ⟨J, o, none⟩ = false := fun o => (HK.out.frozen (p := ⟨J, o, none⟩) hlt (by simp; omega)).trans (fr o))
  all_goals (have hlt6 : J < w6.heap.size := Nat.lt_of_lt_of_le hlt HK.out.size)
  all_goals go_wp2_with fail
  all_goals go_ret
  all_goals exact ⟨n, rfl, hn1, hn3, Js.filled H.out.ne H.out.adJ hlt6 hn2 hn3 hb2 hb3 (Nat.lt_of_lt_of_le hb1 HK.out.size) hcur kf k0 k1 k2 k3 HRD.out HBU.out, (HK.out.mono (Nat.le_refl _) (fun s hs _ => by simp at hs; simp [hs])).setCell (Or.inl (by simp)) _ |>.setCell (Or.inl (by simp)) _⟩
theorem made_buf : ∃ cur : List Value, cur.length = 512 ∧ ∀ W : World, (Instr.makeSlice 23 (.int .i64 0) (.int .i64 512)).run Tryz.prog W = .ok (.slice (some ⟨W.heap.size, 0, none⟩) 0 512) (W.alloc (.cells cur.toArray 5)) := by
  refine ⟨(madeCells #[.int .u8 0] 512).toList, by rw [Array.length_toList, size_madeCells], fun W => ?_⟩
  obtain ⟨i, hi, hzz⟩ := Option.map_eq_some_iff.1 info_u8
  simp only [Prod.mk.injEq] at hzz
  obtain ⟨hz, hs, hb⟩ := hzz
  have := run_make (P := Tryz.prog) W 23 5 i (.int .u8 0) Tryz.underlying23 hi hz .i64 .i64 0 512 (by omega) (by omega) (by rw [hb]; omega) (by omega)
  rw [hs] at this
  exact this
set_option maxRecDepth 100000 in
set_option maxHeartbeats 4000000 in
theorem readIntoBuf_none (J R : Nat) (ad : Addr) (l : List Int) (lc : Nat) (bs : List Int) (pos i : Nat) (w : World) (h : Js J R ad l lc none bs pos i w) (hi : i < l.length) :
    Calls Tryz.prog 153 #[.pointer (some ⟨J, 0, none⟩)] w (fun e w' => ∃ n : Nat, e = .returned .nilIface ∧ 1 ≤ n ∧ i + n ≤ l.length ∧ Js J R ad l lc (some w.heap.size) ((l.drop i).take n) 0 (i + n) w' ∧ Keeps w.heap.size [J, R] w w') := by
  obtain ⟨cur, hcur, hmk⟩ := made_buf
  have hRl := h.rd.lt
  have j0 := h.j0
  have j1 := h.j1
  have j2 := h.j2
  have j3 := h.j3
  have fr := h.fr
  have hlt := h.lt
  have hne := h.ne
  have hbl := h.bl
  have H := Lib.hid h
  clear h
  simp only [bufV] at j1
  have hnb : bs = [] := H.out.buf
  have hm : ∀ (v : Value) (w : World), (method 445 47 v "Read").run Tryz.prog w = .ok (233, v) w := fun _ _ => by kernel_rfl
  go_enter Tryz.func153, Tryz.ntmps153
  go_wp2_with fail
  have hkw : Keeps w.heap.size [J] w ((w.setCell ⟨J, 1, none⟩ (.slice (some ⟨w.heap.size, 0, none⟩) 0 512)).alloc (.cells cur.toArray 5)) := ((Keeps.refl _ _ _).setCell (Or.inl (by simp)) _).alloc (by simp [World.setCell]) _
  have hheap : ((w.setCell ⟨J, 1, none⟩ (.slice (some ⟨w.heap.size, 0, none⟩) 0 512)).alloc (.cells cur.toArray 5)).drew.heap[w.heap.size]? = some (.cells cur.toArray 5 (0, 0)) := by
    have e1 : (w.setCell ⟨J, 1, none⟩ (.slice (some ⟨w.heap.size, 0, none⟩) 0 512)).heap.size = w.heap.size := by simp [World.setCell]
    show ((w.setCell ⟨J, 1, none⟩ (.slice (some ⟨w.heap.size, 0, none⟩) 0 512)).heap.push _)[w.heap.size]? = _
    rw [Array.getElem?_push, if_pos e1.symm]
  have HHP := Lib.hid hheap
  have HC : Hid (∀ w', Keeps (w.heap.size + 1) [R, w.heap.size] ((w.setCell ⟨J, 1, none⟩ (.slice (some ⟨w.heap.size, 0, none⟩) 0 512)).alloc (.cells cur.toArray 5)) w' → w'.cell? ⟨J, 0, none⟩ = some (.iface 47 (.pointer (some ⟨R, 0, none⟩))) ∧ w'.cell? ⟨J, 1, none⟩ = some (.slice (some ⟨w.heap.size, 0, none⟩) 0 512)) := fun w' k =>
    ⟨(k.cell (p := ⟨J, 0, none⟩) (by show J < _; omega) (by simp; omega)).trans (by simp [go_sem, j0, hlt]), (k.cell (p := ⟨J, 1, none⟩) (by show J < _; omega) (by simp; omega)).trans (by simp [go_sem, j1, hlt])⟩
  have RDX : Hid (Rd R ad l lc i ((w.setCell ⟨J, 1, none⟩ (.slice (some ⟨w.heap.size, 0, none⟩) 0 512)).alloc (.cells cur.toArray 5)).drew) := (H.out.rd.kept (B := w.heap.size) (S := [J]) hkw hRl (by simp; omega) (by simp; have := H.out.adJ; omega)).kept (B := R + 1) (S := []) (Keeps.refl _ _ _).drew (by omega) (by simp) (by simp)
  have HKW := Lib.hid hkw
  have HCU := Lib.hid hcur
  clear hheap hkw hcur
  first | (go_must (go_region_held3 (fun w' => w'.cell? ⟨J, 0, none⟩ = some (.iface 47 (.pointer (some ⟨R, 0, none⟩))) ∧ w'.cell? ⟨J, 1, none⟩ = some (.slice (some ⟨w.heap.size, 0, none⟩) 0 512)) (first | assumption | exact HC.out _ (Keeps.refl _ _ _) | exact HC.out _ ((Keeps.refl _ _ _).drew) | exact HC.out _ HK.out) (first | (go_at_call 233; go_must (refine Calls.mono (Read_calls R w.heap.size ad l lc i _ RDX.out hi hRl (by simp [World.setCell]) cur HCU.out HHP.out) ?_; rintro e w6 ⟨n, rfl, hn1, hn2, hn3, hrd, hbuf, hk⟩; have HK : Hid (Keeps (w.heap.size + 1) [R, w.heap.size] ((w.setCell ⟨J, 1, none⟩ (.slice (some ⟨w.heap.size, 0, none⟩) 0 512)).alloc (.cells cur.toArray 5)) w6) := ((Keeps.refl _ _ _).drew.trans (hk.mono (by simp [World.setCell]) (fun s hs _ => hs))); have HRD := Lib.hid hrd; have HBU := Lib.hid hbuf; clear hk hrd hbuf))))) | skip
  all_goals (have k0 := (HC.out _ HK.out).1)
  all_goals (have k1 := (HC.out _ HK.out).2)
  all_goals (have k2 : w6.cell? ⟨J, 2, none⟩ = some (.int .i64 pos) := (HK.out.cell (p := ⟨J, 2, none⟩) (by show J < _; omega) (by simp; omega)).trans (by simp [go_sem, j2, hlt]))
  all_goals (have k3 : w6.cell? ⟨J, 3, none⟩ = some .nilIface := (HK.out.cell (p := ⟨J, 3, none⟩) (by show J < _; omega) (by simp; omega)).trans (by simp [go_sem, j3, hlt]))
  all_goals (have kf : ∀ o, w6.frozen? ⟨J, o, none⟩ = false := fun o => (HK.out.frozen (p := ⟨J, o, none⟩) (by show J < _; omega) (by simp; omega)).trans (by simp [go_sem, fr, hlt]))
  all_goals (have hsz6 : w.heap.size + 1 ≤ w6.heap.size := by have := HK.out.size; simpa [World.setCell] using this)
  all_goals go_wp2_with fail
  all_goals go_ret
  all_goals exact ⟨n, rfl, hn1, hn3, Js.filled H.out.ne H.out.adJ (by omega) hn2 hn3 hRl hlt (by omega) HCU.out kf k0 k1 k2 k3 HRD.out HBU.out, ((HKW.out.mono (Nat.le_refl _) (fun s hs _ => by simp at hs; simp [hs])).trans (HK.out.mono (by omega) (fun s hs hlt => by simp at hs; rcases hs with rfl | rfl; simp; omega))).setCell (Or.inl (by simp)) _ |>.setCell (Or.inl (by simp)) _⟩
end Go.Proofs.YtlgmlfhalgnppaaGreatDoor
/-! bson.jsonScanner.readNextByte. -/
set_option linter.unusedSimpArgs false
set_option linter.unusedVariables false
namespace Go.Proofs.YtlgmlfhalgnppaaGreatDoor
open Go.RowKit
open Go.Proofs.YtlgmlfhalgnppaaGreatDoorW.PrintWords hiding bt bt_at bt_range
/-- A scanner before which the bytes rest lie. -/
structure JsR (J R : Nat) (ad : Addr) (l : List Int) (lc : Nat) (bf : Option Nat) (rest : List Int) (w : World) : Prop where
  out : ∃ (bs : List Int) (pos i : Nat), Js J R ad l lc bf bs pos i w ∧ rest = bs.drop pos ++ l.drop i
theorem Js.elem {J R b : Nat} {ad : Addr} {l : List Int} {lc : Nat} {bs : List Int} {pos i : Nat} {w : World} (h : Js J R ad l lc (some b) bs pos i w) (hp : pos < bs.length) : w.cell? ⟨b, pos, none⟩ = some (.int .u8 (YtlgmlfhalgnppaaGreatDoorW.PrintWords.rd bs pos)) := by
  obtain ⟨hb1, hb2, hb3, cur, hcur, hheap, htake⟩ := h.buf
  have hbl := h.bl
  have hc : cur[pos]? = some (.int .u8 (YtlgmlfhalgnppaaGreatDoorW.PrintWords.rd bs pos)) := by
    have h1 : (cur.take bs.length)[pos]? = cur[pos]? := by rw [List.getElem?_take, if_pos hp]
    rw [← h1, htake]
    unfold nums YtlgmlfhalgnppaaGreatDoorW.PrintWords.rd
    rw [List.getElem?_map, List.getElem?_eq_getElem hp, Int.toNat_natCast, List.getD_eq_getElem?_getD, List.getElem?_eq_getElem hp]
    rfl
  simp [World.cell?, hheap, hc]
theorem Js.next {J R b : Nat} {ad : Addr} {l : List Int} {lc : Nat} {bs : List Int} {pos i : Nat} {w : World} (h : Js J R ad l lc (some b) bs pos i w) (hp : pos < bs.length) (x : Int) (hx : x = ((pos + 1 : Nat) : Int)) : Js J R ad l lc (some b) bs (pos + 1) i (w.setCell ⟨J, 2, none⟩ (.int .i64 x)) := by
  have hk : Keeps w.heap.size [J] w (w.setCell ⟨J, 2, none⟩ (.int .i64 x)) := (Keeps.refl _ _ _).setCell (Or.inl (by simp)) _
  have hlt := h.lt
  have hne := h.ne
  have hA := h.adJ
  obtain ⟨hb1, hb2, hb3, cur, hcur, hheap, htake⟩ := h.buf
  subst hx
  refine ⟨by simp [go_sem, h.j0], by simp [go_sem, h.j1], by simp [go_sem, h.j2], by simp [go_sem, h.j3], fun o => by simp [go_sem, h.fr], by simp [World.setCell]; exact hlt, hne, hA, h.rd.kept hk h.rd.lt (by simp; omega) (by simp; omega), ⟨by simp [World.setCell]; exact hb1, hb2, hb3, cur, hcur, (hk.block b hb1 (by simp; omega)).trans hheap, htake⟩, by omega, h.bl⟩
theorem Js.drewN {J R : Nat} {ad : Addr} {l : List Int} {lc : Nat} {bf : Option Nat} {bs : List Int} {pos i : Nat} {w : World} (h : Js J R ad l lc bf bs pos i w) (n : Nat) : Js J R ad l lc bf bs pos i (w.drewN n) := by
  have hk : Keeps w.heap.size [] w (w.drewN n) := (Keeps.refl _ _ _).drewN n
  refine ⟨by simpa [go_sem] using h.j0, by simpa [go_sem] using h.j1, by simpa [go_sem] using h.j2, by simpa [go_sem] using h.j3, fun o => by simpa [go_sem] using h.fr o, Nat.lt_of_lt_of_le h.lt hk.size, h.ne, h.adJ, h.rd.kept hk h.rd.lt (by simp) (by simp), ?_, h.pl, h.bl⟩
  cases bf with
  | none => exact h.buf
  | some b =>
    obtain ⟨hb1, hb2, hb3, cur, hcur, hheap, htake⟩ := h.buf
    exact ⟨Nat.lt_of_lt_of_le hb1 hk.size, hb2, hb3, cur, hcur, (hk.block b hb1 (by simp)).trans hheap, htake⟩
/-- What readNextByte leaves. -/
structure NextB (c : Int) (J R : Nat) (ad : Addr) (l : List Int) (lc : Nat) (bf : Option Nat) (rest : List Int) (w : World) (e : Ending) (w' : World) : Prop where
  ret : e = .returned (.tuple #[.int .u8 c, .nilIface])
  out : ∃ b, JsR J R ad l lc (some b) rest w' ∧ (∀ b0, bf = some b0 → b = b0) ∧ (bf = none → w.heap.size ≤ b)
  keeps : Keeps w.heap.size (J :: R :: bf.toList) w w'
set_option maxRecDepth 100000 in
set_option maxHeartbeats 4000000 in
theorem nextB_here (J R b : Nat) (ad : Addr) (l : List Int) (lc : Nat) (bs : List Int) (pos i : Nat) (w : World) (h : Js J R ad l lc (some b) bs pos i w) (hp : pos < bs.length) :
    Calls Tryz.prog 135 #[.pointer (some ⟨J, 0, none⟩)] w (NextB (YtlgmlfhalgnppaaGreatDoorW.PrintWords.rd bs pos) J R ad l lc (some b) (bs.drop (pos + 1) ++ l.drop i) w) := by
  have j1 := h.j1
  have j2 := h.j2
  have fr := h.fr
  have hbl := h.bl
  have he := h.elem hp
  simp only [bufV] at j1
  have H := Lib.hid h
  clear h
  have hd : decide ((bs.length : Int) ≤ pos) = false := by simp; omega
  go_enter Tryz.func135, Tryz.ntmps135
  go_wp2_with fail
  go_quiet (fail)
  go_wp2_with fail
  go_quiet (fail)
  go_wp2_with fail
  go_ret2
  refine ⟨rfl, ⟨b, ⟨bs, pos + 1, i, (H.out.drewN _).next hp _ (by omega), rfl⟩, fun b0 h0 => Option.some.inj h0, fun h0 => by cases h0⟩, ((Keeps.refl _ _ _).drewN _).setCell (Or.inl (by simp)) _⟩
set_option maxRecDepth 100000 in
set_option maxHeartbeats 4000000 in
theorem nextB_refill (J R : Nat) (bf : Option Nat) (ad : Addr) (l : List Int) (lc : Nat) (bs : List Int) (pos i : Nat) (w : World) (h : Js J R ad l lc bf bs pos i w) (hp : bs.length ≤ pos) (hi : i < l.length)
    (hc : ∀ W, Js J R ad l lc bf bs pos i W → Calls Tryz.prog 153 #[.pointer (some ⟨J, 0, none⟩)] W (fun e w' => ∃ (n b : Nat), e = .returned .nilIface ∧ 1 ≤ n ∧ i + n ≤ l.length ∧ Js J R ad l lc (some b) ((l.drop i).take n) 0 (i + n) w' ∧ (∀ b0, bf = some b0 → b = b0) ∧ (bf = none → W.heap.size ≤ b) ∧ Keeps W.heap.size (J :: R :: bf.toList) W w')) :
    Calls Tryz.prog 135 #[.pointer (some ⟨J, 0, none⟩)] w (NextB (YtlgmlfhalgnppaaGreatDoorW.PrintWords.rd l i) J R ad l lc bf (l.drop (i + 1)) w) := by
  have hvl : ∃ p c, bufV bf bs.length = .slice p bs.length c := by
    cases bf with
    | none => have : bs = [] := h.buf
              subst this
              exact ⟨none, 0, rfl⟩
    | some b => exact ⟨_, _, rfl⟩
  obtain ⟨p, c, hv⟩ := hvl
  have j1 := h.j1
  rw [hv] at j1
  have j2 := h.j2
  have hbl := h.bl
  have H := Lib.hid h
  have HV := Lib.hid hv
  clear h hv
  have hd : decide ((bs.length : Int) ≤ pos) = true := by simp; omega
  go_enter Tryz.func135, Tryz.ntmps135
  go_wp2_with fail
  go_quiet (fail)
  go_wp2_with fail
  refine (hc _ (H.out.drewN _)).mono ?_
  rintro e w1 ⟨n, b, rfl, hn1, hn2, hjs, hb1, hb2, hk⟩
  have hlen : ((l.drop i).take n).length = n := by simp; omega
  have hel := hjs.elem (by rw [hlen]; omega)
  have hrd : YtlgmlfhalgnppaaGreatDoorW.PrintWords.rd ((l.drop i).take n) ((0 : Nat) : Int) = YtlgmlfhalgnppaaGreatDoorW.PrintWords.rd l i := by
    unfold YtlgmlfhalgnppaaGreatDoorW.PrintWords.rd
    rw [Int.toNat_natCast, Int.toNat_natCast, List.getD_eq_getElem?_getD, List.getD_eq_getElem?_getD, List.getElem?_take, if_pos (by omega), List.getElem?_drop]
    rfl
  rw [hrd] at hel
  have k1 := hjs.j1
  have k2 := hjs.j2
  have kf := hjs.fr
  simp only [bufV, hlen] at k1
  have HJ := Lib.hid hjs
  have HK : Hid (Keeps w.heap.size (J :: R :: bf.toList) w w1) := ((Keeps.refl _ _ _).drewN _).trans hk
  have HB1 := Lib.hid hb1
  have HB2 := Lib.hid hb2
  clear hjs hk hb1 hb2 j1 j2 hrd
  go_wp2_with fail
  go_quiet (fail)
  go_wp2_with fail
  go_ret2
  refine ⟨rfl, ⟨b, ⟨(l.drop i).take n, 0 + 1, i + n, (HJ.out.drewN _).next (by rw [hlen]; omega) _ (by omega), ?_⟩, HB1.out, HB2.out⟩, (HK.out.drewN _).setCell (Or.inl (by simp)) _⟩
  have e1 : l.drop (i + n) = (l.drop i).drop n := by rw [List.drop_drop]
  rw [e1, show l.drop (i + 1) = (l.drop i).drop 1 by rw [List.drop_drop], ← List.drop_append_of_le_length (by rw [hlen]; omega), List.take_append_drop]
/-- readNextByte: the next byte, and what is left. -/
theorem readNextByte_calls (c : Int) (rest : List Int) (J R : Nat) (bf : Option Nat) (ad : Addr) (l : List Int) (lc : Nat) (w : World) (h : JsR J R ad l lc bf (c :: rest) w) :
    Calls Tryz.prog 135 #[.pointer (some ⟨J, 0, none⟩)] w (NextB c J R ad l lc bf rest w) := by
  obtain ⟨bs, pos, i, hj, hr⟩ := h.out
  by_cases hp : pos < bs.length
  · cases bf with
    | none => have : bs = [] := hj.buf
              subst this
              exact absurd hp (Nat.not_lt_zero _)
    | some b =>
      have := nextB_here J R b ad l lc bs pos i w hj hp
      have e1 : bs.drop pos = bs[pos] :: bs.drop (pos + 1) := List.drop_eq_getElem_cons hp
      rw [e1, List.cons_append] at hr
      injection hr with h1 h2
      have e2 : YtlgmlfhalgnppaaGreatDoorW.PrintWords.rd bs pos = bs[pos] := by
        unfold YtlgmlfhalgnppaaGreatDoorW.PrintWords.rd
        rw [Int.toNat_natCast, List.getD_eq_getElem?_getD, List.getElem?_eq_getElem hp]
        rfl
      rw [e2, ← h1, ← h2] at this
      exact this
  · rw [List.drop_eq_nil_of_le (by omega), List.nil_append] at hr
    have hi : i < l.length := by
      by_cases hh : i < l.length
      · exact hh
      · rw [List.drop_eq_nil_of_le (by omega)] at hr; cases hr
    have e1 : l.drop i = l[i] :: l.drop (i + 1) := List.drop_eq_getElem_cons hi
    rw [e1] at hr
    injection hr with h1 h2
    have e2 : YtlgmlfhalgnppaaGreatDoorW.PrintWords.rd l i = l[i] := by
      unfold YtlgmlfhalgnppaaGreatDoorW.PrintWords.rd
      rw [Int.toNat_natCast, List.getD_eq_getElem?_getD, List.getElem?_eq_getElem hi]
      rfl
    have := nextB_refill J R bf ad l lc bs pos i w hj (by omega) hi (fun W hW => by
      cases bf with
      | none => exact (readIntoBuf_none J R ad l lc bs pos i W hW hi).mono fun e w' ⟨n, he, h1, h2, h3, h4⟩ => ⟨n, W.heap.size, he, h1, h2, h3, (fun b0 h => by cases h), (fun _ => Nat.le_refl _), h4⟩
      | some b => exact (readIntoBuf_some J R b ad l lc bs pos i W hW hi).mono fun e w' ⟨n, he, h1, h2, h3, h4⟩ => ⟨n, b, he, h1, h2, h3, (fun b0 h => Option.some.inj h), (fun h => by cases h), h4⟩)
    rw [e2, ← h1, ← h2] at this
    exact this
end Go.Proofs.YtlgmlfhalgnppaaGreatDoor
