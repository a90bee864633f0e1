/- A part of the proof that laws.FnExtKind returns true at every input: Laid. -/
import Derived.Test.YtlgmlfhalgnppaaGreatDoorRows
import Derived.Test.YtlgmlfhalgnppaaGreatDoorS
import Derived.Test.YtlgmlfhalgnppaaGreatDoorU
import Derived.ProofKit
import Derived.OpenShut
import Derived.Stop.LaidErr
import Derived.Lib.LaidTab
/-! What the row's list of variables gives the walks. -/
set_option linter.unusedSimpArgs false
set_option linter.unusedVariables false
namespace Go.Proofs.YtlgmlfhalgnppaaGreatDoor
open Go.RowKit Go.ChangeShapes
open Go.Proofs.YtlgmlfhalgnppaaGreatDoorW.PrintWords hiding bt bt_at bt_range
def hiT (i : Nat) : Int := ((Pinned.pow10Rows.getD i (0, 0)).1 : Nat)
def loT (i : Nat) : Int := ((Pinned.pow10Rows.getD i (0, 0)).2 : Nat)
theorem rows_small : (Pinned.pow10Rows.all fun x => decide (x.1 < 18446744073709551616) && decide (x.2 < 18446744073709551616)) = true := by kernel_rfl
theorem rows_length : Pinned.pow10Rows.length = 696 := by kernel_rfl
theorem row_small (i : Nat) : (Pinned.pow10Rows.getD i (0, 0)).1 < 18446744073709551616 ∧ (Pinned.pow10Rows.getD i (0, 0)).2 < 18446744073709551616 := by
  rw [List.getD_eq_getElem?_getD]
  cases h : Pinned.pow10Rows[i]? with
  | none => exact ⟨by decide, by decide⟩
  | some x =>
    have := List.all_eq_true.1 rows_small x (List.mem_of_getElem? h)
    simp only [Bool.and_eq_true, decide_eq_true_eq] at this
    exact this
theorem hiT_range (i : Nat) : 0 ≤ hiT i ∧ hiT i < 18446744073709551616 := by have := (row_small i).1; unfold hiT; omega
theorem loT_range (i : Nat) : 0 ≤ loT i ∧ loT i < 18446744073709551616 := by have := (row_small i).2; unfold loT; omega
theorem hilo_cells : Tryz.prog.cellsOf 216 = 1392 ∧ Tryz.prog.cellsOf 215 = 2 ∧ Tryz.prog.cellsOf 22 = 1 := ⟨by kernel_rfl, by kernel_rfl, by kernel_rfl⟩
/-- The pinned table of powers of ten. -/
theorem tabW_of {W : World} {rest : List (String × DataW Unit)} (h : laidMet Tryz.prog (("internal/strconv.pow10Tab", Pinned.pow10Tab) :: rest) W) : TabW hiT loT W := by
  obtain ⟨ps, ⟨g, t, cs, fuel, p, q, hg, ht, hv, hd, _, _⟩, _, _⟩ := h
  obtain rfl := Option.some.inj ((show Tryz.prog.globalNamed "internal/strconv.pow10Tab" = some 9 by kernel_rfl).symm.trans hg)
  obtain rfl := Option.some.inj ((show (Tryz.prog.globals[9]?).map (·.type) = some 216 by kernel_rfl).symm.trans ht)
  obtain ⟨xs, m, _, ex, hcl, hl, hel⟩ := DataW.trod_array Tryz.underlying216 hd
  obtain ⟨c1, c2, c3⟩ := hilo_cells
  rw [c1] at hcl
  have e3 : (xs.map (·.1)) = Pinned.pow10Rows.map fun x => .agg [.lit (.int .u64 x.1), .lit (.int .u64 x.2)] := (DataW.agg.inj (Prod.mk.inj ex).1).symm
  have key : ∀ i, i < 696 → cs.toList[i * 2]? = some (.int .u64 (hiT i)) ∧ cs.toList[i * 2 + 1]? = some (.int .u64 (loT i)) := by
    intro i hi
    have hE := hel i hi
    rw [c2, List.getElem?_eq_getElem (by omega)] at hE
    obtain ⟨ys, m2, _, ey, hyl, hyn, hf⟩ := DataW.trod_struct Tryz.underlying215 hE
    have hy2 : ys.length = 2 := hyn
    obtain ⟨u, v, rfl⟩ : ∃ u v, ys = [u, v] := by
      match ys, hy2 with
      | [u, v], _ => exact ⟨u, v, rfl⟩
    have f0 : DataW.trod (fun _ => ()) Tryz.prog W 0 (fun _ => true) false m2 22 ((((cs.toList.drop (i * 2)).take 2).drop 0).take 1) = some u := by
      have := hf 0 _ rfl
      simpa [c3] using this
    have f1 : DataW.trod (fun _ => ()) Tryz.prog W 0 (fun _ => true) false m2 22 ((((cs.toList.drop (i * 2)).take 2).drop 1).take 1) = some v := by
      have := hf 1 _ rfl
      simpa [c3] using this
    obtain ⟨z0, a0, b0, _⟩ := DataW.trod_int Tryz.underlying22 f0
    obtain ⟨z1, a1, b1, _⟩ := DataW.trod_int Tryz.underlying22 f1
    have hrl := rows_length
    have e4 : (xs.map (·.1))[i]? = (Pinned.pow10Rows.map fun x => (.agg [.lit (.int .u64 x.1), .lit (.int .u64 x.2)] : DataW Unit))[i]? := by rw [e3]
    rw [List.getElem?_map, List.getElem?_map, List.getElem?_eq_getElem (by omega : i < xs.length), List.getElem?_eq_getElem (by omega : i < Pinned.pow10Rows.length), ey] at e4
    simp only [Option.map_some, Option.some.injEq, DataW.agg.injEq, List.map_cons, List.map_nil, List.cons.injEq, and_true, b0, b1, DataW.lit.injEq, Lit.int.injEq, true_and] at e4
    have hh : hiT i = z0 ∧ loT i = z1 := by
      unfold hiT loT
      rw [List.getD_eq_getElem?_getD, List.getElem?_eq_getElem (by omega : i < Pinned.pow10Rows.length)]
      exact ⟨e4.1.symm, e4.2.symm⟩
    have g0 : cs.toList[i * 2]? = some (.int .u64 z0) := by
      have h0 : ((((cs.toList.drop (i * 2)).take 2).drop 0).take 1)[0]? = some (.int .u64 z0) := by rw [a0]; rfl
      simpa using h0
    have g1 : cs.toList[i * 2 + 1]? = some (.int .u64 z1) := by
      have h0 : ((((cs.toList.drop (i * 2)).take 2).drop 1).take 1)[0]? = some (.int .u64 z1) := by rw [a1]; rfl
      simpa using h0
    rw [hh.1, hh.2]
    exact ⟨g0, g1⟩
  refine ⟨fun i hi => ?_, fun i hi => ?_⟩
  · rw [World.var?_cell hg hv (i * 2)]
    simpa using (key i hi).1
  · rw [World.var?_cell hg hv (i * 2 + 1)]
    simpa using (key i hi).2
theorem star_err : "*" ++ "errors.errorString" = "*errors.errorString" := by decide
theorem row_err (u : TypeId) (h : Tryz.prog.typeName? 3 u = some "*errors.errorString") : u = 183 :=
  typeName_ptr_named (nm := "errors.errorString") (by rw [star_err]; kernel_rfl) (by kernel_rfl) (by decide) u (by rw [star_err]; exact h)
theorem of_laid {W : World} (h : laidMet Tryz.prog Rows.fnExtKindRow.laid W) : TabW hiT loT W ∧ Pow10W W ∧ EofW W ∧ 7 < W.heap.size := by
  have h8 := h.tail.tail.tail.tail.tail.tail.tail.tail
  have h11 := h8.tail.tail.tail
  have h18 := h11.tail.tail.tail.tail.tail.tail.tail
  have hT := tabW_of h18
  have hP : Pow10W W := Lib.tabIs_of_head (zs := Lib.pow10Tab) (show Tryz.prog.globalNamed "internal/strconv.uint64pow10" = some 2 by kernel_rfl) (by kernel_rfl) Tryz.underlying119 Tryz.underlying22 (by kernel_rfl) (by kernel_rfl) h8
  obtain ⟨a, s, hv, _⟩ := laid_sentinel (tp := 183) h11 (show Tryz.prog.globalNamed "io.EOF" = some 7 by kernel_rfl) (by kernel_rfl) Tryz.underlying44 row_err Tryz.underlying183 Tryz.underlying185 rfl rfl Tryz.underlying9 (by kernel_rfl) (by kernel_rfl)
  have hc : W.cell? ⟨7, 0, none⟩ = some (.iface 183 (.pointer (some a))) := by
    have := World.var?_cell (show Tryz.prog.globalNamed "io.EOF" = some 7 by kernel_rfl) hv 0
    simpa using this
  exact ⟨hT, hP, ⟨a, hc⟩, World.block_lt_of_cell? W _ hc⟩
end Go.Proofs.YtlgmlfhalgnppaaGreatDoor
