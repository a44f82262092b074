/-
  What the rows' condition gives the walks: the three variables' cells; a start that meets it; slices of integers that came in. No conditions.
-/
import Derived.Test.YtdjilplpbaackaaDoorBase
import Derived.Test.YtdjilplpbaackaaDoorRd
import Derived.ChangeSame
import Derived.ChangeVars
import Derived.JoinedOf
import Derived.RowKit
import Derived.RowKitTokens
import Derived.LaidLaws
import Derived.LaidHandle
import Derived.Stop.Joined
import Derived.ProofKit
import Derived.OpenShut
import Derived.Below
namespace Go.Proofs.YtdjilplpbaackaaDoor
open Go.ChangeShapes Go.WideShapes Go.ChangeAt Go.RowKit

theorem own : ownKnob Tryd.prog.godebug = none := by kernel_rfl
theorem laidOut : laidOutB Tryd.prog = true := by kernel_rfl
theorem gEt : Tryd.prog.globalNamed "errors.errorType" = some 0 := by kernel_rfl
theorem gUn : Tryd.prog.globalNamed "io.ErrUnexpectedEOF" = some 1 := by kernel_rfl
theorem gEof : Tryd.prog.globalNamed "io.EOF" = some 2 := by kernel_rfl
theorem tUn : (Tryd.prog.globals[1]?).map (·.type) = some 65 := by kernel_rfl
theorem tEof : (Tryd.prog.globals[2]?).map (·.type) = some 65 := by kernel_rfl
theorem cells212 : Tryd.prog.cellsOf 212 = 1 := by kernel_rfl
theorem cells9 : Tryd.prog.cellsOf 9 = 1 := by kernel_rfl
theorem starErr : "*" ++ "errors.errorString" = "*errors.errorString" := by decide
theorem row175 (u : TypeId) (h : Tryd.prog.typeName? 3 u = some "*errors.errorString") : u = 175 :=
  typeName_ptr_named (nm := "errors.errorString") (by rw [starErr]; kernel_rfl) (by kernel_rfl) (by decide) u (by rw [starErr]; exact h)
theorem rtRow : (Tryd.prog.cutTypes.find? (·.1 == "internal/reflectlite.rtype")).map (·.2) = some 158 := by kernel_rfl
theorem tsize : Tryd.prog.types.size = 223 := by kernel_rfl
theorem oneRow : ((List.range 223).filter fun t => Tryd.prog.rowNamed t [101, 114, 114, 111, 114]) = [65] := by kernel_rfl
theorem handle65 : typeHandle Tryd.prog 65 = .pointer (some ⟨4, 65, none⟩) := by kernel_rfl

/-- The list that both rows bear. -/
abbrev laid3 : List (String × DataW Unit) := [("errors.errorType", Rows.laid_errors_errorType), ("io.EOF", Rows.laid_io_EOF), ("io.ErrUnexpectedEOF", Rows.laid_io_ErrUnexpectedEOF)]

set_option maxRecDepth 100000 in
/-- WHAT THE CONDITION GIVES A WALK: the three variables' cells. -/
theorem globals_of_laid {W : World} (h : laidMetH Tryd.prog laid3 W) :
    W.cell? ⟨0, 0, none⟩ = some (.iface 158 (.agg #[.pointer (some ⟨4, 65, none⟩)])) ∧
    ∃ e1 e2 : Addr, W.cell? ⟨1, 0, none⟩ = some (.iface 175 (.pointer (some e1))) ∧ W.cell? ⟨2, 0, none⟩ = some (.iface 175 (.pointer (some e2))) := by
  have h' : laidMet Tryd.prog [("io.EOF", Rows.laid_io_EOF), ("io.ErrUnexpectedEOF", Rows.laid_io_ErrUnexpectedEOF)] W ∧ handlesMet Tryd.prog [("errors.errorType", Rows.laid_errors_errorType)] W := h
  obtain ⟨h1, h2⟩ := h'
  constructor
  · obtain ⟨name, u, ty, e1, e2, e3, e4, e5⟩ := h2 _ (List.mem_singleton.2 rfl)
    have en : name = [101, 114, 114, 111, 114] := (Option.some.inj e1).symm
    subst en
    obtain rfl := Option.some.inj (rtRow.symm.trans e2)
    have hm : ty ∈ (List.range 223).filter fun t => Tryd.prog.rowNamed t [101, 114, 114, 111, 114] := List.mem_filter.2 ⟨List.mem_range.2 (by rw [← tsize]; exact e3), e4⟩
    rw [oneRow] at hm
    obtain rfl := List.mem_singleton.1 hm
    rw [handle65] at e5
    simpa using World.var?_cell gEt e5 0
  · obtain ⟨ps, ⟨g0, t0, cs0, f0, p0, q0, hg0, ht0, hv0, hd0, ⟨g1, t1, cs1, f1, p1, q1, hg1, ht1, hv1, hd1, hq1, e1⟩, e0⟩, hnd, hrows⟩ := h1
    obtain rfl := Option.some.inj (gEof.symm.trans hg0)
    obtain rfl := Option.some.inj (gUn.symm.trans hg1)
    obtain rfl := Option.some.inj (tEof.symm.trans ht0)
    obtain rfl := Option.some.inj (tUn.symm.trans ht1)
    have hq1' : q1 = [] := hq1
    subst hq1'
    subst e1
    subst e0
    obtain ⟨l0⟩ := cs0
    obtain ⟨l1⟩ := cs1
    have ok0 : ∀ u v, l0 = [.iface u v] → Value.okWide Tryd.prog W .any 0 u v := fun u v e => by
      subst e
      exact (hrows 2 0 (by simp [MemPlace.row])).2 u v ((World.var?_cell hg0 hv0 0).trans rfl)
    have ok1 : ∀ u v, l1 = [.iface u v] → Value.okWide Tryd.prog W .any 0 u v := fun u v e => by
      subst e
      exact (hrows 1 0 (by simp [MemPlace.row])).2 u v ((World.var?_cell hg1 hv1 0).trans rfl)
    obtain ⟨a0, s0, rfl, hc0, hs0, hz0, rfl⟩ := errorString_of_trod Tryd.underlying65 row175 Tryd.underlying175 Tryd.underlying212 rfl rfl Tryd.underlying9 cells212 cells9 hd0 ok0
    obtain ⟨a1, s1, rfl, hc1, hs1, hz1, rfl⟩ := errorString_of_trod Tryd.underlying65 row175 Tryd.underlying175 Tryd.underlying212 rfl rfl Tryd.underlying9 cells212 cells9 hd1 ok1
    exact ⟨a1, a0, (World.var?_cell gUn hv1 0).trans rfl, (World.var?_cell gEof hv0 0).trans rfl⟩

noncomputable def low : Nat := (World.holding Tryd.prog default ⟨#[], #[], []⟩).heap.size
/-- A world that meets the condition: the settled one, the three variables' cells laid. -/
noncomputable def laidWorld (os : Os) : World :=
  let w0 := World.holding Tryd.prog os ⟨#[.cells #[.string { data := #[69, 79, 70] }] 212, .cells #[.string { data := #[117, 110, 101, 120, 112, 101, 99, 116, 101, 100, 32, 69, 79, 70] }] 212], #[], []⟩
  { w0 with heap := ((w0.heap.modify 0 fun
      | .cells _ t frozen => .cells #[.iface 158 (.agg #[.pointer (some ⟨4, 65, none⟩)])] t frozen
      | o => o).modify 1 fun
      | .cells _ t frozen => .cells #[.iface 175 (.pointer (some ⟨low + 1, 0, none⟩))] t frozen
      | o => o).modify 2 fun
      | .cells _ t frozen => .cells #[.iface 175 (.pointer (some ⟨low, 0, none⟩))] t frozen
      | o => o }
theorem laidWorld_met (os : Os) (args : Array Value) : laidMetH Tryd.prog laid3 ((laidWorld os).forCall (fun _ _ => 0) ⟨#[], args, []⟩).memory :=
  laidMetH_of_parts (laidMet_of_run (ps := [.cell 2 0, .cell low 0, .cell 1 0, .cell (low + 1) 0]) 8 (by kernel_rfl) (by kernel_rfl) (by kernel_rfl)) (by kernel_rfl)

/-- A slice of bytes that came in. -/
theorem src_of_ints {W : World} {H : Type} {enc : TypeId × Value → H} {a : Option Addr} {len cap : Nat} {d : DataW H} {p : List MemPlace} (h : DataW.Trod enc Tryd.prog W 0 (fun _ => true) true 22 (.slice a len cap) d p) :
    ∃ src : List UInt8, src.length = len ∧ len ≤ cap ∧ SrcAt [] a src W := by
  obtain ⟨fuel, hf⟩ := h
  rcases open_ints Tryd.underlying22 Tryd.underlying5 (by kernel_rfl) hf with ⟨hcs, _⟩ | ⟨x, l, c, zs, hcs, _, hl, hm, hz, _, hcell, hwz⟩
  · simp [Value.cells] at hcs
    obtain ⟨rfl, rfl, rfl⟩ := hcs
    exact ⟨[], rfl, Nat.le_refl _, fun k u hk => by simp at hk⟩
  · simp [Value.cells] at hcs
    obtain ⟨rfl, rfl, rfl⟩ := hcs
    have hz' : zs.length = cap := by simpa using hz
    refine ⟨(zs.take len).map (fun n => UInt8.ofNat n.toNat), by rw [List.length_map, List.length_take, hz']; exact Nat.min_eq_left hl, hl, ?_⟩
    intro k u hk
    rw [List.getElem?_map, Option.map_eq_some_iff] at hk
    obtain ⟨n, hn, rfl⟩ := hk
    have hkl : k < len := by
      have := (List.getElem?_eq_some_iff.1 hn).1
      simp at this; omega
    rw [List.getElem?_take, if_pos hkl] at hn
    have hkz : k < zs.length := (List.getElem?_eq_some_iff.1 hn).1
    have hmem : n ∈ zs := by have := (List.getElem?_eq_some_iff.1 hn).2; rw [← this]; exact List.getElem_mem _
    refine ⟨_, rfl, by simp, ?_⟩
    rw [hcell k hkz, List.getD_eq_getElem?_getD, hn]
    have hw := hwz n hmem
    have hr : 0 ≤ n ∧ n < 256 := by
      simp [Lit.wf] at hw
      have a0 : IntKind.u8.min = 0 := by decide
      have a1 : IntKind.u8.max = 255 := by decide
      omega
    obtain ⟨m, rfl⟩ : ∃ m : Nat, n = m := ⟨n.toNat, by omega⟩
    have hm : m < 256 := by omega
    show some (Value.int .u8 (m : Int)) = some (Value.int .u8 ((UInt8.ofNat m).toNat : Int))
    rw [UInt8.toNat_ofNat_of_lt' (by exact hm)]
end Go.Proofs.YtdjilplpbaackaaDoor
