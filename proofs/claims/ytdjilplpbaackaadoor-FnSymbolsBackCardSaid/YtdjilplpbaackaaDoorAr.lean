/-
  Arrays by value: a block of theirs is read whole, written whole. No conditions.
-/
import Derived.Test.YtdjilplpbaackaaDoorBase
import Derived.Deep.MidRow
import Derived.Deep.WholeRow
import Derived.Laws.ResultCell
import Derived.Lib.BufferMore
namespace Go.Proofs.YtdjilplpbaackaaDoor
open Go.RowKit

theorem size30 : (Tryd.prog.info? 30).map (·.size) = some 16 := by kernel_rfl
theorem size35 : (Tryd.prog.info? 35).map (·.size) = some 512 := by kernel_rfl
theorem size116 : (Tryd.prog.info? 116).map (·.size) = some 17 := by kernel_rfl

/-- Each is one cell. -/
def One (cs : Array Value) : Prop := ∀ (j : Nat) (v : Value), cs[j]? = some v → v.oneCell' = true
theorem One.all {cs : Array Value} (h : One cs) : cs.all (·.oneCell') = true :=
  Array.all_eq_true_iff_forall_mem.2 fun v hv => by obtain ⟨j, hj, rfl⟩ := Array.mem_iff_getElem.1 hv; exact h j _ (Array.getElem?_eq_getElem hj)
theorem One.set {cs : Array Value} (h : One cs) (i : Nat) {v : Value} (hv : v.oneCell' = true) : One (cs.setIfInBounds i v) := by
  intro j x hx
  rw [Array.getElem?_setIfInBounds] at hx
  split at hx
  · split at hx
    · cases hx; exact hv
    · cases hx
  · exact h j x hx
theorem One.of_all {cs : Array Value} (h : cs.all (·.oneCell') = true) : One cs := fun _ v hj => Array.all_eq_true_iff_forall_mem.1 h v (Array.mem_of_getElem? hj)

theorem wpList_load_row {P : Program} {ops : Array Oper} {rest : List Oper} {op : Oper} {a : Act} {w : World} {Q : Exit → Act → World → Prop} (hgd : op.guard = none) (ty : TypeId) (x : Operand) (ho : op.op = .load ty x)
    (g : Nat) (hx : a.eval x = .pointer (some ⟨g, 0, none⟩)) (t : TypeId) (cs : Array Value) (fr : Nat × Nat) (d : TypeDesc) (hg : w.heap[g]? = some (.cells cs t fr))
    (hu : P.underlying ty = some d) (hd : (match d with | .struct _ | .array _ _ => true | _ => false) = true) (hi : (P.info? ty).map (·.size) = some cs.size)
    (h : wpList P ops Q rest (a.put op.dst (.agg cs)) w) : wpList P ops Q (op :: rest) a w :=
  wpList_plain hgd fun _ hK => wp_load_row ty x ho g hx t cs fr d hg hu hd hi (hK _ _ h)
theorem wpList_store_row {P : Program} {ops : Array Oper} {rest : List Oper} {op : Oper} {a : Act} {w : World} {Q : Exit → Act → World → Prop} (hgd : op.guard = none) (ty : TypeId) (x y : Operand) (ho : op.op = .store ty x y)
    (g : Nat) (t : TypeId) (old cs : Array Value) (hx : a.eval x = .pointer (some ⟨g, 0, none⟩)) (hy : a.eval y = .agg cs) (hg : w.heap[g]? = some (.cells old t (0, 0)))
    (hi : (P.info? ty).map (·.size) = some cs.size) (hn : old.size = cs.size) (h1 : cs.all (·.oneCell') = true)
    (h : wpList P ops Q rest (a.put op.dst undef) (w.setRow g cs)) : wpList P ops Q (op :: rest) a w := by
  refine wpList_plain hgd fun _ hK => ?_
  unfold Oper.wp execOp
  simp only [ho, hx, hy, Instr.storeAt, Instr.sureAddr, Sem.run_bind, Sem.run_pure, Result.andThen_ok, run_storeVar_row w g t ty old cs hg hi hn h1]
  exact hK _ _ h
theorem heap_setRow {w : World} {g : Nat} {old cs : Array Value} {t : TypeId} {fr : Nat × Nat} (h : w.heap[g]? = some (.cells old t fr)) : (w.setRow g cs).heap[g]? = some (.cells cs t fr) := by
  show (w.heap.modify g _)[g]? = _
  rw [Array.getElem?_modify, if_pos rfl, h]; rfl
theorem ret_cell {P : Program} {fn : Func} {p u : Tmp} {ty : TypeId} {R : Ending → World → Prop} {a : Act} {w : World} {g : Nat} {t : TypeId} {cs : Array Value} {fr : Nat × Nat} {d : TypeDesc} {b : Value} (hres : fn.results = #[.cell p ty, .tmp u]) (hp : a.tmps.getD p undef = .pointer (some ⟨g, 0, none⟩)) (hb : a.tmps.getD u undef = b)
    (hg : w.heap[g]? = some (.cells cs t fr)) (hu : P.underlying ty = some d) (hd : (match d with | .struct _ | .array _ _ => true | _ => false) = true) (hi : (P.info? ty).map (·.size) = some cs.size)
    (hde : a.defers = []) (hR : R (.returned (.tuple #[.agg cs, b])) w) : bodyPost P fn R .ret a w := by
  refine bodyPost_ret (v := .tuple #[.agg cs, b]) ?_ hde hR
  rw [results_cell_tmp hres, hp, hb]
  simp only [asAddr, Sem.run_pure, Result.andThen_ok, run_loadVar_row w g t ty cs fr d hg hu hd hi]
end Go.Proofs.YtdjilplpbaackaaDoor
