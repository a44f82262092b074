/-
  clear of a run of the decoder's own cells, as one operation. Conditions: the decoder's block.
-/
import Derived.Test.YtdjilplpbaackaaDoorBase
namespace Go.Proofs.YtdjilplpbaackaaDoor
open Go.RowKit

theorem zeroCells_one (v : Value) (n : Nat) : (Builtin.zeroCells #[v] n).toList = List.replicate n v := by
  apply List.ext_getElem
  · simp [Builtin.zeroCells]
  · intro i h1 h2
    simp [Builtin.zeroCells, Nat.mod_one]

theorem run_clear_dec {P : Program} {b : Nat} {s s' : DS} {w : World} (h : DecS b s w) (t ty elem : TypeId) (o n cp : Nat) (v : Value) (hu : P.underlying t = some (.slice elem)) (hz : (zeroValue elem).run P w = .ok v w) (hv : v.cells = #[v]) (h1 : v.oneCell' = true)
    (hn : 0 < n) (hfit : o + n ≤ 9020) (hs' : ∀ k, k < 9020 → s'.at k = if o ≤ k ∧ k < o + n then v else s.at k) :
    ∃ w', (Builtin.clear_ #[t] ty #[.slice (some ⟨b, o, none⟩) n cp]).run P w = .ok (.tuple #[]) w' ∧ DecS b s' w' ∧ Only [b] w w' := by
  obtain ⟨C, hC, hsz, hk⟩ := h
  have hl : (List.replicate n v).length = n := by simp
  have hst := run_storeCells_at P b o 100 (List.replicate n v) 0 C w hC (by simp; omega) (fun x hx => by rw [List.eq_of_mem_replicate hx]; exact h1)
  simp only [Nat.add_zero, List.length_replicate] at hst
  refine ⟨w.setRow b (C.toList.take o ++ List.replicate n v ++ C.toList.drop (o + n)).toArray, ?_, ⟨_, setRow_heap w b C _ 100 _ hC, ?_, fun k hk' => ?_⟩, (Only.refl _ _).setRow (by simp) _⟩
  · obtain ⟨m, rfl⟩ : ∃ m, n = m + 1 := ⟨n - 1, by omega⟩
    simp [Builtin.clear_, run_underlying hu, hz, hv, zeroCells_one, hst]
  · simp only [List.size_toArray, List.length_append, List.length_take, List.length_drop, Array.length_toList, List.length_replicate]; omega
  · rw [hs' k hk']
    have hlt : (C.toList.take o).length = o := by simp; omega
    rw [List.getElem?_toArray, List.append_assoc]
    by_cases hko : k < o
    · rw [List.getElem?_append_left (by omega), if_neg (by omega), List.getElem?_take, if_pos hko, ← hk k hk', Array.getElem?_toList]
    · rw [List.getElem?_append_right (by omega), hlt]
      by_cases hkc : k < o + n
      · rw [List.getElem?_append_left (by simp; omega), if_pos ⟨by omega, hkc⟩, List.getElem?_replicate, if_pos (by omega)]
      · rw [List.getElem?_append_right (by simp; omega), if_neg (by omega), List.getElem?_drop, ← hk k hk', Array.getElem?_toList]
        congr 1; simp; omega

theorem wpList_clear_dec {P : Program} {b : Nat} {s s' : DS} {w : World} (h : DecS b s w) {ops : Array Oper} {rest : List Oper} {op : Oper} {a : Act} {Q : Exit → Act → World → Prop} (hgd : op.guard = none) (d : Operand) (t : TypeId)
    (ho : op.op = .call { callee := .builtin .clear, args := #[d], argTypes := #[t] }) (hdst : op.dst = none) (elem : TypeId) (o n cp : Nat) (v : Value)
    (hd : a.eval d = .slice (some ⟨b, o, none⟩) n cp) (hu : P.underlying t = some (.slice elem)) (hz : (zeroValue elem).run P w = .ok v w) (hv : v.cells = #[v]) (h1 : v.oneCell' = true)
    (hn : 0 < n) (hfit : o + n ≤ 9020) (hs' : ∀ k, k < 9020 → s'.at k = if o ≤ k ∧ k < o + n then v else s.at k)
    (hK : ∀ w', DecS b s' w' → Only [b] w w' → wpList P ops Q rest a w') : wpList P ops Q (op :: rest) a w := by
  refine wpList_plain hgd fun K hK' => ?_
  obtain ⟨w', hrun, hD, hO⟩ := run_clear_dec h t op.type elem o n cp v hu hz hv h1 hn hfit hs'
  unfold Oper.wp
  simp [execOp, ho, resolve, invoke, builtin, hd, hrun, Result.andThen]
  exact hK' _ _ (by rw [hdst]; exact hK w' hD hO)
end Go.Proofs.YtdjilplpbaackaaDoor
