/-
  A new decoder over a slice of bytes. Conditions: the slice's cells lie in memory.
-/
import Derived.Test.YtdjilplpbaackaaDoorRd
namespace Go.Proofs.YtdjilplpbaackaaDoor
open Go.RowKit

/-- A cell that holds the byte 0. -/
def isZ : Value → Bool
  | .int .u8 0 => true
  | _ => false
theorem isZ_eq {v : Value} (h : isZ v = true) : v = .int .u8 0 := by
  unfold isZ at h
  split at h
  · rfl
  · cases h
theorem zero_buf : (((Tryd.zeroCells100.toList.drop 4).take 4096).all isZ) = true := by kernel_rfl
theorem zero_1 : Tryd.zeroCells100[1]? = some (.int .u32 0) := by kernel_rfl
theorem zero_2 : Tryd.zeroCells100[2]? = some (.int .u32 0) := by kernel_rfl
theorem zero_3 : Tryd.zeroCells100[3]? = some (.int .i32 0) := by kernel_rfl
theorem zero_i : Tryd.zeroCells100[4100]? = some (.int .i64 0) := by kernel_rfl
theorem zero_j : Tryd.zeroCells100[4101]? = some (.int .i64 0) := by kernel_rfl
theorem zero_u : Tryd.zeroCells100[4102]? = some (.int .i64 0) := by kernel_rfl
theorem zero_b : Tryd.zeroCells100[4114]? = some (.bool false) := by kernel_rfl

/-- The decoder as it is made. -/
noncomputable def DS.new (v : Value) : DS := { a := 0, m := 0, n := 0, i := 0, j := 0, nu := 0, buf := fun _ => 0, g := fun k => if k = 0 then v else Tryd.zeroCells100.getD k undef }

theorem DecS.new (w : World) (v : Value) {b : Nat} (hb : b = w.heap.size) : DecS b (DS.new v) (w.alloc (.cells (Tryd.zeroCells100.setIfInBounds 0 v) 100)) := by
  subst hb
  have hsz := Tryd.zeroCells100_size
  refine ⟨_, heap_alloc_new w _, by rw [Array.size_setIfInBounds]; exact hsz, fun k hk => ?_⟩
  rw [Array.getElem?_setIfInBounds]
  by_cases h0 : 0 = k
  · subst h0
    rw [if_pos rfl, if_pos (by omega)]; rfl
  · rw [if_neg h0]
    unfold DS.at DS.new
    by_cases h1 : k = 1
    · subst h1; exact zero_1
    rw [if_neg h1]
    by_cases h2 : k = 2
    · subst h2; exact zero_2
    rw [if_neg h2]
    by_cases h3 : k = 3
    · subst h3; exact zero_3
    rw [if_neg h3]
    by_cases h4 : 4 ≤ k ∧ k < 4100
    · rw [if_pos h4]
      have hz := List.all_eq_true.1 zero_buf
      have hlen : Tryd.zeroCells100.toList.length = 9020 := by rw [Array.length_toList]; exact hsz
      have hin : Tryd.zeroCells100.toList[k]'(by omega) ∈ (Tryd.zeroCells100.toList.drop 4).take 4096 := by
        rw [List.mem_iff_getElem?]
        refine ⟨k - 4, ?_⟩
        rw [List.getElem?_take, if_pos (by omega), List.getElem?_drop, show 4 + (k - 4) = k from by omega, List.getElem?_eq_getElem (by omega)]
      have := isZ_eq (hz _ hin)
      rw [← Array.getElem?_toList, List.getElem?_eq_getElem (by omega), this]; rfl
    rw [if_neg h4]
    by_cases h5 : k = 4100
    · subst h5; exact zero_i
    rw [if_neg h5]
    by_cases h6 : k = 4101
    · subst h6; exact zero_j
    rw [if_neg h6]
    by_cases h7 : k = 4102
    · subst h7; exact zero_u
    rw [if_neg h7]
    have hlt : k < Tryd.zeroCells100.size := by omega
    have h00 : ¬ k = 0 := fun e => h0 (by omega)
    simp only [h00, if_false]
    rw [Array.getElem?_eq_getElem hlt, Array.getD_eq_getD_getElem?, Array.getElem?_eq_getElem hlt]; rfl
theorem DS.new_g (v x : Value) (k : Nat) (hk : ¬ k = 0) (h : Tryd.zeroCells100[k]? = some x) : (DS.new v).g k = x := by
  unfold DS.new
  simp only [hk, if_false]
  rw [Array.getD_eq_getD_getElem?, h]; rfl
theorem DS.new_base (v : Value) : (DS.new v).g 4114 = .bool false := DS.new_g v _ 4114 (by decide) zero_b
end Go.Proofs.YtdjilplpbaackaaDoor
