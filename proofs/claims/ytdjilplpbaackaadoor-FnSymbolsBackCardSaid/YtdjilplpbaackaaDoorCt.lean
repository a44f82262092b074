/-
  laws.counted. Conditions: the slice's cells lie in memory.
-/
import Derived.Test.YtdjilplpbaackaaDoorRd
import Derived.Test.YtdjilplpbaackaaDoorAr
namespace Go.Proofs.YtdjilplpbaackaaDoor
open Go.RowKit

/-- What counted answers. -/
def CtEnd (src : List UInt8) (w : World) (e : Ending) (w' : World) : Prop :=
  ∃ C : Array Value, e = .returned (.tuple #[.agg C, .bool ((src.length : Int) == 16)]) ∧ C.size = 16 ∧ One C ∧ (∀ (j : Nat) (u : UInt8), j < 16 → src[j]? = some u → C[j]? = some (.int .u8 u.toNat)) ∧ Only [] w w'
theorem one16 : One #[.int .u8 0, .int .u8 0, .int .u8 0, .int .u8 0, .int .u8 0, .int .u8 0, .int .u8 0, .int .u8 0, .int .u8 0, .int .u8 0, .int .u8 0, .int .u8 0, .int .u8 0, .int .u8 0, .int .u8 0, .int .u8 0] := by
  intro j v hj
  have := Array.mem_of_getElem? hj
  simp at this; subst this; rfl
section
variable {sa : Option Addr} {src : List UInt8} {cap : Nat} {w : World}
set_option maxRecDepth 100000 in
set_option maxHeartbeats 4000000 in
theorem counted_ (h : SrcAt [] sa src w) (hlen : src.length ≤ 4000000000) :
    Calls Tryd.prog 8 #[.slice sa src.length cap] w (CtEnd src w) := by
  have H := Lib.hid h; clear h
  obtain ⟨L, hL⟩ : ∃ L, L = src.length := ⟨_, rfl⟩
  rw [← hL] at hlen
  rw [← hL]
  have HL := Lib.hid hL; clear hL
  go_enter Tryd.func8, Tryd.ntmps8
  go_wp2_with (fail)
  · generalize hw1 : World.alloc _ _ = w1
    obtain ⟨g, hg⟩ : ∃ g, g = w.heap.size := ⟨_, rfl⟩
    have hrow1 : w1.heap[g]? = some (.cells #[.int .u8 0, .int .u8 0, .int .u8 0, .int .u8 0, .int .u8 0, .int .u8 0, .int .u8 0, .int .u8 0, .int .u8 0, .int .u8 0, .int .u8 0, .int .u8 0, .int .u8 0, .int .u8 0, .int .u8 0, .int .u8 0] 30 (0, 0)) := by
      rw [← hw1, hg]; exact heap_alloc_new w _
    have hO1 : Only [] w w1 := by rw [← hw1]; exact (Only.refl _ _).alloc _
    have hgw : w.heap.size ≤ g := by omega
    rw [← hg]
    clear hw1 hg
    have hM : 16 ≤ L := by omega
    have hM16 : 16 ≤ 16 := by omega
    go_loopw [8] (fun v8 wr => ∃ (i : Nat) (cs : Array Value), i ≤ 16 ∧ v8 = .int .i64 i ∧ wr.heap[g]? = some (.cells cs 30 (0, 0)) ∧ cs.size = 16 ∧ One cs ∧ (∀ (j : Nat) (u : UInt8), j < i → src[j]? = some u → cs[j]? = some (.int .u8 u.toNat)) ∧ Only [] w wr) (fun v8 _ => 16 - (intOf v8).toNat)
    case atStart => exact ⟨0, _, by omega, rfl, hrow1, rfl, one16, by omega, hO1⟩
    case round =>
      obtain ⟨i, cs, hi, rfl, hrow, hsz, hone, hcs, hO⟩ := hrel
      have HROW := Lib.hid hrow
      have HO := Lib.hid hO; clear hO
      have HONE := Lib.hid hone; clear hone
      have HCS := Lib.hid hcs; clear hcs
      by_cases hiM : i < 16
      · have hiS : i < src.length := by rw [← HL.out]; omega
        obtain ⟨u, hu⟩ : ∃ u, src[i]? = some u := ⟨_, List.getElem?_eq_getElem hiS⟩
        obtain ⟨ad, rfl, _, hc⟩ := H.out i u hu
        have hc' := (HO.out.cell (World.block_lt_of_cell? _ _ hc) (by simp)).trans hc
        have f1 : decide ((i : Int) < (16 : Int)) = true := decide_eq_true (by omega)
        have f2 : (0 : Int) ≤ (i : Int) := by omega
        have f3 : (i : Int).toNat = i := by omega
        have f4 : (i : Int) < (L : Int) := by omega
        have f6 : (i : Int) < 16 := by omega
        have f5 : IntKind.i64.wrap ((i : Int) + 1) = ((i + 1 : Nat) : Int) := IntWalk.i64_in _ (by omega)
        have hcg : wr.cell? ⟨g, i, none⟩ = some (cs[i]'(by omega)) := by rw [cell_of_row _ _ i _ _ _ hrow, Array.getElem?_eq_getElem]
        have hfg : wr.frozen? ⟨g, i, none⟩ = false := frozen_of_row _ _ i _ _ hrow
        have HU := Lib.hid hu; clear hu hc hrow
        go_wp2
        go_roundw
        case measure => simp [intOf]; omega
        case rel =>
          refine ⟨i + 1, cs.setIfInBounds i (.int .u8 u.toNat), by omega, rfl, Lib.heap_setCell_same HROW.out _, by simp [hsz], HONE.out.set i rfl, ?_, HO.out.setCell (.inr hgw) _⟩
          intro j x hj hx
          rw [Array.getElem?_setIfInBounds]
          by_cases hji : i = j
          · subst hji
            rw [HU.out] at hx; cases hx
            rw [if_pos rfl, if_pos (by omega)]
          · rw [if_neg hji]; exact HCS.out j x (by omega) hx
      · have f1 : decide ((i : Int) < (16 : Int)) = false := decide_eq_false (by omega)
        go_wp2_with (first | refine wpList_load_row rfl 30 (.tmp 2) rfl g rfl 30 cs (0, 0) _ hrow Tryd.underlying30 rfl (by rw [size30, hsz]) ?_ | refine wpList_store_row rfl 30 (.tmp 2) (.tmp 18) rfl g 30 cs cs rfl rfl hrow (by rw [size30, hsz]) rfl HONE.out.all ?_)
        refine ret_cell rfl rfl rfl (heap_setRow hrow) Tryd.underlying30 rfl (by rw [size30, hsz]) rfl ?_
        refine ⟨cs, by rw [HL.out]; rfl, hsz, HONE.out, fun j u hj hu => HCS.out j u ?_ hu, HO.out.setRow (.inr hgw) _⟩
        have := (List.getElem?_eq_some_iff.1 hu).1
        rw [← HL.out] at this
        omega
  · generalize hw1 : World.alloc _ _ = w1
    obtain ⟨g, hg⟩ : ∃ g, g = w.heap.size := ⟨_, rfl⟩
    have hrow1 : w1.heap[g]? = some (.cells #[.int .u8 0, .int .u8 0, .int .u8 0, .int .u8 0, .int .u8 0, .int .u8 0, .int .u8 0, .int .u8 0, .int .u8 0, .int .u8 0, .int .u8 0, .int .u8 0, .int .u8 0, .int .u8 0, .int .u8 0, .int .u8 0] 30 (0, 0)) := by
      rw [← hw1, hg]; exact heap_alloc_new w _
    have hO1 : Only [] w w1 := by rw [← hw1]; exact (Only.refl _ _).alloc _
    have hgw : w.heap.size ≤ g := by omega
    rw [← hg]
    clear hw1 hg
    have hM : L ≤ L := by omega
    have hM16 : L ≤ 16 := by omega
    go_loopw [8] (fun v8 wr => ∃ (i : Nat) (cs : Array Value), i ≤ L ∧ v8 = .int .i64 i ∧ wr.heap[g]? = some (.cells cs 30 (0, 0)) ∧ cs.size = 16 ∧ One cs ∧ (∀ (j : Nat) (u : UInt8), j < i → src[j]? = some u → cs[j]? = some (.int .u8 u.toNat)) ∧ Only [] w wr) (fun v8 _ => L - (intOf v8).toNat)
    case atStart => exact ⟨0, _, by omega, rfl, hrow1, rfl, one16, by omega, hO1⟩
    case round =>
      obtain ⟨i, cs, hi, rfl, hrow, hsz, hone, hcs, hO⟩ := hrel
      have HROW := Lib.hid hrow
      have HO := Lib.hid hO; clear hO
      have HONE := Lib.hid hone; clear hone
      have HCS := Lib.hid hcs; clear hcs
      by_cases hiM : i < L
      · have hiS : i < src.length := by rw [← HL.out]; omega
        obtain ⟨u, hu⟩ : ∃ u, src[i]? = some u := ⟨_, List.getElem?_eq_getElem hiS⟩
        obtain ⟨ad, rfl, _, hc⟩ := H.out i u hu
        have hc' := (HO.out.cell (World.block_lt_of_cell? _ _ hc) (by simp)).trans hc
        have f1 : decide ((i : Int) < (L : Int)) = true := decide_eq_true (by omega)
        have f2 : (0 : Int) ≤ (i : Int) := by omega
        have f3 : (i : Int).toNat = i := by omega
        have f4 : (i : Int) < (L : Int) := by omega
        have f6 : (i : Int) < 16 := by omega
        have f5 : IntKind.i64.wrap ((i : Int) + 1) = ((i + 1 : Nat) : Int) := IntWalk.i64_in _ (by omega)
        have hcg : wr.cell? ⟨g, i, none⟩ = some (cs[i]'(by omega)) := by rw [cell_of_row _ _ i _ _ _ hrow, Array.getElem?_eq_getElem]
        have hfg : wr.frozen? ⟨g, i, none⟩ = false := frozen_of_row _ _ i _ _ hrow
        have HU := Lib.hid hu; clear hu hc hrow
        go_wp2
        go_roundw
        case measure => simp [intOf]; omega
        case rel =>
          refine ⟨i + 1, cs.setIfInBounds i (.int .u8 u.toNat), by omega, rfl, Lib.heap_setCell_same HROW.out _, by simp [hsz], HONE.out.set i rfl, ?_, HO.out.setCell (.inr hgw) _⟩
          intro j x hj hx
          rw [Array.getElem?_setIfInBounds]
          by_cases hji : i = j
          · subst hji
            rw [HU.out] at hx; cases hx
            rw [if_pos rfl, if_pos (by omega)]
          · rw [if_neg hji]; exact HCS.out j x (by omega) hx
      · have f1 : decide ((i : Int) < (L : Int)) = false := decide_eq_false (by omega)
        go_wp2_with (first | refine wpList_load_row rfl 30 (.tmp 2) rfl g rfl 30 cs (0, 0) _ hrow Tryd.underlying30 rfl (by rw [size30, hsz]) ?_ | refine wpList_store_row rfl 30 (.tmp 2) (.tmp 18) rfl g 30 cs cs rfl rfl hrow (by rw [size30, hsz]) rfl HONE.out.all ?_)
        refine ret_cell rfl rfl rfl (heap_setRow hrow) Tryd.underlying30 rfl (by rw [size30, hsz]) rfl ?_
        refine ⟨cs, by rw [HL.out]; rfl, hsz, HONE.out, fun j u hj hu => HCS.out j u ?_ hu, HO.out.setRow (.inr hgw) _⟩
        have := (List.getElem?_eq_some_iff.1 hu).1
        rw [← HL.out] at this
        omega
end
end Go.Proofs.YtdjilplpbaackaaDoor
