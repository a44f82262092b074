/-
  ZZCodes and impl.Codes. Conditions: the symbols lie in memory; the counts are sixteen bytes; the table is as the standard's side found it.
-/
import Derived.Test.YtdjilplpbaackaaDoorIo
namespace Go.Proofs.YtdjilplpbaackaaDoor
open Go.RowKit

/-- What ZZCodes answers. -/
def ZcEnd (T : Tab) (ss : List UInt8) (w : World) (e : Ending) (w' : World) : Prop :=
  ∃ hb M, e = .returned (.slice (some ⟨hb, 0, none⟩) (M + 1) (M + 1)) ∧ w.heap.size ≤ hb ∧ M ≤ 255 ∧ (∀ j, j < ss.length → byteAt ss j ≤ M) ∧ LutS hb M T ss ss.length w' ∧ Only [] w w'

theorem sixteen {C : Array Value} {T : Tab} (hC : C.size = 16) (h : ∀ i, i < 16 → C[i]? = some (.int .u8 (T.cnt (i + 1) : Int))) : C = #[.int .u8 (T.cnt 1 : Int), .int .u8 (T.cnt 2 : Int), .int .u8 (T.cnt 3 : Int), .int .u8 (T.cnt 4 : Int), .int .u8 (T.cnt 5 : Int), .int .u8 (T.cnt 6 : Int), .int .u8 (T.cnt 7 : Int), .int .u8 (T.cnt 8 : Int), .int .u8 (T.cnt 9 : Int), .int .u8 (T.cnt 10 : Int), .int .u8 (T.cnt 11 : Int), .int .u8 (T.cnt 12 : Int), .int .u8 (T.cnt 13 : Int), .int .u8 (T.cnt 14 : Int), .int .u8 (T.cnt 15 : Int), .int .u8 (T.cnt 16 : Int)] := by
  apply Array.ext_getElem?
  intro i
  match i with
  | 0 => exact h 0 (by decide)
  | 1 => exact h 1 (by decide)
  | 2 => exact h 2 (by decide)
  | 3 => exact h 3 (by decide)
  | 4 => exact h 4 (by decide)
  | 5 => exact h 5 (by decide)
  | 6 => exact h 6 (by decide)
  | 7 => exact h 7 (by decide)
  | 8 => exact h 8 (by decide)
  | 9 => exact h 9 (by decide)
  | 10 => exact h 10 (by decide)
  | 11 => exact h 11 (by decide)
  | 12 => exact h 12 (by decide)
  | 13 => exact h 13 (by decide)
  | 14 => exact h 14 (by decide)
  | 15 => exact h 15 (by decide)
  | n + 16 => rw [Array.getElem?_eq_none (by omega), Array.getElem?_eq_none (by simp)]
theorem seventeen (T : Tab) (v : Value) : ∀ i, i < 16 → (#[.int .u8 (T.cnt 1 : Int), .int .u8 (T.cnt 2 : Int), .int .u8 (T.cnt 3 : Int), .int .u8 (T.cnt 4 : Int), .int .u8 (T.cnt 5 : Int), .int .u8 (T.cnt 6 : Int), .int .u8 (T.cnt 7 : Int), .int .u8 (T.cnt 8 : Int), .int .u8 (T.cnt 9 : Int), .int .u8 (T.cnt 10 : Int), .int .u8 (T.cnt 11 : Int), .int .u8 (T.cnt 12 : Int), .int .u8 (T.cnt 13 : Int), .int .u8 (T.cnt 14 : Int), .int .u8 (T.cnt 15 : Int), .int .u8 (T.cnt 16 : Int), v] : Array Value)[i]? = some (.int .u8 (T.cnt (i + 1) : Int)) := by
  intro i hi
  match i, hi with
  | 0, _ => rfl
  | 1, _ => rfl
  | 2, _ => rfl
  | 3, _ => rfl
  | 4, _ => rfl
  | 5, _ => rfl
  | 6, _ => rfl
  | 7, _ => rfl
  | 8, _ => rfl
  | 9, _ => rfl
  | 10, _ => rfl
  | 11, _ => rfl
  | 12, _ => rfl
  | 13, _ => rfl
  | 14, _ => rfl
  | 15, _ => rfl
  | n + 16, h => omega
section
variable {cap : Nat} {T : Tab} {sa : Option Addr} {ss : List UInt8} {C : Array Value} {w : World}
set_option maxRecDepth 100000 in
set_option maxHeartbeats 8000000 in
theorem zz_codes (hS : SrcAt [] sa ss w) (hlen : ss.length ≤ 4000000000) (hC : C.size = 16) (hCc : ∀ i, i < 16 → C[i]? = some (.int .u8 (T.cnt (i + 1) : Int)))
    (hc255 : ∀ i, i < 16 → T.cnt (i + 1) ≤ 255) (hK : T.Strict) (hidx : T.idx 17 = ss.length) (hnd : ∀ a b, a < b → b < ss.length → byteAt ss a ≠ byteAt ss b) :
    Calls Tryd.prog 16 #[.agg C, .slice sa ss.length cap] w (ZcEnd T ss w) := by
  have HS := Lib.hid hS; clear hS
  obtain rfl := sixteen hC hCc
  clear hC hCc
  have HC := Lib.hid hc255; clear hc255
  have HK := Lib.hid hK; clear hK
  have HID := Lib.hid hidx; clear hidx
  have HND := Lib.hid hnd; clear hnd
  go_enter Tryd.func16, Tryd.ntmps16
  go_upto_region 2 with (fail)
  generalize hw1 : World.alloc _ _ = w1
  obtain ⟨g, hg⟩ : ∃ g, g = w.heap.size := ⟨_, rfl⟩
  rw [← hg]
  have hB1 := heap_alloc2_old w (.cells #[.int .u8 (T.cnt 1 : Int), .int .u8 (T.cnt 2 : Int), .int .u8 (T.cnt 3 : Int), .int .u8 (T.cnt 4 : Int), .int .u8 (T.cnt 5 : Int), .int .u8 (T.cnt 6 : Int), .int .u8 (T.cnt 7 : Int), .int .u8 (T.cnt 8 : Int), .int .u8 (T.cnt 9 : Int), .int .u8 (T.cnt 10 : Int), .int .u8 (T.cnt 11 : Int), .int .u8 (T.cnt 12 : Int), .int .u8 (T.cnt 13 : Int), .int .u8 (T.cnt 14 : Int), .int .u8 (T.cnt 15 : Int), .int .u8 (T.cnt 16 : Int)] 30) (.cells #[.slice none 0 0] 113)
  rw [hw1, ← hg] at hB1
  have hH1 : w1.heap[g + 1]? = some (.cells #[.slice none 0 0] 113 (0, 0)) := by rw [← hw1, hg]; exact heap_alloc2_new w _ _
  have hO1 : Only [] w w1 := by rw [← hw1]; exact ((Only.refl _ _).alloc _).alloc _
  have hgw : w.heap.size ≤ g := by omega
  have hz1 : g + 1 < w1.heap.size := by rw [← hw1, hg]; simp
  clear hw1 hg
  have HH1 := Lib.hid hH1; clear hH1
  have HO1 := Lib.hid hO1; clear hO1
  go_wp2_with (first | (with_reducible show wpList _ _ _ (_ :: _) _ _; refine wpList_load_row rfl 30 (.tmp 2) rfl g rfl 30 _ (0, 0) _ hB1 Tryd.underlying30 rfl (size30.trans rfl) ?_) | fail)
  clear hB1
  have hS1 : SrcAt [g + 1] sa ss w1 := HS.out.fresh HO1.out (by simp; omega)
  refine (init_ (H := g + 1) (T := T) hS1 hlen ⟨_, HH1.out⟩ rfl (seventeen T _) rfl HC.out HK.out HID.out HND.out).mono ?_
  rintro e w2 ⟨rfl, hb, M, h1, h2, h3, h4, h5, h6⟩
  have hO2 : Only [] w w2 := HO1.out.andThen h6 (by simp; omega)
  have HZ := Lib.hid (And.intro h1 (And.intro h2 (And.intro h3 (And.intro h4 hO2))))
  have hsz := HO1.out.size
  clear h1 h2 h3 h4 h6 hO2 hS1
  go_wp2
  go_ret
  exact ⟨hb, M, rfl, by have := HZ.out.1; omega, HZ.out.2.1, HZ.out.2.2.1, HZ.out.2.2.2.1, HZ.out.2.2.2.2⟩

set_option maxRecDepth 100000 in
set_option maxHeartbeats 8000000 in
theorem impl_codes (hS : SrcAt [] sa ss w) (hlen : ss.length ≤ 4000000000) (hC : C.size = 16) (hCc : ∀ i, i < 16 → C[i]? = some (.int .u8 (T.cnt (i + 1) : Int)))
    (hc255 : ∀ i, i < 16 → T.cnt (i + 1) ≤ 255) (hK : T.Strict) (hidx : T.idx 17 = ss.length) (hnd : ∀ a b, a < b → b < ss.length → byteAt ss a ≠ byteAt ss b) :
    Calls Tryd.prog 10 #[.agg C, .slice sa ss.length cap] w (ZcEnd T ss w) := by
  have HS := Lib.hid hS; clear hS
  have HCC := Lib.hid hCc; clear hCc
  have HCZ := Lib.hid hC; clear hC
  have HC := Lib.hid hc255; clear hc255
  have HK := Lib.hid hK; clear hK
  have HID := Lib.hid hidx; clear hidx
  have HND := Lib.hid hnd; clear hnd
  go_enter Tryd.func10, Tryd.ntmps10
  go_upto_region 1 with (fail)
  generalize hw1 : World.alloc _ _ = w1
  obtain ⟨g, hg⟩ : ∃ g, g = w.heap.size := ⟨_, rfl⟩
  rw [← hg]
  have hB1 : w1.heap[g]? = some (.cells C 30 (0, 0)) := by rw [← hw1, hg]; exact heap_alloc_new w _
  have hO1 : Only [] w w1 := by rw [← hw1]; exact (Only.refl _ _).alloc _
  clear hw1 hg
  have HO1 := Lib.hid hO1; clear hO1
  go_wp2_with (first | (with_reducible show wpList _ _ _ (_ :: _) _ _; refine wpList_load_row rfl 30 (.tmp 2) rfl g rfl 30 C (0, 0) _ hB1 Tryd.underlying30 rfl (by rw [size30, HCZ.out]) ?_) | fail)
  refine (zz_codes (T := T) (HS.out.only HO1.out (by simp)) hlen HCZ.out HCC.out HC.out HK.out HID.out HND.out).mono ?_
  rintro e w2 ⟨hb, M, rfl, h1, h2, h3, h4, h5⟩
  have hO2 : Only [] w w2 := HO1.out.trans h5
  have HZ := Lib.hid (And.intro h1 (And.intro h2 (And.intro h3 (And.intro h4 hO2))))
  have hsz := HO1.out.size
  clear h1 h2 h3 h4 h5 hO2 hB1
  go_wp2
  go_ret
  exact ⟨hb, M, rfl, by have := HZ.out.1; omega, HZ.out.2.1, HZ.out.2.2.1, HZ.out.2.2.2.1, HZ.out.2.2.2.2⟩
end
end Go.Proofs.YtdjilplpbaackaaDoor
