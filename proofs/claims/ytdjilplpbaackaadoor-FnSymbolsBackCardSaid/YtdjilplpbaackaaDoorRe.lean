/-
  laws.reads: a table with one code, 0, of one bit, reads 7 twice. Conditions: the three cells of the library's variables.
-/
import Derived.Test.YtdjilplpbaackaaDoorIs
import Derived.Laws.BytesArg
import Derived.Laws.MakeOwn
namespace Go.Proofs.YtdjilplpbaackaaDoor
open Go.RowKit

def s18 : List UInt8 := [0, 1, 0, 0, 0, 0, 0, 0, 0, 0, 0, 0, 0, 0, 0, 0, 0, 7]
theorem bits63 : bitsFrom [63] 0 = [false, false, true, true, true, true, true, true] := by
  rw [bitsFrom_some (q' := 1) (u := 63) (by decide), bitsFrom_none (by decide)]; decide
theorem dec18 : decAll (tabAt s18 0) 2 (bitsFrom [63] 0) = ([7, 7], true) := by
  rw [bits63]; decide
theorem ok18 : DhtOk s18 0 := { cls := by decide, dst := by decide, kraft := by decide, pos := by decide, le := by decide, len := by decide }
theorem segs18 : ∃ m, Segs s18 0 (fun _ _ => none) m ∧ m 0 0 = some 0 :=
  ⟨_, Segs.more ok18 (by
    have e : 0 + 17 + totalAt s18 0 = s18.length := by decide
    rw [e]; exact Segs.done _), by decide⟩
/-- The text that a list of bytes gives. -/
def strOf (l : List Nat) : ByteArray := strOfNums (l.map Int.ofNat)
theorem conv_own {w : World} {base : Nat} {v : Value} {l : List Nat} (h : w.ownsRow base 5 1 v l.length (scells l)) : (convert 22 9 v).run Tryd.prog w = .ok (.string (strOf l)) w := by
  rcases h.2 with ⟨rfl, h0⟩ | ⟨g, cap, cur, rfl, hb, hg, h1, h2, h3, h4⟩
  · have : l = [] := List.length_eq_zero_iff.1 h0
    subst this
    rw [run_convert_bytes_nil (P := Tryd.prog) w 22 5 Tryd.underlying22 Tryd.underlying5 0 0 9 Tryd.underlying9]; rfl
  · have hs : (l.map Int.ofNat).length = l.length := by simp
    rw [run_convert_bytes_arg (P := Tryd.prog) w 22 5 Tryd.underlying22 Tryd.underlying5 g 0 l.length cap (l.map Int.ofNat) hs ?_ 9 Tryd.underlying9]; rfl
    intro i hi
    rw [show (⟨g, 0 + i, none⟩ : Addr) = ⟨g, i, none⟩ from by rw [Nat.zero_add], h.cellAt i (by omega)]
    simp [scells, hi]
theorem made18 : madeCells (Value.int .u8 0).cells (Int.toNat 18 * 1) = #[.int .u8 0, .int .u8 0, .int .u8 0, .int .u8 0, .int .u8 0, .int .u8 0, .int .u8 0, .int .u8 0, .int .u8 0, .int .u8 0, .int .u8 0, .int .u8 0, .int .u8 0, .int .u8 0, .int .u8 0, .int .u8 0, .int .u8 0, .int .u8 0] := by kernel_rfl
section
variable {e1 e2 : Addr} {w : World}
set_option maxRecDepth 100000 in
set_option maxHeartbeats 4000000 in
theorem reads_true (hg : w.cell? ⟨0, 0, none⟩ = some (.iface 158 (.agg #[.pointer (some ⟨4, 65, none⟩)])))
    (h1 : w.cell? ⟨1, 0, none⟩ = some (.iface 175 (.pointer (some e1)))) (h2 : w.cell? ⟨2, 0, none⟩ = some (.iface 175 (.pointer (some e2)))) :
    Calls Tryd.prog 7 #[] w fun e w' => e = .returned (.bool true) ∧ Only [] w w' := by
  have HG := Lib.hid hg; clear hg
  have H1 := Lib.hid h1; clear h1
  have H2 := Lib.hid h2; clear h2
  have hmk : ∀ w : World, (Instr.makeSlice 22 (.int .i64 18) (.int .i64 18)).run Tryd.prog w = .ok (.slice (some ⟨w.heap.size, 0, none⟩) 18 18) (w.alloc (.cells #[.int .u8 0, .int .u8 0, .int .u8 0, .int .u8 0, .int .u8 0, .int .u8 0, .int .u8 0, .int .u8 0, .int .u8 0, .int .u8 0, .int .u8 0, .int .u8 0, .int .u8 0, .int .u8 0, .int .u8 0, .int .u8 0, .int .u8 0, .int .u8 0] 5)) := by
    intro w
    obtain ⟨i0, hi0, hz0, hz1, hz2⟩ := info_parts info5
    rw [run_make w 22 5 i0 (.int .u8 0) Tryd.underlying22 hi0 hz0 .i64 .i64 18 18 (by decide) (by decide) (by rw [hz2]; decide) (by decide), hz1, made18]
    rfl
  go_enter Tryd.func7, Tryd.ntmps7
  go_wp2_with (fail)
  generalize hw2 : World.alloc _ _ = w2
  have hO : Only [] w w2 := by rw [← hw2]; exact ((Only.refl _ _).alloc _).alloc _
  have hT : SrcAt [] (some ⟨w.heap.size, 0, none⟩) s18 w2 := by
    rw [← hw2]
    intro k u hk
    refine ⟨_, rfl, by simp, ?_⟩
    have hk18 : k < 18 := (List.getElem?_eq_some_iff.1 hk).1
    rw [Addr.add_lit, World.cell?_alloc_past _ _ _ (by simp), Nat.zero_add, cell_of_row _ _ k _ _ _ (heap_alloc_new w _)]
    show ((s18.map (fun u : UInt8 => Value.int .u8 u.toNat)).toArray)[k]? = _
    rw [List.getElem?_toArray, List.getElem?_map, hk]; rfl
  have hC : SrcAt [] (some ⟨w.heap.size + 1, 0, none⟩) [63] w2 := by
    rw [← hw2]
    intro k u hk
    have hk1 : k < 1 := (List.getElem?_eq_some_iff.1 hk).1
    obtain rfl : k = 0 := by omega
    cases hk
    refine ⟨_, rfl, by simp, ?_⟩
    rw [Addr.add_lit, Nat.zero_add, cell_of_row _ _ 0 _ _ _ (heap_alloc2_new w _ _)]
    rfl
  clear hw2
  have hcell : ∀ a x, w.cell? a = some x → w2.cell? a = some x := fun a x h => (hO.cell (World.block_lt_of_cell? _ _ h) (by simp)).trans h
  obtain ⟨m, hm1, hm2⟩ := segs18
  refine (impl_symbols (tcap := 18) (ccap := 1) (hcell _ _ HG.out) hT hC (by decide) (by decide) (by decide) (by decide) (hcell _ _ H1.out) (hcell _ _ H2.out) hm1 0 0 2 0 (by decide) (by decide) hm2 (by decide)).mono ?_
  rw [dec18]
  rintro e w3 ⟨v, rfl, hown, hO3⟩
  have hcv := conv_own (l := [7, 7]) hown
  have hs77 : strOf [7, 7] = ⟨#[7, 7]⟩ := by decide
  rw [hs77] at hcv
  clear hT hC hown
  have HO := Lib.hid (hO.trans hO3)
  clear hO hO3 hcell hm1 hm2 hs77 hmk
  go_wp2
  go_ret
  exact ⟨rfl, HO.out⟩
end
end Go.Proofs.YtdjilplpbaackaaDoor
