/-
  The reader of bits that the standard's side has. Conditions: the reader's block is as BtS says; the data lie in memory.
-/
import Derived.Test.YtdjilplpbaackaaDoorPl
import Derived.Test.YtdjilplpbaackaaDoorRd
import Derived.Laws.BitsAllLaws
namespace Go.Proofs.YtdjilplpbaackaaDoor
open Go.RowKit

/-- Block g is a reader of bits over a slice: at a place, k bits of its byte taken; was a bit asked for that is not there? -/
def BtS (g : Nat) (ca : Option Addr) (len cap at_ used : Nat) (short : Bool) (w : World) : Prop :=
  w.heap[g]? = some (.cells #[.slice ca len cap, .int .i64 at_, .int .i64 used, .bool short] 61 (0, 0))
namespace BtS
variable {g len cap at_ used : Nat} {ca : Option Addr} {short : Bool} {w : World}
theorem lt (h : BtS g ca len cap at_ used short w) : g < w.heap.size := (Array.getElem?_eq_some_iff.1 h).1
theorem c0 (h : BtS g ca len cap at_ used short w) : w.cell? ⟨g, 0, none⟩ = some (.slice ca len cap) := by rw [cell_of_row w g 0 _ _ _ h]; rfl
theorem c1 (h : BtS g ca len cap at_ used short w) : w.cell? ⟨g, 1, none⟩ = some (.int .i64 at_) := by rw [cell_of_row w g 1 _ _ _ h]; rfl
theorem c2 (h : BtS g ca len cap at_ used short w) : w.cell? ⟨g, 2, none⟩ = some (.int .i64 used) := by rw [cell_of_row w g 2 _ _ _ h]; rfl
theorem c3 (h : BtS g ca len cap at_ used short w) : w.cell? ⟨g, 3, none⟩ = some (.bool short) := by rw [cell_of_row w g 3 _ _ _ h]; rfl
theorem frozen (h : BtS g ca len cap at_ used short w) (k : Nat) : w.frozen? ⟨g, k, none⟩ = false := frozen_of_row w g k _ _ h
theorem set1 (h : BtS g ca len cap at_ used short w) {x : Int} {n : Nat} (e : x = n) : BtS g ca len cap n used short (w.setCell ⟨g, 1, none⟩ (.int .i64 x)) := by
  unfold BtS at h ⊢; subst e; rw [heap_setCell_same w g 1 _ _ _ h]; rfl
theorem set2 (h : BtS g ca len cap at_ used short w) {x : Int} {n : Nat} (e : x = n) : BtS g ca len cap at_ n short (w.setCell ⟨g, 2, none⟩ (.int .i64 x)) := by
  unfold BtS at h ⊢; subst e; rw [heap_setCell_same w g 2 _ _ _ h]; rfl
theorem set3 (h : BtS g ca len cap at_ used short w) (b : Bool) : BtS g ca len cap at_ used b (w.setCell ⟨g, 3, none⟩ (.bool b)) := by
  unfold BtS at h ⊢; rw [heap_setCell_same w g 3 _ _ _ h]; rfl
theorem only (h : BtS g ca len cap at_ used short w) {S : List Nat} {w' : World} (k : Only S w w') (hs : g ∉ S) : BtS g ca len cap at_ used short w' := by
  have hl := h.lt
  unfold BtS at h ⊢; rw [k.block g hl hs]; exact h
end BtS

section
variable {g cap L at_ used : Nat} {ca : Option Addr} {w : World}

set_option maxRecDepth 100000 in
set_option maxHeartbeats 4000000 in
theorem bit_short (h : BtS g ca L cap at_ used true w) :
    Calls Tryd.prog 18 #[.pointer (some ⟨g, 0, none⟩)] w fun e w' => e = .returned (.int .i64 0) ∧ BtS g ca L cap at_ used true w' ∧ Only [g] w w' := by
  have c3 := h.c3
  have f3 := h.frozen 3
  have H := Lib.hid h; clear h
  go_enter Tryd.func18, Tryd.ntmps18
  go_wp2
  go_quiet (fail)
  go_wp2
  go_ret
  exact ⟨rfl, (H.out.only (Only.refl [] _) (by simp)).set3 true, by repeat (first | exact Only.refl _ _ | refine Only.drewN ?_ _ | refine Only.setCell ?_ (by simp) _)⟩

set_option maxRecDepth 100000 in
set_option maxHeartbeats 4000000 in
theorem bit_over (h : BtS g ca L cap at_ used false w) (hn : L ≤ at_) :
    Calls Tryd.prog 18 #[.pointer (some ⟨g, 0, none⟩)] w fun e w' => e = .returned (.int .i64 0) ∧ BtS g ca L cap at_ used true w' ∧ Only [g] w w' := by
  have c0 := h.c0
  have c1 := h.c1
  have c3 := h.c3
  have f3 := h.frozen 3
  have hd1 : decide (L ≤ at_) = true := by simp; omega
  clear hn
  have H := Lib.hid h; clear h
  go_enter Tryd.func18, Tryd.ntmps18
  go_wp2
  go_quiet (fail)
  go_wp2
  go_ret
  exact ⟨rfl, (H.out.only (Only.refl [] _) (by simp)).set3 true, by repeat (first | exact Only.refl _ _ | refine Only.drewN ?_ _ | refine Only.setCell ?_ (by simp) _)⟩

set_option maxRecDepth 100000 in
set_option maxHeartbeats 4000000 in
theorem bit_cut {ad : Addr} (h : BtS g (some ad) L cap at_ used false w) (hlen : L ≤ 4000000000) (hc : w.cell? (ad.add at_) = some (.int .u8 255)) (hlt : at_ < L) (hn : L ≤ at_ + 1) :
    Calls Tryd.prog 18 #[.pointer (some ⟨g, 0, none⟩)] w fun e w' => e = .returned (.int .i64 0) ∧ BtS g (some ad) L cap at_ used true w' ∧ Only [g] w w' := by
  have c0 := h.c0
  have c1 := h.c1
  have c3 := h.c3
  have f3 := h.frozen 3
  have hd1 : decide (L ≤ at_) = false := by simp; omega
  have hd2 : decide ((L : Int) ≤ (at_ : Int) + 1) = true := by simp; omega
  clear hn
  have H := Lib.hid h; clear h
  go_enter Tryd.func18, Tryd.ntmps18
  go_wp2
  go_quiet (fail)
  go_wp2
  go_ret
  exact ⟨rfl, (H.out.only (Only.refl [] _) (by simp)).set3 true, by repeat (first | exact Only.refl _ _ | refine Only.drewN ?_ _ | refine Only.setCell ?_ (by simp) _)⟩
end
end Go.Proofs.YtdjilplpbaackaaDoor
