/-
  The reader of bits that the standard's side has, further. Conditions: the reader's block is as BtS says; the data lie in memory.
-/
import Derived.Test.YtdjilplpbaackaaDoorBi
namespace Go.Proofs.YtdjilplpbaackaaDoor
open Go.RowKit
section
variable {g cap L at_ used : Nat} {ca : Option Addr} {w : World}

set_option maxRecDepth 100000 in
set_option maxHeartbeats 4000000 in
theorem bit_mark {ad : Addr} {u : Nat} (h : BtS g (some ad) L cap at_ used false w) (hlen : L ≤ 4000000000) (hc : w.cell? (ad.add at_) = some (.int .u8 255)) (hd : w.cell? (ad.add (at_ + 1)) = some (.int .u8 u)) (hu : ((u : Int) != 0) = true) (hlt : at_ < L) (hn : at_ + 1 < L) :
    Calls Tryd.prog 18 #[.pointer (some ⟨g, 0, none⟩)] w fun e w' => e = .returned (.int .i64 0) ∧ BtS g (some ad) L cap at_ used true w' ∧ Only [g] w w' := by
  have c0 := h.c0
  have c1 := h.c1
  have c3 := h.c3
  have f3 := h.frozen 3
  have hd1 : decide (L ≤ at_) = false := by simp; omega
  have hd2 : decide ((L : Int) ≤ (at_ : Int) + 1) = false := by simp; omega
  have ht1 : ((at_ : Int) + 1).toNat = at_ + 1 := by omega
  have ht2 : (at_ : Int) + 1 < (L : Int) := by omega
  have ht3 : 0 ≤ (at_ : Int) + 1 := by omega
  have hd' := hd
  unfold Addr.add at hd'
  rw [if_neg (by omega)] at hd'
  have hw1 : IntKind.i64.wrap ((at_ : Int) + 1) = (at_ : Int) + 1 := IntWalk.i64_in _ (by omega)
  have H := Lib.hid h; clear h
  go_enter Tryd.func18, Tryd.ntmps18
  go_wp2
  go_quiet (fail)
  go_wp2
  go_ret
  exact ⟨rfl, (H.out.only (Only.refl [] _) (by simp)).set3 true, by repeat (first | exact Only.refl _ _ | refine Only.drewN ?_ _ | refine Only.setCell ?_ (by simp) _)⟩
end
end Go.Proofs.YtdjilplpbaackaaDoor
