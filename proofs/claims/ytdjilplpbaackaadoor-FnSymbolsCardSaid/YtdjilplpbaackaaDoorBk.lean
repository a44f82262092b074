/-
  The reader of bits that the standard's side has: a bit that is there. Conditions: the reader's block is as BtS says; the data lie in memory.
-/
import Derived.Test.YtdjilplpbaackaaDoorBi
namespace Go.Proofs.YtdjilplpbaackaaDoor
open Go.RowKit

set_option maxRecDepth 100000 in
theorem bit_one : ∀ x : Fin 256, bits .and .i64 ((x.val : Nat) : Int) 1 = ((x.val % 2 : Nat) : Int) := by decide
theorem bit_and' (x : Nat) (hx : x < 256) : bits .and .i64 (wrap64 (x : Int)) 1 = ((x % 2 : Nat) : Int) := by
  rw [IntWalk.wrap64_in _ (by omega)]; exact bit_one ⟨x, hx⟩
theorem bit_and (u k : Nat) (hu : u < 256) : bits .and .i64 (wrap64 ((u : Int) / 2 ^ k)) 1 = ((u / 2 ^ k % 2 : Nat) : Int) := by
  have e : (u : Int) / 2 ^ k = ((u / 2 ^ k : Nat) : Int) := by simp
  rw [e]; exact bit_and' _ (Nat.lt_of_le_of_lt (Nat.div_le_self _ _) hu)
section
variable {g cap L at_ used : Nat} {w : World}

set_option maxRecDepth 100000 in
set_option maxHeartbeats 4000000 in
theorem bit_lo {ad : Addr} {u : Nat} (h : BtS g (some ad) L cap at_ used false w) (hne : g ≠ ad.block) (hlen : L ≤ 4000000000) (hc : w.cell? (ad.add at_) = some (.int .u8 u)) (hlt : at_ < L) (hu8 : u < 256) (hu : ((u : Int) == 255) = false) (hus : used < 7) :
    Calls Tryd.prog 18 #[.pointer (some ⟨g, 0, none⟩)] w fun e w' => e = .returned (.int .i64 (u / 2 ^ (7 - used) % 2 : Nat)) ∧ BtS g (some ad) L cap at_ (used + 1) false w' ∧ Only [g] w w' := by
  have c0 := h.c0
  have c1 := h.c1
  have c2 := h.c2
  have c3 := h.c3
  have f1 := h.frozen 1
  have f2 := h.frozen 2
  have hgb : g ≠ ad.block := hne
  have hd1 : decide (L ≤ at_) = false := by simp; omega
  obtain ⟨k, hk⟩ : ∃ k, k = 7 - used := ⟨_, rfl⟩
  have hw7 : IntKind.i64.wrap (7 - (used : Int)) = (k : Int) := by rw [IntWalk.i64_in _ (by omega)]; omega
  have hmin : min k 8 = k := by omega
  have hw1 : IntKind.i64.wrap ((at_ : Int) + 1) = (at_ : Int) + 1 := IntWalk.i64_in _ (by omega)
  have hw2 : IntKind.i64.wrap ((used : Int) + 1) = (used : Int) + 1 := IntWalk.i64_in _ (by omega)
  have h8 : (((used : Int) + 1) == 8) = false := by simp; omega
  have H := Lib.hid h; clear h
  have HK := Lib.hid hk; clear hk
  have HUS := Lib.hid hus; clear hus
  go_enter Tryd.func18, Tryd.ntmps18
  go_wp2
  go_quiet (fail)
  go_wp2
  go_quiet (fail)
  go_wp2
  go_ret
  refine ⟨?_, (H.out.only ((Only.refl [] _).drewN _) (by simp)).set2 (by omega), by repeat (first | exact Only.refl _ _ | refine Only.drewN ?_ _ | refine Only.setCell ?_ (by simp) _)⟩
  show Ending.returned (.int .i64 _) = _
  rw [← HK.out]
  exact congrArg (fun z => Ending.returned (Value.int .i64 z)) (bit_and u _ hu8)

set_option maxRecDepth 100000 in
set_option maxHeartbeats 4000000 in
theorem bit_lo_ff {ad : Addr} (h : BtS g (some ad) L cap at_ used false w) (hne : g ≠ ad.block) (hlen : L ≤ 4000000000) (hc : w.cell? (ad.add at_) = some (.int .u8 255)) (hd : w.cell? (ad.add (at_ + 1)) = some (.int .u8 0)) (hlt : at_ + 1 < L) (hus : used < 7) :
    Calls Tryd.prog 18 #[.pointer (some ⟨g, 0, none⟩)] w fun e w' => e = .returned (.int .i64 (255 / 2 ^ (7 - used) % 2 : Nat)) ∧ BtS g (some ad) L cap at_ (used + 1) false w' ∧ Only [g] w w' := by
  have c0 := h.c0
  have c1 := h.c1
  have c2 := h.c2
  have c3 := h.c3
  have f1 := h.frozen 1
  have f2 := h.frozen 2
  have hgb : g ≠ ad.block := hne
  have hd1 : decide (L ≤ at_) = false := by simp; omega
  obtain ⟨k, hk⟩ : ∃ k, k = 7 - used := ⟨_, rfl⟩
  have hw7 : IntKind.i64.wrap (7 - (used : Int)) = (k : Int) := by rw [IntWalk.i64_in _ (by omega)]; omega
  have hmin : min k 8 = k := by omega
  have hw1 : IntKind.i64.wrap ((at_ : Int) + 1) = (at_ : Int) + 1 := IntWalk.i64_in _ (by omega)
  have hw2 : IntKind.i64.wrap ((used : Int) + 1) = (used : Int) + 1 := IntWalk.i64_in _ (by omega)
  have hd2 : decide ((L : Int) ≤ (at_ : Int) + 1) = false := by simp; omega
  have ht1 : ((at_ : Int) + 1).toNat = at_ + 1 := by omega
  have ht2 : (at_ : Int) + 1 < (L : Int) := by omega
  have ht3 : 0 ≤ (at_ : Int) + 1 := by omega
  have hd' := hd
  unfold Addr.add at hd'
  rw [if_neg (by omega)] at hd'
  have hw3 : IntKind.i64.wrap ((at_ : Int) + 1 + 1) = (at_ : Int) + 1 + 1 := IntWalk.i64_in _ (by omega)
  have h8 : (((used : Int) + 1) == 8) = false := by simp; omega
  have H := Lib.hid h; clear h
  have HK := Lib.hid hk; clear hk
  have HUS := Lib.hid hus; clear hus
  go_enter Tryd.func18, Tryd.ntmps18
  go_wp2
  go_quiet (fail)
  go_wp2
  go_quiet (fail)
  go_wp2
  go_ret
  refine ⟨?_, (H.out.only ((Only.refl [] _).drewN _) (by simp)).set2 (by omega), by repeat (first | exact Only.refl _ _ | refine Only.drewN ?_ _ | refine Only.setCell ?_ (by simp) _)⟩
  show Ending.returned (.int .i64 _) = _
  rw [← HK.out]
  exact congrArg (fun z => Ending.returned (Value.int .i64 z)) (bit_and 255 _ (by decide))
end
end Go.Proofs.YtdjilplpbaackaaDoor
