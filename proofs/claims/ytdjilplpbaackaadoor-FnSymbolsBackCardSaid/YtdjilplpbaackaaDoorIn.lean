/-
  huffmanLUT.init: the loop over the codes of one length. Conditions: the counts and the symbols lie in memory; the table's row is new.
-/
import Derived.Test.YtdjilplpbaackaaDoorAr
import Derived.Test.YtdjilplpbaackaaDoorRd
import Derived.Test.YtdjilplpbaackaaDoorPb
import Derived.Test.YtdjilplpbaackaaDoorLk
import Derived.Deep.CutBlock
import Derived.Laws.BitsAllLaws
namespace Go.Proofs.YtdjilplpbaackaaDoor
open Go.RowKit

noncomputable def inBlock (n : Nat) : Code := ((Tryd.f24.body.bind (findBlock n)).getD .skip)

/-- Row hb holds the codes of the first k symbols. -/
def LutS (hb M : Nat) (T : Tab) (ss : List UInt8) (k : Nat) (w : World) : Prop :=
  ∃ cs : Array Value, w.heap[hb]? = some (.cells cs 40 (0, 0)) ∧ cs.size = M + 1 ∧
    ∀ j, j < k → ∃ l c : Nat, T.Has j l c ∧ cs[byteAt ss j]? = some (.int .u32 ((l * 16777216 + c : Nat) : Int))
theorem LutS.only {hb M k : Nat} {T : Tab} {ss : List UInt8} {w w' : World} (h : LutS hb M T ss k w) {S : List Nat} (hO : Only S w w') (hs : hb ∉ S) : LutS hb M T ss k w' := by
  obtain ⟨cs, h1, r⟩ := h
  exact ⟨cs, by rw [hO.block hb (Lib.lt_of_heap h1) hs]; exact h1, r⟩

section
variable {H Bx hb M F X Z i n cap : Nat} {T : Tab} {sa : Option Addr} {ss : List UInt8} {w : World}
set_option maxRecDepth 100000 in
set_option maxHeartbeats 8000000 in
theorem inLoop {x1 x2 x4 x5 x6 x12 x13 x14 x15 x16 x17 x18 x19 x20 x21 x22 x23 x24 x25 x26 x27 x28 x29 x30 x31 x32 x33 x34 x35 x36 x37 x38 x39 x40 x41 x42 x43 x44 x45 x46 x47 x48 x49 x50 x51 x52 x53 x54 x55 x56 x57 x58 x59 x60 x61 x62 x63 x64 : Value} (hS : SrcAt [hb] sa ss w) (hlen : ss.length ≤ 4000000000) (hL : LutS hb M T ss X w) (hH : w.cell? ⟨H, 0, none⟩ = some (.slice (some ⟨hb, 0, none⟩) (M + 1) (M + 1)))
    (hc : w.cell? ⟨Bx, i, none⟩ = some (.int .u8 (n : Int))) (hv : w.cell? ⟨Bx, 16, none⟩ = some (.slice sa ss.length cap)) (hne1 : H ≠ hb) (hne2 : Bx ≠ hb) (hi : i < 16) (hn : n ≤ 255) (hZ : Z = (i + 1) * 16777216)
    (hF : F = T.fst (i + 1)) (hX : X = T.idx (i + 1)) (hcnt : T.cnt (i + 1) = n) (hXn : X + n ≤ ss.length) (hFn : F + n ≤ 65536) (hM : ∀ j, j < ss.length → byteAt ss j ≤ M) (hnd : ∀ a b, a < b → b < ss.length → byteAt ss a ≠ byteAt ss b)
    (Q : Exit → Act → World → Prop)
    (hQ : ∀ (u39 u40 u41 u42 u43 u44 u45 u46 u47 u48 u49 u50 u51 u52 u53 u54 u55 u56 u57 u58 u59 u60 u61 u62 : Value) (w' : World), LutS hb M T ss (X + n) w' → Only [hb] w w' → Q .normal { tmps := #[.pointer (some ⟨H, 0, none⟩), x1, x2, .pointer (some ⟨Bx, 0, none⟩), x4, x5, x6, .int .u32 ((F + n : Nat) : Int), .int .i64 ((X + n : Nat) : Int), .int .i64 ((i : Nat) : Int), .int .u32 ((Z : Nat) : Int), .int .u8 ((n : Nat) : Int), x12, x13, x14, x15, x16, x17, x18, x19, x20, x21, x22, x23, x24, x25, x26, x27, x28, x29, x30, x31, x32, x33, x34, x35, x36, x37, x38, u39, u40, u41, u42, u43, u44, u45, u46, u47, u48, u49, u50, u51, u52, u53, u54, u55, u56, u57, u58, u59, u60, u61, u62, x63, x64], defers := [] } w') :
    (inBlock 4).wp Tryd.prog Q { tmps := #[.pointer (some ⟨H, 0, none⟩), x1, x2, .pointer (some ⟨Bx, 0, none⟩), x4, x5, x6, .int .u32 ((F : Nat) : Int), .int .i64 ((X : Nat) : Int), .int .i64 ((i : Nat) : Int), .int .u32 ((Z : Nat) : Int), .int .u8 0, x12, x13, x14, x15, x16, x17, x18, x19, x20, x21, x22, x23, x24, x25, x26, x27, x28, x29, x30, x31, x32, x33, x34, x35, x36, x37, x38, x39, x40, x41, x42, x43, x44, x45, x46, x47, x48, x49, x50, x51, x52, x53, x54, x55, x56, x57, x58, x59, x60, x61, x62, x63, x64], defers := [] } w := by
  conv => arg 2; whnf
  dsimp only
  have HQ := Lib.hid hQ; clear hQ
  have HS := Lib.hid hS; clear hS
  have HL := Lib.hid hL; clear hL
  have HH := Lib.hid hH; clear hH
  have HC := Lib.hid hc; clear hc
  have HV := Lib.hid hv; clear hv
  have HZ := Lib.hid hZ
  have hZ2 : Z ≤ 300000000 := by omega
  have hZ24 : Z % 2 ^ 24 = 0 := by rw [hZ]; exact Nat.mul_mod_left _ _
  clear hZ
  have HF := Lib.hid hF; clear hF
  have HX := Lib.hid hX; clear hX
  have HM := Lib.hid hM; clear hM
  have HND := Lib.hid hnd; clear hnd
  have HCNT := Lib.hid hcnt; clear hcnt
  obtain ⟨sl, hsl⟩ : ∃ sl, sl = ss.length := ⟨_, rfl⟩
  rw [← hsl] at hlen hXn
  have HSL := Lib.hid hsl; clear hsl
  have g1 : (0 : Int) ≤ (i : Int) := by omega
  have g2 : (i : Int).toNat = i := by omega
  have g3 : (i : Int) < 16 := by omega
  refine wp_block ?_
  go_loopg [7, 8, 11] n (fun m v7 v8 v11 wr => ∃ j : Nat, j ≤ n ∧ m = n - j ∧ v7 = .int .u32 ((F + j : Nat) : Int) ∧ v8 = .int .i64 ((X + j : Nat) : Int) ∧ v11 = .int .u8 (j : Int) ∧ LutS hb M T ss (X + j) wr ∧ Only [hb] w wr)
  case atStart => exact ⟨0, by omega, rfl, rfl, rfl, rfl, HL.out, Only.refl _ _⟩
  case round =>
    obtain ⟨j, hj, hm, rfl, rfl, rfl, hL, hO⟩ := hrel
    obtain ⟨c, hc⟩ : ∃ c, c = F + j := ⟨_, rfl⟩
    obtain ⟨k, hk⟩ : ∃ a, a = X + j := ⟨_, rfl⟩
    rw [← hc]
    rw [← hk] at hL ⊢
    have hcb : c ≤ 65536 := by omega
    have HCE := Lib.hid hc; clear hc
    have hHr := (hO.cell (World.block_lt_of_cell? _ _ HH.out) (by simp; exact hne1)).trans HH.out
    have hcr := (hO.cell (World.block_lt_of_cell? _ _ HC.out) (by simp; exact hne2)).trans HC.out
    have hvr := (hO.cell (World.block_lt_of_cell? _ _ HV.out) (by simp; exact hne2)).trans HV.out
    rw [← HSL.out] at hvr
    have HO := Lib.hid hO; clear hO
    have HMM := Lib.hid hm; clear hm
    by_cases hjn : j < n
    · have f1 : decide ((j : Int) < (n : Int)) = true := decide_eq_true (by omega)
      have hks : k < sl := by omega
      have hlt : k < ss.length := by rw [← HSL.out]; omega
      obtain ⟨u, hu⟩ : ∃ u, ss[k]? = some u := ⟨_, List.getElem?_eq_getElem hlt⟩
      obtain ⟨ad, rfl, hadn, hcu⟩ := HS.out k u hu
      have hcu' := (HO.out.cell (World.block_lt_of_cell? _ _ hcu) (by rw [Addr.block_add]; exact hadn)).trans hcu
      obtain ⟨s, hs⟩ : ∃ s, s = byteAt ss k := ⟨_, rfl⟩
      have hus : u.toNat = s := by rw [hs]; unfold byteAt; rw [List.getD_eq_getElem?_getD, hu]; rfl
      rw [hus] at hcu'
      have hsM : s ≤ M := by rw [hs]; exact HM.out k hlt
      obtain ⟨cs, hrow, hsz, hcs⟩ := hL
      have HCS := Lib.hid hcs; clear hcs
      have HSZ := Lib.hid hsz
      have hltc : s < cs.size := by omega
      have hco : wr.cell? ⟨hb, s, none⟩ = some (cs[s]'hltc) := by rw [cell_of_row _ _ _ _ _ _ hrow]; exact Array.getElem?_eq_getElem hltc
      generalize cs[s]'hltc = v0 at hco
      have hfo := frozen_of_row _ _ s _ _ hrow
      have HROW := Lib.hid hrow; clear hrow hsz hltc
      have HKE := Lib.hid hk; clear hk
      have hor : bits .or .u32 (Z : Int) (c : Int) = ((Z + c : Nat) : Int) := by rw [u32_or_nat _ _ (by omega) (by omega), nat_join 24 _ _ hZ24 (by omega)]
      have g4 : (0 : Int) ≤ (k : Int) := by omega
      have g5 : (k : Int).toNat = k := by omega
      have g6 : (k : Int) < (sl : Int) := by omega
      have g7 : (0 : Int) ≤ (s : Int) := by omega
      have g8 : (s : Int).toNat = s := by omega
      have g9 : (s : Int) < (M : Int) + 1 := by omega
      have HSV := Lib.hid hs; clear hs hus hcu hadn hu hlt
      go_wp2
      refine wp_region_still_tail 12 (by kernel_rfl) (by kernel_rfl) ?_
      change wpStill _ _ (World.drew _) (fun a' => wpList _ _ _ _ a' (World.drew _)) _ _
      simp only [List.take_succ_cons, List.take_zero, List.drop_succ_cons, List.drop_zero]
      repeat still_step
      refine wpStill_nil ?_
      clear hHr hcr hvr
      go_wp2
      go_roundg (n - (j + 1))
      case measure => have := HMM.out; omega
      case rel =>
        have hke := HKE.out
        have hce := HCE.out
        have hsv := HSV.out
        have hrow' : (World.drew wr).heap[hb]? = some (.cells cs 40 (0, 0)) := HROW.out
        refine ⟨j + 1, by omega, rfl, congrArg _ (by omega), congrArg _ (by omega), rfl, ⟨_, Lib.heap_setCell_same hrow' _, by rw [Array.size_setIfInBounds]; exact HSZ.out, ?_⟩, HO.out.drew.setCell (by simp) _⟩
        intro a ha
        by_cases hak : a = k
        · subst hak
          refine ⟨i + 1, c, ⟨by omega, by omega, by rw [← HX.out]; omega, by rw [← HX.out, HCNT.out]; omega, by rw [← HX.out, ← HF.out]; omega⟩, ?_⟩
          rw [← hsv, Array.getElem?_setIfInBounds_self_of_lt (by rw [HSZ.out]; omega), ← HZ.out]; rfl
        · obtain ⟨l, c', h1, h2⟩ := HCS.out a (by omega)
          have hne := HND.out a k (by omega) (by rw [← HSL.out]; exact hks)
          rw [← hsv] at hne
          exact ⟨l, c', h1, by rw [Array.getElem?_setIfInBounds_ne (fun e => hne e.symm)]; exact h2⟩
    · obtain rfl : j = n := by omega
      have f1 : decide ((j : Int) < (j : Int)) = false := decide_eq_false (by omega)
      have HLL := Lib.hid hL; clear hL
      rw [HCE.out, hk]
      rw [hk] at HLL
      clear hvr hHr
      go_wp2
      exact HQ.out _ _ _ _ _ _ _ _ _ _ _ _ _ _ _ _ _ _ _ _ _ _ _ _ _ HLL.out HO.out
end
end Go.Proofs.YtdjilplpbaackaaDoor
