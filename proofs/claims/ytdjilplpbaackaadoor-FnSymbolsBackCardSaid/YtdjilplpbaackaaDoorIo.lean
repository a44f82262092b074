/-
  huffmanLUT.init, ZZCodes and impl.Codes. Conditions: the symbols lie in memory; the counts are sixteen bytes; the table is as the standard's side found it.
-/
import Derived.Test.YtdjilplpbaackaaDoorIn
import Derived.Test.YtdjilplpbaackaaDoorSd
import Derived.Laws.MakeOwn
import Derived.Test.YtdjilplpbaackaaDoorZs
namespace Go.Proofs.YtdjilplpbaackaaDoor
open Go.RowKit

theorem info40 : (Tryd.prog.info? 40).map (fun i => (i.zero, i.size, i.bytes)) = some (some (.int .u32 0), 1, 4) := by kernel_rfl

section
variable {H cap : Nat} {T : Tab} {sa : Option Addr} {ss : List UInt8} {G : Array Value} {w : World}
set_option maxRecDepth 100000 in
set_option maxHeartbeats 8000000 in
theorem init_ (hS : SrcAt [H] sa ss w) (hlen : ss.length ≤ 4000000000) (hH : ∃ c, w.heap[H]? = some (.cells #[c] 113 (0, 0))) (hG : G.size = 17) (hGc : ∀ i, i < 16 → G[i]? = some (.int .u8 (T.cnt (i + 1) : Int))) (hGs : G[16]? = some (.slice sa ss.length cap))
    (hc255 : ∀ i, i < 16 → T.cnt (i + 1) ≤ 255) (hK : T.Strict) (hidx : T.idx 17 = ss.length) (hnd : ∀ a b, a < b → b < ss.length → byteAt ss a ≠ byteAt ss b) :
    Calls Tryd.prog 24 #[.pointer (some ⟨H, 0, none⟩), .agg G] w fun e w' => e = .returned (.tuple #[]) ∧
      ∃ hb M, w.heap.size ≤ hb ∧ M ≤ 255 ∧ (∀ j, j < ss.length → byteAt ss j ≤ M) ∧ LutS hb M T ss ss.length w' ∧ w'.cell? ⟨H, 0, none⟩ = some (.slice (some ⟨hb, 0, none⟩) (M + 1) (M + 1)) ∧ Only [H] w w' := by
  have HS := Lib.hid hS; clear hS
  have HGC := Lib.hid hGc; clear hGc
  have HGS := Lib.hid hGs; clear hGs
  have HGZ := Lib.hid hG; clear hG
  have HC := Lib.hid hc255; clear hc255
  have HK := Lib.hid hK; clear hK
  have HID := Lib.hid hidx; clear hidx
  have HND := Lib.hid hnd; clear hnd
  have HH := Lib.hid hH; clear hH
  go_enter Tryd.func24, Tryd.ntmps24
  go_upto_region 2 with (fail)
  generalize hw1 : World.alloc _ _ = w1
  obtain ⟨g, hg⟩ : ∃ g, g = w.heap.size := ⟨_, rfl⟩
  have hB1 : w1.heap[g]? = some (.cells G 116 (0, 0)) := by rw [← hw1, hg]; exact heap_alloc_new w _
  have hO1 : Only [] w w1 := by rw [← hw1]; exact (Only.refl _ _).alloc _
  have hgw : w.heap.size ≤ g := by omega
  have hgs : g < w1.heap.size := by rw [← hw1, hg]; simp
  have hHlt : H < w.heap.size := by obtain ⟨c, hc⟩ := HH.out; exact Lib.lt_of_heap hc
  rw [← hg]
  clear hw1 hg
  have hsl1 : w1.cell? ⟨g, 16, none⟩ = some (.slice sa ss.length cap) := by rw [cell_of_row _ _ _ _ _ _ hB1]; exact HGS.out
  have hgc1 : ∀ i, i < 16 → w1.cell? ⟨g, i, none⟩ = some (.int .u8 (T.cnt (i + 1) : Int)) := fun i hi => by rw [cell_of_row _ _ _ _ _ _ hB1]; exact HGC.out i hi
  have HGC1 := Lib.hid hgc1; clear hgc1
  have HB1 := Lib.hid hB1; clear hB1
  have HO1 := Lib.hid hO1; clear hO1
  obtain ⟨sl, hsl⟩ : ∃ sl, sl = ss.length := ⟨_, rfl⟩
  rw [← hsl] at hlen hsl1
  have HSL := Lib.hid hsl; clear hsl
  have HSL1 := Lib.hid hsl1
  go_upto_block 0 with (fail)
  clear hsl1
  refine wp_block ?_
  go_loopw [4, 15] (fun v4 v15 wr => ∃ i m : Nat, i ≤ sl ∧ v4 = .int .i64 m ∧ v15 = .int .i64 i ∧ m ≤ 255 ∧ (∀ j, j < i → byteAt ss j ≤ m) ∧ Only [] w1 wr) (fun _ v15 _ => sl - (intOf v15).toNat)
  case atStart => exact ⟨0, 0, by omega, rfl, rfl, by omega, fun j hj => by omega, Only.refl _ _⟩
  case round =>
    obtain ⟨i, m, hi, rfl, rfl, hm, hjm, hO⟩ := hrel
    have HJM := Lib.hid hjm; clear hjm
    have HO := Lib.hid hO; clear hO
    by_cases hisl : i < sl
    · have f1 : decide ((i : Int) < (sl : Int)) = true := decide_eq_true (by omega)
      have hlt : i < ss.length := by rw [← HSL.out]; omega
      obtain ⟨u, hu⟩ : ∃ u, ss[i]? = some u := ⟨_, List.getElem?_eq_getElem hlt⟩
      obtain ⟨ad, rfl, hadn, hcu⟩ := HS.out i u hu
      have hcu' := ((HO1.out.trans HO.out).cell (World.block_lt_of_cell? _ _ hcu) (by simp)).trans hcu
      obtain ⟨s, hs⟩ : ∃ s, s = byteAt ss i := ⟨_, rfl⟩
      have hus : u.toNat = s := by rw [hs]; unfold byteAt; rw [List.getD_eq_getElem?_getD, hu]; rfl
      rw [hus] at hcu'
      have hs256 : s ≤ 255 := by have := byteAt_lt ss i; omega
      have g1 : (0 : Int) ≤ (i : Int) := by omega
      have g2 : (i : Int).toNat = i := by omega
      have g3 : (i : Int) < (sl : Int) := by omega
      have HSV := Lib.hid hs; clear hs hus hcu hadn hu hlt
      by_cases hsm : m < s
      · have f2 : decide ((m : Int) < (s : Int)) = true := decide_eq_true (by omega)
        have f3 : decide (m < s) = true := decide_eq_true hsm
        go_wp2
        refine ⟨⟨i + 1, s, by omega, rfl, rfl, by omega, fun j hj => ?_, HO.out⟩, by simp [intOf]; omega⟩
        by_cases hji : j = i
        · subst hji; rw [← HSV.out]; exact Nat.le_refl _
        · have := HJM.out j (by omega); omega
      · have f2 : decide ((m : Int) < (s : Int)) = false := decide_eq_false (by omega)
        have f3 : decide (m < s) = false := decide_eq_false hsm
        go_wp2
        refine ⟨⟨i + 1, m, by omega, rfl, rfl, by omega, fun j hj => ?_, HO.out⟩, by simp [intOf]; omega⟩
        by_cases hji : j = i
        · subst hji; rw [← HSV.out]; omega
        · exact HJM.out j (by omega)
    · have f1 : decide ((i : Int) < (sl : Int)) = false := decide_eq_false (by omega)
      have hie : i = sl := by omega
      have hM : ∀ j, j < ss.length → byteAt ss j ≤ m := fun j hj => HJM.out j (by rw [hie, HSL.out]; exact hj)
      have HM := Lib.hid hM; clear hM
      obtain ⟨c0, hHr⟩ := HH.out
      have hHr' : wr.heap[H]? = some (.cells #[c0] 113 (0, 0)) := by rw [(HO1.out.trans HO.out).block H (by omega) (by simp)]; exact hHr
      have hHl : H < wr.heap.size := Lib.lt_of_heap hHr'
      have hHa : ∀ o, (wr.alloc o).heap[H]? = some (.cells #[c0] 113 (0, 0)) := fun o => by rw [heap_alloc_old _ _ hHl]; exact hHr'
      have hHc : ∀ o, (wr.alloc o).cell? ⟨H, 0, none⟩ = some c0 := fun o => by rw [cell_of_row _ _ _ _ _ _ (hHa o)]; rfl
      have hHf : ∀ o, (wr.alloc o).frozen? ⟨H, 0, none⟩ = false := fun o => frozen_of_row _ _ 0 _ _ (hHa o)
      have HHA := Lib.hid hHa; clear hHa
      have hmk : ∀ w : World, (Instr.makeSlice 38 (.int .i64 ((m : Int) + 1)) (.int .i64 ((m : Int) + 1))).run Tryd.prog w = .ok (.slice (some ⟨w.heap.size, 0, none⟩) (m + 1) (m + 1)) (w.alloc (.cells (madeCells (Value.int .u32 0).cells (m + 1)) 40)) := by
        intro w
        obtain ⟨i0, hi0, hz0, hz1, hz2⟩ := info_parts info40
        rw [run_make w 38 40 i0 (.int .u32 0) Tryd.underlying38 hi0 hz0 .i64 .i64 ((m : Int) + 1) ((m : Int) + 1) (by omega) (by omega) (by rw [hz2]; omega) (by omega), hz1]
        rw [show ((m : Int) + 1).toNat = m + 1 from by omega, Nat.mul_one]
      clear hHr hHr'
      go_upto_block 2 with (fail)
      generalize hw2 : World.alloc _ _ = w2
      obtain ⟨hb, hhb⟩ : ∃ hb, hb = wr.heap.size := ⟨_, rfl⟩
      rw [← hhb]
      have hszs : ∀ v, (wr.setCell ⟨H, 0, none⟩ v).heap.size = wr.heap.size := fun v => by simp [World.setCell]
      have hrow2 : w2.heap[hb]? = some (.cells (madeCells #[.int .u32 0] (m + 1)) 40 (0, 0)) := by
        have e := heap_alloc_new (wr.setCell ⟨H, 0, none⟩ (.slice (some ⟨hb, 0, none⟩) (m + 1) (m + 1))) (.cells (madeCells #[.int .u32 0] (m + 1)) 40)
        rw [hszs, ← hhb] at e
        rw [← hw2, ← hhb]; exact e
      have hL2 : LutS hb m T ss 0 w2 := ⟨_, hrow2, size_madeCells _ _, fun j hj => by omega⟩
      have hhb2 : hb < w2.heap.size := Lib.lt_of_heap hrow2
      clear hrow2
      have hH2 : w2.cell? ⟨H, 0, none⟩ = some (.slice (some ⟨hb, 0, none⟩) (m + 1) (m + 1)) := by
        have hr : wr.heap[H]? = some (.cells #[c0] 113 (0, 0)) := by rw [← heap_alloc_old (w := wr) (o := .cells #[] 0) hHl]; exact HHA.out _
        rw [← hw2, hhb, World.cell?_alloc_past _ _ _ (by rw [hszs]; exact hHl)]
        exact World.cell?_setCell_same' _ _ _ (by rw [cell_of_row _ _ _ _ _ _ hr]; rfl)
      have hO2 : Only [H] wr w2 := by rw [← hw2]; exact ((Only.refl _ _).setCell (by simp) _).alloc _
      have hO02 : Only [H] w w2 := ((HO1.out.trans HO.out).mono (S' := [H]) (fun x hx _ => by simp at hx)).trans hO2
      have hgH : g ≠ H := by omega
      have hhbw : w.heap.size ≤ hb := by have := (HO1.out.trans HO.out).size; omega
      have hhbg : g < hb := by have := HO.out.size; omega
      have hcell12 : ∀ (a : Addr) x, w1.cell? a = some x → a.block ≠ H → w2.cell? a = some x := fun a x h hne => (hO2.cell (by have := World.block_lt_of_cell? _ _ h; have := HO.out.size; omega) (by simpa using hne)).trans ((HO.out.cell (World.block_lt_of_cell? _ _ h) (by simp)).trans h)
      have hgc2 : ∀ i, i < 16 → w2.cell? ⟨g, i, none⟩ = some (.int .u8 (T.cnt (i + 1) : Int)) := fun i hi => hcell12 _ _ (HGC1.out i hi) hgH
      have hsl2 : w2.cell? ⟨g, 16, none⟩ = some (.slice sa sl cap) := hcell12 _ _ HSL1.out hgH
      clear hw2 hhb hcell12 hHc hHf hmk hHl
      have HL2 := Lib.hid hL2; clear hL2
      have HH2 := Lib.hid hH2; clear hH2
      have HGC2 := Lib.hid hgc2; clear hgc2
      have HSL2 := Lib.hid hsl2; clear hsl2
      have HO02 := Lib.hid hO02; clear hO02 hO2
      refine wp_block ?_
      go_loopw [7, 8, 9] (fun v7 v8 v9 wx => ∃ i : Nat, i ≤ 16 ∧ v7 = .int .u32 ((T.fst (i + 1) : Nat) : Int) ∧ v8 = .int .i64 ((T.idx (i + 1) : Nat) : Int) ∧ v9 = .int .i64 i ∧ LutS hb m T ss (T.idx (i + 1)) wx ∧ Only [hb] w2 wx) (fun _ _ v9 _ => 16 - (intOf v9).toNat)
      case atStart => exact ⟨0, by omega, rfl, rfl, rfl, HL2.out, Only.refl _ _⟩
      case round =>
        obtain ⟨i, hi, rfl, rfl, rfl, hL, hOx⟩ := hrel
        by_cases hi16 : i < 16
        · obtain ⟨n, hn⟩ : ∃ n, n = T.cnt (i + 1) := ⟨_, rfl⟩
          obtain ⟨F, hF⟩ : ∃ F, F = T.fst (i + 1) := ⟨_, rfl⟩
          obtain ⟨X, hX⟩ : ∃ X, X = T.idx (i + 1) := ⟨_, rfl⟩
          have hn255 : n ≤ 255 := by rw [hn]; exact HC.out i hi16
          have hXn : X + n ≤ ss.length := by
            have := T.idx_mono (show i + 2 ≤ 17 by omega)
            rw [T.idx_succ (i + 1) (by omega), HID.out] at this
            omega
          have hFn2 := HK.out (i + 1) (by omega) (by omega)
          have hp : 2 ^ (i + 1) ≤ 65536 := by have := Nat.pow_le_pow_right (show 0 < 2 by decide) (show i + 1 ≤ 16 by omega); simpa using this
          have hFn : F + n + 1 ≤ 65536 := by omega
          clear hFn2 hp
          have hcn := HGC2.out i hi16
          rw [← hn] at hcn
          have hcn' := (hOx.cell (World.block_lt_of_cell? _ _ hcn) (by simp; omega)).trans hcn
          have hsl' := (hOx.cell (World.block_lt_of_cell? _ _ HSL2.out) (by simp; omega)).trans HSL2.out
          have hH' := (hOx.cell (World.block_lt_of_cell? _ _ HH2.out) (by simp; omega)).trans HH2.out
          have hSx : SrcAt [hb] sa ss wr := by
            intro k u hu
            obtain ⟨ad, h1, h2, h3⟩ := HS.out k u hu
            have hlt := World.block_lt_of_cell? _ _ h3
            have hbl : (ad.add k).block ≠ H := by rw [Addr.block_add]; simpa using h2
            have e2 := (HO02.out.cell hlt (by simpa using hbl)).trans h3
            refine ⟨ad, h1, ?_, (hOx.cell (World.block_lt_of_cell? _ _ e2) (by simp; omega)).trans e2⟩
            rw [Addr.block_add] at hlt
            simp; omega
          rw [← hF, ← hX]
          rw [← hX] at hL
          have HF := Lib.hid hF
          have HX := Lib.hid hX
          have HN := Lib.hid hn
          have HSX := Lib.hid hSx
          have HL := Lib.hid hL
          have HOX := Lib.hid hOx
          have HCN := Lib.hid hcn'
          have HSLX := Lib.hid hsl'
          have HHX := Lib.hid hH'
          clear hF hX hn hSx hL hOx hcn hcn' hsl' hH'
          have f1 : decide ((i : Int) < 16) = true := decide_eq_true (by omega)
          obtain ⟨Z, hZ⟩ : ∃ Z, Z = (i + 1) * 16777216 := ⟨_, rfl⟩
          have hz : ((i : Int) + 1) * 16777216 = (Z : Int) := by omega
          have HZ := Lib.hid hZ; clear hZ
          go_upto_block 4 with (fail)
          clear hz
          rw [HSL.out]
          refine inLoop (H := H) (Bx := g) (hb := hb) (M := m) (F := F) (X := X) (Z := Z) (i := i) (n := n) (T := T) HSX.out (by rw [← HSL.out]; exact hlen) HL.out HHX.out HCN.out (by rw [← HSL.out]; exact HSLX.out) (by omega) (by omega) hi16 hn255 HZ.out HF.out HX.out HN.out.symm hXn (by omega) HM.out HND.out _ ?_
          intro z39 z40 z41 z42 z43 z44 z45 z46 z47 z48 z49 z50 z51 z52 z53 z54 z55 z56 z57 z58 z59 z60 z61 z62 w' hL' hO'
          rw [← HSL.out]
          have HL' := Lib.hid hL'; clear hL'
          have HO' := Lib.hid (HOX.out.trans hO'); clear hO'
          obtain ⟨F', hF'⟩ : ∃ F', F' = F + n := ⟨_, rfl⟩
          obtain ⟨X', hX'⟩ : ∃ X', X' = X + n := ⟨_, rfl⟩
          rw [← hF', ← hX']
          have hF65 : F' ≤ 65536 := by omega
          have HX' := Lib.hid hX'; clear hX'
          have HF' := Lib.hid hF'; clear hF'
          clear f1
          go_wp2
          have e1 : T.fst (i + 1 + 1) = 2 * F' := by rw [T.fst_succ _ (by omega), ← HN.out, ← HF.out, HF'.out]
          have e2 : T.idx (i + 1 + 1) = X' := by rw [T.idx_succ _ (by omega), ← HN.out, ← HX.out, HX'.out]
          go_roundw
          case measure => simp [intOf]; omega
          case rel => exact ⟨i + 1, by omega, congrArg _ (by rw [e1]; omega), by rw [e2], rfl, by rw [e2, HX'.out]; exact HL'.out, HO'.out⟩
        · obtain rfl : i = 16 := by omega
          have f1 : decide (((16 : Nat) : Int) < 16) = false := by decide
          rw [show 16 + 1 = 17 from rfl, HID.out] at hL
          have hH' := (hOx.cell (World.block_lt_of_cell? _ _ HH2.out) (by simp; omega)).trans HH2.out
          have hfin : Only [H] w wr := HO02.out.andThen hOx (by simp; omega)
          have HFIN := Lib.hid (And.intro hL (And.intro hH' hfin))
          clear hL hH' hfin hOx
          go_wp2
          go_end0
          exact ⟨rfl, hb, m, hhbw, hm, HM.out, HFIN.out.1, HFIN.out.2.1, HFIN.out.2.2⟩
end
end Go.Proofs.YtdjilplpbaackaaDoor
