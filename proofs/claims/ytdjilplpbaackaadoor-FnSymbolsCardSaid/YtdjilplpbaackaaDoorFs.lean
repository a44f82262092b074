/-
  laws.FnSymbols answers true. Conditions: the two slices' cells lie in memory; the three cells of the library's variables.
-/
import Derived.Test.YtdjilplpbaackaaDoorRe
import Derived.Test.YtdjilplpbaackaaDoorSs
namespace Go.Proofs.YtdjilplpbaackaaDoor
open Go.RowKit

section
variable {ta ca : Option Addr} {tsrc csrc : List UInt8} {tcap ccap : Nat} {e1 e2 : Addr} {w : World}

set_option maxRecDepth 100000 in
set_option maxHeartbeats 4000000 in
theorem fn_symbols (hg : w.cell? ⟨0, 0, none⟩ = some (.iface 158 (.agg #[.pointer (some ⟨4, 65, none⟩)])))
    (h1 : w.cell? ⟨1, 0, none⟩ = some (.iface 175 (.pointer (some e1)))) (h2 : w.cell? ⟨2, 0, none⟩ = some (.iface 175 (.pointer (some e2))))
    (ht : SrcAt [] ta tsrc w) (hc : SrcAt [] ca csrc w) (htc : tsrc.length ≤ tcap) (hcc : csrc.length ≤ ccap) (cl nu n : Int) :
    Calls Tryd.prog 3 #[.slice ta tsrc.length tcap, .int .i64 cl, .int .i64 nu, .slice ca csrc.length ccap, .int .i64 n] w fun e w' => e = .returned (.bool true) ∧ Only [] w w' := by
  have HG := Lib.hid hg; clear hg
  have H1 := Lib.hid h1; clear h1
  have H2 := Lib.hid h2; clear h2
  have HT := Lib.hid ht; clear ht
  have HC := Lib.hid hc; clear hc
  have HTC := Lib.hid htc; clear htc
  have HCC := Lib.hid hcc; clear hcc
  obtain ⟨L1, hL1⟩ : ∃ L, L = tsrc.length := ⟨_, rfl⟩
  obtain ⟨L2, hL2⟩ : ∃ L, L = csrc.length := ⟨_, rfl⟩
  rw [← hL1, ← hL2]
  have HL1 := Lib.hid hL1; clear hL1
  have HL2 := Lib.hid hL2; clear hL2
  by_cases hA : (2147483647 : Int) < (L1 : Int)
  · have hA' : decide ((2147483647 : Int) < (L1 : Int)) = true := decide_eq_true hA
    go_enter Tryd.func3, Tryd.ntmps3
    go_wp2
    go_ret
    exact ⟨rfl, Only.refl _ _⟩
  have hA' : decide ((2147483647 : Int) < (L1 : Int)) = false := decide_eq_false hA
  by_cases hB : (2147483647 : Int) < (L2 : Int)
  · have hB' : decide ((2147483647 : Int) < (L2 : Int)) = true := decide_eq_true hB
    go_enter Tryd.func3, Tryd.ntmps3
    go_wp2
    go_ret
    exact ⟨rfl, Only.refl _ _⟩
  have hB' : decide ((2147483647 : Int) < (L2 : Int)) = false := decide_eq_false hB
  by_cases hC : n < 1
  · have hC' : decide (n < 1) = true := decide_eq_true hC
    go_enter Tryd.func3, Tryd.ntmps3
    go_wp2
    go_ret
    exact ⟨rfl, Only.refl _ _⟩
  have hC' : decide (n < 1) = false := decide_eq_false hC
  by_cases hD : 65536 < n
  · have hD' : decide (65536 < n) = true := decide_eq_true hD
    go_enter Tryd.func3, Tryd.ntmps3
    go_wp2
    go_ret
    exact ⟨rfl, Only.refl _ _⟩
  have hD' : decide (65536 < n) = false := decide_eq_false hD
  obtain ⟨N, rfl⟩ : ∃ N : Nat, n = N := ⟨n.toNat, by omega⟩
  have hl1 : tsrc.length ≤ 4000000000 := by have := HL1.out; omega
  have hl2 : csrc.length ≤ 4000000000 := by have := HL2.out; omega
  have hN : N ≤ 65536 := by omega
  go_enter Tryd.func3, Tryd.ntmps3
  go_wp2_with (fail)
  have hss := spec_symbols HT.out HC.out HTC.out hl1 hl2 cl nu N hN (ccap := ccap)
  rw [← HL1.out, ← HL2.out] at hss
  refine hss.mono ?_
  rintro e w1 ⟨v, whole, valid, rfl, hO, hv⟩
  cases valid with
  | false =>
    clear hv
    go_wp2
    go_ret
    exact ⟨rfl, hO⟩
  | true =>
    obtain ⟨m, c, k, q, rfl, rfl, hc1, hk3, hseg, hm, rfl, hown⟩ := hv rfl
    clear hv
    have hcell : ∀ a x, w.cell? a = some x → w1.cell? a = some x := fun a x h => (hO.cell (World.block_lt_of_cell? _ _ h) (by simp)).trans h
    have his := impl_symbols (ca := ca) (csrc := csrc) (hcell _ _ HG.out) (HT.out.only hO (by simp)) (HC.out.only hO (by simp)) HTC.out HCC.out hl1 hl2 (hcell _ _ H1.out) (hcell _ _ H2.out) hseg c k N q hc1 hk3 hm hN
    have hg' := hcell _ _ HG.out
    have h1' := hcell _ _ H1.out
    have h2' := hcell _ _ H2.out
    rw [← HL1.out, ← HL2.out] at his
    have HIS := Lib.hid his; clear his
    have HO := Lib.hid hO; clear hO
    have HOW := Lib.hid hown; clear hown
    have HG' := Lib.hid hg'; clear hg'
    have H1' := Lib.hid h1'; clear h1'
    have H2' := Lib.hid h2'; clear h2'
    clear hcell hseg hm
    generalize hr : decAll (tabAt tsrc q) N (bitsFrom csrc 0) = r at *
    have HR := Lib.hid hr; clear hr
    have HSS := Lib.hid hss; clear hss
    go_wp2_with (fail)
    refine HIS.out.mono ?_
    rintro e w2 ⟨v2, rfl, hown2, hO2⟩
    have hcv2 := conv_own hown2
    have hcv1 := conv_own (own_only HOW.out hO2 (by simp))
    have hO02 := HO.out.trans hO2
    have hcell : ∀ a x, w1.cell? a = some x → w2.cell? a = some x := fun a x h => (hO2.cell (World.block_lt_of_cell? _ _ h) (by simp)).trans h
    have hre := reads_true (hcell _ _ HG'.out) (hcell _ _ H1'.out) (hcell _ _ H2'.out)
    have HRE := Lib.hid hre; clear hre
    have HO02 := Lib.hid hO02
    clear hO02 hO2 hcell hown2
    obtain ⟨l, wh⟩ := r
    cases wh
    · go_wp2_with (fail)
      refine HRE.out.mono ?_
      rintro e w3 ⟨rfl, hO3⟩
      go_wp2
      go_ret
      exact ⟨rfl, HO02.out.trans hO3⟩
    · go_wp2_with (fail)
      refine HRE.out.mono ?_
      rintro e w3 ⟨rfl, hO3⟩
      go_wp2
      go_ret
      exact ⟨rfl, HO02.out.trans hO3⟩
end
end Go.Proofs.YtdjilplpbaackaaDoor
