/-
  processDHT's loop over the least and greatest codes. Conditions: the decoder's block; the array of the numbers of codes; the table's codes fit their lengths.
-/
import Derived.Test.YtdjilplpbaackaaDoorLc
namespace Go.Proofs.YtdjilplpbaackaaDoor
open Go.RowKit

theorem index_agg (A : Array Value) (i : Nat) (v : Value) (hi : i < 16) (h : A[i]? = some v) (w : World) : (Instr.index 90 (.agg A) (.int .i64 i)).run Tryd.prog w = .ok v w := by
  simp [Instr.index, asIntOf, Tryd.runUnderlying90, Tryd.sizeOf21, part, Tryd.isAgg21, h]
  omega

/-- The least and greatest codes of the first n lengths, and their places. -/
structure MinMax (g0 g1 : Nat → Value) (ho : Nat) (T : Tab) (n : Nat) : Prop where
  maxC : ∀ i, i < n → g1 (ho + 529 + i) = .int .i32 (if T.cnt (i + 1) = 0 then -1 else T.fst (i + 1) + T.cnt (i + 1) - 1)
  minC : ∀ i, i < n → T.cnt (i + 1) ≠ 0 → g1 (ho + 513 + i) = .int .i32 (T.fst (i + 1))
  valI : ∀ i, i < n → T.cnt (i + 1) ≠ 0 → g1 (ho + 545 + i) = .int .i32 (T.idx (i + 1))
  rest : ∀ k, ¬ (ho + 513 ≤ k ∧ k < ho + 561) → g1 k = g0 k

theorem MinMax.step {g0 g1 g2 : Nat → Value} {ho : Nat} {T : Tab} {n : Nat} (h : MinMax g0 g1 ho T n) (hn : n < 16)
    (h1 : g2 (ho + 529 + n) = .int .i32 (if T.cnt (n + 1) = 0 then -1 else T.fst (n + 1) + T.cnt (n + 1) - 1))
    (h2 : T.cnt (n + 1) ≠ 0 → g2 (ho + 513 + n) = .int .i32 (T.fst (n + 1))) (h3 : T.cnt (n + 1) ≠ 0 → g2 (ho + 545 + n) = .int .i32 (T.idx (n + 1)))
    (h4 : ∀ k, k ≠ ho + 513 + n → k ≠ ho + 529 + n → k ≠ ho + 545 + n → g2 k = g1 k) : MinMax g0 g2 ho T (n + 1) := by
  refine ⟨fun i hi => ?_, fun i hi hc => ?_, fun i hi hc => ?_, fun k hk => ?_⟩
  · by_cases e : i = n
    · subst e; exact h1
    · rw [h4 _ (by omega) (by omega) (by omega)]; exact h.maxC i (by omega)
  · by_cases e : i = n
    · subst e; exact h2 hc
    · rw [h4 _ (by omega) (by omega) (by omega)]; exact h.minC i (by omega) hc
  · by_cases e : i = n
    · subst e; exact h3 hc
    · rw [h4 _ (by omega) (by omega) (by omega)]; exact h.valI i (by omega) hc
  · rw [h4 _ (by omega) (by omega) (by omega)]; exact h.rest k hk

section
variable {b ho : Nat} {s : DS} {w : World} {T : Tab} {g0 : Nat → Value} {A : Array Value}
set_option maxRecDepth 100000 in
set_option maxHeartbeats 8000000 in
theorem mBlock {x0 x1 x2 x3 x4 x5 x6 x7 x9 x10 x11 x12 x13 x14 x15 x16 x17 x18 x21 x22 x23 x24 x25 x26 x27 x28 x29 x30 x31 x32 x33 x34 x35 x36 x37 x38 x39 x40 x41 x42 x43 x44 x45 x46 x47 x48 x49 x50 x51 x52 x53 x54 x55 x56 x57 x58 x59 x60 x61 x62 x63 x64 x65 x66 x67 x68 x69 x70 x71 x72 x73 x74 x75 x76 x77 x78 x79 x80 x81 x82 x83 x84 x85 x86 x87 x88 x89 x90 x91 x92 x93 x94 x95 x96 x97 x98 x99 x100 x101 x102 x103 x104 x105 x106 x107 x108 x109 x110 x111 x112 x113 x114 x115 x116 x117 x118 x119 x120 x121 x122 x123 x124 x125 x126 x127 x128 x129 x130 x131 x132 x133 x134 x135 x136 x137 x138 x139 x140 x141 x142 x143 x144 x145 x146 x147 x148 x149 x150 x151 x152 x153 x154 x155 x156 x157 x158 x159 x160 x161 x162 x163 x164 x165 x166 x167 x168 x169 x170 x171 x172 x173 x174 x175 x176 x177 x178 x179 x180 x181 x182 x183 x184 x185 x186 x187 x190 x191 x192 x193 x194 x195 x196 x197 x198 x199 x200 x201 x202 x203 x204 x205 x206 x207 x208 x209 x210 x211 x212 x213 x214 x215 x216 x217 x218 x219 x220 x221 x222 x223 x224 x225 x226 x227 x228 x229 x230 x231 x232 x233 x234 x235 x236 x237 x238 x239 : Value} (h : DecS b { s with g := g0 } w) (hlo : 4148 ≤ ho) (hhi : ho + 561 ≤ 8636)
    (hA : ∀ i, i < 16 → A[i]? = some (.int .i32 (T.cnt (i + 1)))) (hc255 : ∀ i, i < 16 → T.cnt (i + 1) ≤ 255) (hkr : ∀ i, i < 16 → T.fst (i + 1) + T.cnt (i + 1) ≤ 2 ^ (i + 1)) (hsum : ∀ i, i ≤ 16 → T.idx (i + 1) ≤ 5000) (Q : Exit → Act → World → Prop)
    (hQ : ∀ (u19 u20 u21 u22 u189 u190 u191 u192 u193 u194 u195 u196 u197 u198 u199 u200 u201 u202 u203 u204 u205 u206 u207 u208 u209 u210 u211 u212 u213 u214 u215 u216 u217 u218 u219 u220 u221 u222 u223 u224 u225 u226 u227 u228 u229 u230 u231 u232 u233 u234 u235 u236 u237 u238 u239 : Value) (w' : World) (g1 : Nat → Value), DecS b { s with g := g1 } w' → MinMax g0 g1 ho T 16 → Only [b] w w' → Q .normal { tmps := #[x0, x1, x2, x3, x4, x5, x6, x7, .pointer (some ⟨b, ho, none⟩), x9, x10, x11, x12, x13, x14, x15, x16, x17, x18, u19, u20, u21, u22, x23, x24, x25, x26, x27, x28, x29, x30, x31, x32, x33, x34, x35, x36, x37, x38, x39, x40, x41, x42, x43, x44, x45, x46, x47, x48, x49, x50, x51, x52, x53, x54, x55, x56, x57, x58, x59, x60, x61, x62, x63, x64, x65, x66, x67, x68, x69, x70, x71, x72, x73, x74, x75, x76, x77, x78, x79, x80, x81, x82, x83, x84, x85, x86, x87, x88, x89, x90, x91, x92, x93, x94, x95, x96, x97, x98, x99, x100, x101, x102, x103, x104, x105, x106, x107, x108, x109, x110, x111, x112, x113, x114, x115, x116, x117, x118, x119, x120, x121, x122, x123, x124, x125, x126, x127, x128, x129, x130, x131, x132, x133, x134, x135, x136, x137, x138, x139, x140, x141, x142, x143, x144, x145, x146, x147, x148, x149, x150, x151, x152, x153, x154, x155, x156, x157, x158, x159, x160, x161, x162, x163, x164, x165, x166, x167, x168, x169, x170, x171, x172, x173, x174, x175, x176, x177, x178, x179, x180, x181, x182, x183, x184, x185, x186, x187, .agg A, u189, u190, u191, u192, u193, u194, u195, u196, u197, u198, u199, u200, u201, u202, u203, u204, u205, u206, u207, u208, u209, u210, u211, u212, u213, u214, u215, u216, u217, u218, u219, u220, u221, u222, u223, u224, u225, u226, u227, u228, u229, u230, u231, u232, u233, u234, u235, u236, u237, u238, u239], defers := [] } w') :
    (dhtBlock 10).wp Tryd.prog Q { tmps := #[x0, x1, x2, x3, x4, x5, x6, x7, .pointer (some ⟨b, ho, none⟩), x9, x10, x11, x12, x13, x14, x15, x16, x17, x18, .int .i32 0, .int .i32 0, x21, x22, x23, x24, x25, x26, x27, x28, x29, x30, x31, x32, x33, x34, x35, x36, x37, x38, x39, x40, x41, x42, x43, x44, x45, x46, x47, x48, x49, x50, x51, x52, x53, x54, x55, x56, x57, x58, x59, x60, x61, x62, x63, x64, x65, x66, x67, x68, x69, x70, x71, x72, x73, x74, x75, x76, x77, x78, x79, x80, x81, x82, x83, x84, x85, x86, x87, x88, x89, x90, x91, x92, x93, x94, x95, x96, x97, x98, x99, x100, x101, x102, x103, x104, x105, x106, x107, x108, x109, x110, x111, x112, x113, x114, x115, x116, x117, x118, x119, x120, x121, x122, x123, x124, x125, x126, x127, x128, x129, x130, x131, x132, x133, x134, x135, x136, x137, x138, x139, x140, x141, x142, x143, x144, x145, x146, x147, x148, x149, x150, x151, x152, x153, x154, x155, x156, x157, x158, x159, x160, x161, x162, x163, x164, x165, x166, x167, x168, x169, x170, x171, x172, x173, x174, x175, x176, x177, x178, x179, x180, x181, x182, x183, x184, x185, x186, x187, .agg A, .int .i64 0, x190, x191, x192, x193, x194, x195, x196, x197, x198, x199, x200, x201, x202, x203, x204, x205, x206, x207, x208, x209, x210, x211, x212, x213, x214, x215, x216, x217, x218, x219, x220, x221, x222, x223, x224, x225, x226, x227, x228, x229, x230, x231, x232, x233, x234, x235, x236, x237, x238, x239], defers := [] } w := by
  conv => arg 2; whnf
  dsimp only
  have HQ := Lib.hid hQ; clear hQ
  have H := Lib.hid h; clear h
  have HA := Lib.hid hA; clear hA
  have HC := Lib.hid hc255; clear hc255
  have HK := Lib.hid hkr; clear hkr
  have HS := Lib.hid hsum; clear hsum
  refine wp_block ?_
  go_loopw [19, 20, 189] (fun vc vx vi wr => ∃ (i : Nat) (g1 : Nat → Value), i ≤ 16 ∧ vi = .int .i64 i ∧ vc = .int .i32 (T.fst (i + 1)) ∧ vx = .int .i32 (T.idx (i + 1)) ∧ DecS b { s with g := g1 } wr ∧ MinMax g0 g1 ho T i ∧ Only [b] w wr) (fun _ _ vi _ => 16 - (intOf vi).toNat)
  case atStart => exact ⟨0, g0, by omega, rfl, rfl, rfl, H.out, ⟨fun i hi => by omega, fun i hi => by omega, fun i hi => by omega, fun _ _ => rfl⟩, Only.refl _ _⟩
  case round =>
    obtain ⟨i, g1, hi, rfl, rfl, rfl, hD, hM, hO⟩ := hrel
    by_cases hlt : i < 16
    · have hkr := HK.out i hlt
      have hp16 : 2 ^ (i + 1) ≤ 2 ^ 16 := Nat.pow_le_pow_right (by omega) (by omega)
      have hc255 := HC.out i hlt
      have hi5 := HS.out i (by omega)
      have hidx := index_agg A i _ hlt (HA.out i hlt)
      obtain ⟨C, hC⟩ : ∃ C, C = T.cnt (i + 1) := ⟨_, rfl⟩
      obtain ⟨F, hF⟩ : ∃ F, F = T.fst (i + 1) := ⟨_, rfl⟩
      obtain ⟨I, hI⟩ : ∃ I, I = T.idx (i + 1) := ⟨_, rfl⟩
      rw [← hC] at hkr hc255 hidx
      rw [← hF] at hkr
      rw [← hI] at hi5
      rw [← hF, ← hI]
      have hfn : T.fst (i + 1 + 1) = 2 * (F + C) := by rw [T.fst_succ (i + 1) (by omega), hF, hC]
      have hin : T.idx (i + 1 + 1) = I + C := by rw [T.idx_succ (i + 1) (by omega), hI, hC]
      have HCC := Lib.hid hC; clear hC
      have HF := Lib.hid hF; clear hF
      have HI := Lib.hid hI; clear hI
      have HFN := Lib.hid hfn; clear hfn
      have HIN := Lib.hid hin; clear hin
      have HO := Lib.hid hO; clear hO
      have HM := Lib.hid hM; clear hM
      have h513 := hD.cG (ho + 513 + i) (by omega) (by omega)
      have h529 := hD.cG (ho + 529 + i) (by omega) (by omega)
      have h545 := hD.cG (ho + 545 + i) (by omega) (by omega)
      have f513 := hD.frozen (ho + 513 + i)
      have f529 := hD.frozen (ho + 529 + i)
      have f545 := hD.frozen (ho + 545 + i)
      have HD := Lib.hid hD; clear hD
      by_cases hz : C = 0
      · have hz0 : ((C : Int) == 0) = true := by rw [hz]; rfl
        have HZ := Lib.hid hz; clear hz
        go_wp2
        go_roundw
        case rel =>
          refine ⟨i + 1, _, by omega, by go_num, by rw [HFN.out, HZ.out]; (congr 1; omega), by rw [HIN.out, HZ.out]; rfl, ((HD.out.setG (by omega)).setG (by omega)).setG (by omega), HM.out.step hlt ?_ ?_ ?_ ?_, by repeat (first | exact HO.out | refine Only.drewN ?_ _ | refine Only.setCell ?_ (by simp) _)⟩
          · show (if ho + 529 + i = ho + 545 + i then _ else if ho + 529 + i = ho + 529 + i then _ else _) = _
            rw [if_neg (by omega), if_pos rfl, if_pos (by rw [← HCC.out]; exact HZ.out)]
          · intro hc; exact absurd (HCC.out.symm.trans HZ.out) hc
          · intro hc; exact absurd (HCC.out.symm.trans HZ.out) hc
          · intro k h1 h2 h3
            show (if k = ho + 545 + i then _ else if k = ho + 529 + i then _ else if k = ho + 513 + i then _ else _) = _
            rw [if_neg h3, if_neg h2, if_neg h1]
        case measure => simp [intOf]; omega
      · have hz0 : ((C : Int) == 0) = false := by simp only [beq_eq_false_iff_ne]; omega
        have HZ := Lib.hid hz; clear hz
        go_wp2
        go_roundw
        case rel =>
          refine ⟨i + 1, _, by omega, by go_num, by rw [HFN.out]; (congr 1; omega), by rw [HIN.out]; rfl, ((HD.out.setG (by omega)).setG (by omega)).setG (by omega), HM.out.step hlt ?_ ?_ ?_ ?_, by repeat (first | exact HO.out | refine Only.drewN ?_ _ | refine Only.setCell ?_ (by simp) _)⟩
          · show (if ho + 529 + i = ho + 545 + i then _ else if ho + 529 + i = ho + 529 + i then _ else _) = _
            rw [if_neg (by omega), if_pos rfl, if_neg (by rw [← HCC.out]; exact HZ.out), ← HF.out, ← HCC.out]
          · intro _
            show (if ho + 513 + i = ho + 545 + i then _ else if ho + 513 + i = ho + 529 + i then _ else if ho + 513 + i = ho + 513 + i then _ else _) = _
            rw [if_neg (by omega), if_neg (by omega), if_pos rfl, ← HF.out]
          · intro _
            show (if ho + 545 + i = ho + 545 + i then _ else _) = _
            rw [if_pos rfl, ← HI.out]
          · intro k h1 h2 h3
            show (if k = ho + 545 + i then _ else if k = ho + 529 + i then _ else if k = ho + 513 + i then _ else _) = _
            rw [if_neg h3, if_neg h2, if_neg h1]
        case measure => simp [intOf]; omega
    · obtain rfl : i = 16 := by omega
      have HD := Lib.hid hD; clear hD
      go_wp2
      exact HQ.out _ _ _ _ _ _ _ _ _ _ _ _ _ _ _ _ _ _ _ _ _ _ _ _ _ _ _ _ _ _ _ _ _ _ _ _ _ _ _ _ _ _ _ _ _ _ _ _ _ _ _ _ _ _ _ _ g1 HD.out hM hO
end
end Go.Proofs.YtdjilplpbaackaaDoor
