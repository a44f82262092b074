/-
  processDHT's loop over the codes of one length. Conditions: the decoder's block; the array of the numbers of codes; the table's codes fit their lengths.
-/
import Derived.Test.YtdjilplpbaackaaDoorLk
import Derived.Deep.CutBlock
namespace Go.Proofs.YtdjilplpbaackaaDoor
open Go.RowKit

/-- The look-up table filled up to place P. -/
def lutG (g : Nat → Value) (ho : Nat) (T : Tab) (P : Nat) : Nat → Value :=
  fun k => if ho + 1 ≤ k ∧ k < ho + 257 then (if k - (ho + 1) < P then .int .u16 (T.lut (k - (ho + 1))) else .int .u16 0) else g k

theorem Tab.fst_le (T : Tab) (k l : Nat) (h0 : 0 < k) (h : k < l) (h8 : l ≤ 8) : (T.fst k + T.cnt k) * 2 ^ (8 - k) ≤ T.fst l * 2 ^ (8 - l) := by
  induction l with
  | zero => omega
  | succ l ih =>
    have e : T.fst (l + 1) * 2 ^ (8 - (l + 1)) = (T.fst l + T.cnt l) * 2 ^ (8 - l) := by
      rw [T.fst_succ l (by omega), show 8 - l = (8 - (l + 1)) + 1 from by omega, Nat.pow_succ, Nat.mul_comm 2, Nat.mul_assoc, Nat.mul_comm 2 (2 ^ _)]
    rw [e]
    by_cases hk : k = l
    · subst hk; exact Nat.le_refl _
    · exact Nat.le_trans (ih (by omega) (by omega)) (Nat.mul_le_mul_right _ (by omega))

theorem Tab.lut_run (T : Tab) (l j c : Nat) (h0 : 0 < l) (h8 : l ≤ 8) (hj : j < T.cnt l) (h1 : (T.fst l + j) * 2 ^ (8 - l) ≤ c) (h2 : c < (T.fst l + j) * 2 ^ (8 - l) + 2 ^ (8 - l)) (hc : c < 256) :
    T.lut c = T.sym.getD (T.idx l + j) 0 * 256 + (l + 1) := by
  have hp := Nat.two_pow_pos (8 - l)
  have hd : c / 2 ^ (8 - l) = T.fst l + j := by
    rw [Nat.div_eq_iff hp]; omega
  rw [T.lut_at c l hc h0 h8 (fun k hk hkl => ?_) (by rw [hd]; omega), hd, show T.idx l + (T.fst l + j) - T.fst l = T.idx l + j from by omega]
  rw [Nat.le_div_iff_mul_le (Nat.two_pow_pos _)]
  have := T.fst_le k l hk hkl h8
  have : T.fst l * 2 ^ (8 - l) ≤ (T.fst l + j) * 2 ^ (8 - l) := Nat.mul_le_mul_right _ (by omega)
  omega

theorem lutG_run (g : Nat → Value) (ho : Nat) (T : Tab) (l j : Nat) (h0 : 0 < l) (h8 : l ≤ 8) (hj : j < T.cnt l) (hk : T.fst l + T.cnt l ≤ 2 ^ l) :
    runG (lutG g ho T ((T.fst l + j) * 2 ^ (8 - l))) (ho + 1 + (T.fst l + j) * 2 ^ (8 - l)) (2 ^ (8 - l)) (.int .u16 ((T.sym.getD (T.idx l + j) 0 * 256 + (l + 1) : Nat) : Int)) = lutG g ho T ((T.fst l + (j + 1)) * 2 ^ (8 - l)) := by
  have e : (T.fst l + (j + 1)) * 2 ^ (8 - l) = (T.fst l + j) * 2 ^ (8 - l) + 2 ^ (8 - l) := by
    rw [show T.fst l + (j + 1) = (T.fst l + j) + 1 from by omega, Nat.add_mul, Nat.one_mul]
  have hle : (T.fst l + (j + 1)) * 2 ^ (8 - l) ≤ 256 := by
    have h3 : (T.fst l + (j + 1)) * 2 ^ (8 - l) ≤ 2 ^ l * 2 ^ (8 - l) := Nat.mul_le_mul_right _ (by omega)
    rw [← Nat.pow_add, show l + (8 - l) = 8 from by omega] at h3
    exact h3
  have hrun := T.lut_run l j
  rw [e] at hle ⊢
  generalize (T.fst l + j) * 2 ^ (8 - l) = P at *
  generalize 2 ^ (8 - l) = M at *
  funext k
  unfold runG lutG
  by_cases h1 : ho + 1 + P ≤ k ∧ k < ho + 1 + P + M
  · rw [if_pos h1, if_pos (by omega), if_pos (by omega), hrun (k - (ho + 1)) h0 h8 hj (by omega) (by omega) (by omega)]
  · rw [if_neg h1]
    by_cases h2 : ho + 1 ≤ k ∧ k < ho + 257
    · rw [if_pos h2, if_pos h2]
      by_cases h3 : k - (ho + 1) < P
      · rw [if_pos h3, if_pos (by omega)]
      · rw [if_neg h3, if_neg (by omega)]
    · rw [if_neg h2, if_neg h2]

section
variable {b ho i cb : Nat} {s : DS} {w : World} {T : Tab} {g0 : Nat → Value}
set_option maxRecDepth 100000 in
set_option maxHeartbeats 8000000 in
theorem jBlock {x0 x1 x2 x3 x4 x5 x6 x7 x10 x11 x16 x17 x18 x19 x20 x21 x22 x23 x24 x25 x26 x27 x28 x29 x30 x31 x32 x33 x34 x35 x36 x37 x38 x39 x40 x41 x42 x43 x44 x45 x46 x47 x48 x49 x50 x51 x52 x53 x54 x55 x56 x57 x58 x59 x60 x61 x62 x63 x64 x65 x66 x67 x68 x69 x70 x71 x72 x73 x74 x75 x76 x77 x78 x79 x80 x81 x82 x83 x84 x85 x86 x87 x88 x89 x90 x91 x92 x93 x94 x95 x96 x97 x98 x99 x100 x101 x102 x103 x104 x105 x106 x107 x108 x109 x110 x111 x112 x113 x114 x115 x116 x117 x118 x119 x120 x121 x122 x123 x124 x125 x126 x127 x128 x129 x130 x131 x132 x133 x134 x135 x136 x137 x138 x139 x140 x141 x142 x143 x144 x145 x146 x147 x148 x149 x150 x151 x152 x153 x154 x155 x156 x157 x158 x159 x160 x161 x162 x163 x164 x165 x166 x167 x168 x169 x170 x171 x172 x173 x174 x175 x176 x177 x178 x179 x180 x181 x182 x183 x184 x185 x186 x187 x188 x189 x190 x191 x192 x193 x194 x195 x196 x197 x198 x199 x200 x201 x202 x203 x204 x205 x206 x207 x208 x209 x210 x211 x212 x213 x214 x215 x216 x217 x218 x219 x220 x221 x222 x223 x224 x225 x226 x227 x228 x229 x230 x231 x232 x233 x234 x235 x236 x237 x238 x239 : Value} (h : DecS b { s with g := lutG g0 ho T (T.fst (i + 1) * 2 ^ (8 - (i + 1))) } w) (hi : i ≤ 7) (hlo : 4148 ≤ ho) (hhi : ho + 561 ≤ 8636)
    (hcell : w.cell? ⟨cb, i, none⟩ = some (.int .i32 (T.cnt (i + 1)))) (hcb : cb ≠ b) (hc255 : T.cnt (i + 1) ≤ 255) (hkr : T.fst (i + 1) + T.cnt (i + 1) ≤ 2 ^ (i + 1)) (hsum : T.idx (i + 1) + T.cnt (i + 1) ≤ T.sym.length) (hle : T.sym.length ≤ 256)
    (hv : ∀ k, k < T.sym.length → g0 (ho + 257 + k) = .int .u8 (T.sym.getD k 0)) (hby : ∀ k, T.sym.getD k 0 < 256) (Q : Exit → Act → World → Prop)
    (hQ : ∀ (u15 u16 u17 u18 u145 u146 u147 u148 u149 u150 u151 u152 u153 u154 u155 u156 u157 u158 u159 u160 u161 u162 u163 u164 u165 u166 u167 u168 u169 u170 u171 u172 u173 u174 u175 u176 u177 u178 u179 u180 u181 u182 u183 u184 u185 u186 u187 : Value) (w' : World), DecS b { s with g := lutG g0 ho T ((T.fst (i + 1) + T.cnt (i + 1)) * 2 ^ (8 - (i + 1))) } w' → Only [b] w w' → Q .normal { tmps := #[x0, x1, x2, x3, x4, x5, x6, x7, .pointer (some ⟨b, ho, none⟩), .pointer (some ⟨cb, 0, none⟩), x10, x11, .int .u32 ((T.idx (i + 1) + T.cnt (i + 1) : Nat) : Int), .int .u32 ((T.fst (i + 1) + T.cnt (i + 1) : Nat) : Int), .int .u32 i, u15, u16, u17, u18, x19, x20, x21, x22, x23, x24, x25, x26, x27, x28, x29, x30, x31, x32, x33, x34, x35, x36, x37, x38, x39, x40, x41, x42, x43, x44, x45, x46, x47, x48, x49, x50, x51, x52, x53, x54, x55, x56, x57, x58, x59, x60, x61, x62, x63, x64, x65, x66, x67, x68, x69, x70, x71, x72, x73, x74, x75, x76, x77, x78, x79, x80, x81, x82, x83, x84, x85, x86, x87, x88, x89, x90, x91, x92, x93, x94, x95, x96, x97, x98, x99, x100, x101, x102, x103, x104, x105, x106, x107, x108, x109, x110, x111, x112, x113, x114, x115, x116, x117, x118, x119, x120, x121, x122, x123, x124, x125, x126, x127, x128, x129, x130, x131, x132, x133, x134, x135, x136, x137, x138, x139, x140, x141, x142, x143, x144, u145, u146, u147, u148, u149, u150, u151, u152, u153, u154, u155, u156, u157, u158, u159, u160, u161, u162, u163, u164, u165, u166, u167, u168, u169, u170, u171, u172, u173, u174, u175, u176, u177, u178, u179, u180, u181, u182, u183, u184, u185, u186, u187, x188, x189, x190, x191, x192, x193, x194, x195, x196, x197, x198, x199, x200, x201, x202, x203, x204, x205, x206, x207, x208, x209, x210, x211, x212, x213, x214, x215, x216, x217, x218, x219, x220, x221, x222, x223, x224, x225, x226, x227, x228, x229, x230, x231, x232, x233, x234, x235, x236, x237, x238, x239], defers := [] } w') :
    (dhtBlock 6).wp Tryd.prog Q { tmps := #[x0, x1, x2, x3, x4, x5, x6, x7, .pointer (some ⟨b, ho, none⟩), .pointer (some ⟨cb, 0, none⟩), x10, x11, .int .u32 (T.idx (i + 1) : Int), .int .u32 (T.fst (i + 1) : Int), .int .u32 i, .int .i32 0, x16, x17, x18, x19, x20, x21, x22, x23, x24, x25, x26, x27, x28, x29, x30, x31, x32, x33, x34, x35, x36, x37, x38, x39, x40, x41, x42, x43, x44, x45, x46, x47, x48, x49, x50, x51, x52, x53, x54, x55, x56, x57, x58, x59, x60, x61, x62, x63, x64, x65, x66, x67, x68, x69, x70, x71, x72, x73, x74, x75, x76, x77, x78, x79, x80, x81, x82, x83, x84, x85, x86, x87, x88, x89, x90, x91, x92, x93, x94, x95, x96, x97, x98, x99, x100, x101, x102, x103, x104, x105, x106, x107, x108, x109, x110, x111, x112, x113, x114, x115, x116, x117, x118, x119, x120, x121, x122, x123, x124, x125, x126, x127, x128, x129, x130, x131, x132, x133, x134, x135, x136, x137, x138, x139, x140, x141, x142, x143, x144, x145, x146, x147, x148, x149, x150, x151, x152, x153, x154, x155, x156, x157, x158, x159, x160, x161, x162, x163, x164, x165, x166, x167, x168, x169, x170, x171, x172, x173, x174, x175, x176, x177, x178, x179, x180, x181, x182, x183, x184, x185, x186, x187, x188, x189, x190, x191, x192, x193, x194, x195, x196, x197, x198, x199, x200, x201, x202, x203, x204, x205, x206, x207, x208, x209, x210, x211, x212, x213, x214, x215, x216, x217, x218, x219, x220, x221, x222, x223, x224, x225, x226, x227, x228, x229, x230, x231, x232, x233, x234, x235, x236, x237, x238, x239], defers := [] } w := by
  conv => arg 2; whnf
  dsimp only
  have HQ := Lib.hid hQ; clear hQ
  have H := Lib.hid h; clear h
  have HV := Lib.hid hv; clear hv
  have HBY := Lib.hid hby; clear hby
  have HCELL := Lib.hid hcell; clear hcell
  obtain ⟨C, hC⟩ : ∃ C, C = T.cnt (i + 1) := ⟨_, rfl⟩
  obtain ⟨F, hF⟩ : ∃ F, F = T.fst (i + 1) := ⟨_, rfl⟩
  obtain ⟨I, hI⟩ : ∃ I, I = T.idx (i + 1) := ⟨_, rfl⟩
  rw [← hC] at hc255
  rw [← hC, ← hF] at hkr
  rw [← hC, ← hI] at hsum
  rw [← hF, ← hI]
  have HC := Lib.hid hC; clear hC
  have HF := Lib.hid hF; clear hF
  have HI := Lib.hid hI; clear hI
  have hp256 : 2 ^ (i + 1) ≤ 2 ^ 8 := Nat.pow_le_pow_right (by omega) (by omega)
  refine wp_block ?_
  go_loopw [12, 13, 15] (fun vx vc vj wr => ∃ j : Nat, j ≤ C ∧ vj = .int .i32 j ∧ vx = .int .u32 ((I + j : Nat) : Int) ∧ vc = .int .u32 ((F + j : Nat) : Int) ∧ DecS b { s with g := lutG g0 ho T ((F + j) * 2 ^ (8 - (i + 1))) } wr ∧ Only [b] w wr) (fun _ _ vj _ => C - (intOf vj).toNat)
  case atStart => exact ⟨0, by omega, rfl, rfl, rfl, by rw [HF.out]; exact H.out, Only.refl _ _⟩
  case round =>
    obtain ⟨j, hj, rfl, rfl, rfl, hD, hO⟩ := hrel
    have hc1 : wr.cell? ⟨cb, i, none⟩ = some (.int .i32 C) := by
      rw [hO.cell (World.block_lt_of_cell? _ _ HCELL.out) (by simpa using hcb), HC.out]; exact HCELL.out
    by_cases hlt : j < C
    · have hx := hD.cG (ho + 257 + (I + j)) (by omega) (by omega)
      have hgx : lutG g0 ho T ((F + j) * 2 ^ (8 - (i + 1))) (ho + 257 + (I + j)) = .int .u8 (T.sym.getD (I + j) 0) := by
        unfold lutG; rw [if_neg (by omega)]; exact HV.out _ (by omega)
      simp only [hgx] at hx
      obtain ⟨sy, hsy⟩ : ∃ sy, sy = T.sym.getD (I + j) 0 := ⟨_, rfl⟩
      have hsy256 : sy < 256 := by rw [hsy]; exact HBY.out _
      rw [← hsy] at hx
      have HSY := Lib.hid hsy; clear hsy hgx
      have HD := Lib.hid hD; clear hD
      have HO := Lib.hid hO; clear hO
      obtain ⟨P, hP⟩ : ∃ P, P = (F + j) * 2 ^ (7 - i) := ⟨_, rfl⟩
      have e8 : 8 - (i + 1) = 7 - i := by omega
      have hPle : P + 2 ^ (7 - i) ≤ 256 := by
        have h3 : (F + j + 1) * 2 ^ (7 - i) ≤ 2 ^ (i + 1) * 2 ^ (7 - i) := Nat.mul_le_mul_right _ (by omega)
        rw [← Nat.pow_add, show i + 1 + (7 - i) = 8 from by omega, Nat.add_mul, Nat.one_mul, ← hP] at h3
        exact h3
      have hp0 := Nat.two_pow_pos (7 - i)
      have hPmod : P % 2 ^ (7 - i) = 0 := by rw [hP]; exact Nat.mul_mod_left _ _
      have hb1 : ((F : Int) + (j : Int)) * 2 ^ (7 - i) % 4294967296 = (P : Int) := by
        have e : ((F : Int) + (j : Int)) * 2 ^ (7 - i) = (P : Int) := by rw [hP]; simp
        rw [e]; omega
      have hb2 : (P : Int) % 256 = (P : Int) := by omega
      obtain ⟨lv, hlv⟩ : ∃ lv, lv = sy * 256 + (i + 1 + 1) := ⟨_, rfl⟩
      have hlv1 : bits .or .u16 ((sy : Int) * 256) (2 + (i : Int)) = (lv : Int) := by
        rw [show (sy : Int) * 256 = ((sy * 256 : Nat) : Int) from by omega, show 2 + (i : Int) = ((i + 2 : Nat) : Int) from by omega, u16_or_nat _ _ (by omega) (by omega), nat_join 8 _ _ (by omega) (by omega), hlv]
      have HPE := Lib.hid hP; clear hP
      have HPM := Lib.hid hPmod; clear hPmod
      have HLV := Lib.hid hlv; clear hlv
      have HE8 := Lib.hid e8; clear e8
      go_upto_block 8 with (fail)
      refine kBlock (b := b) (ho := ho) (i := i) (base := P) (lv := lv) (s := { s with g := lutG g0 ho T ((F + j) * 2 ^ (8 - (i + 1))) }) (w := wr) HD.out (by omega) HPM.out hPle hlo hhi _ ?_
      intro u18 u169 u170 u171 u172 u173 u174 u175 u176 u177 u178 u179 u180 u181 u182 u183 w2 hD2 hO2
      have hD3 : DecS b { s with g := lutG g0 ho T ((F + (j + 1)) * 2 ^ (8 - (i + 1))) } w2 := by
        have hrun := lutG_run g0 ho T (i + 1) j (by omega) (by omega) (by rw [← HC.out]; exact hlt) (by rw [← HF.out, ← HC.out]; exact hkr)
        rw [← HF.out, ← HI.out, ← HSY.out, ← HLV.out, HE8.out, ← HPE.out] at hrun
        rw [← HE8.out] at hrun
        have h4 : runG (lutG g0 ho T P) (ho + 1 + P) (2 ^ (7 - i)) (.int .u16 lv) = lutG g0 ho T ((F + (j + 1)) * 2 ^ (8 - (i + 1))) := by
          rw [← hrun, HE8.out]
        rw [← h4]
        have h5 : (F + j) * 2 ^ (8 - (i + 1)) = P := by rw [HE8.out]; exact HPE.out.symm
        rw [h5] at hD2
        exact hD2
      have hO3 := HO.out.trans hO2
      have HD3 := Lib.hid hD3
      have HO3 := Lib.hid hO3
      clear hD2 hO2 hD3 hO3 hb1 hb2 hlv1 hx hc1
      go_wp2
      go_roundw
      case rel => exact ⟨j + 1, by omega, by go_num, by congr 1, by congr 1, HD3.out, HO3.out⟩
      case measure => simp [intOf]; omega
    · obtain rfl : j = C := by omega
      have HD := Lib.hid hD; clear hD
      go_wp2
      rw [HI.out, HF.out, HC.out]
      refine HQ.out _ _ _ _ _ _ _ _ _ _ _ _ _ _ _ _ _ _ _ _ _ _ _ _ _ _ _ _ _ _ _ _ _ _ _ _ _ _ _ _ _ _ _ _ _ _ _ _ ?_ hO
      rw [← HF.out, ← HC.out]; exact HD.out
end
end Go.Proofs.YtdjilplpbaackaaDoor
