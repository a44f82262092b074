/-
  processDHT's look-up table whole. Conditions: the decoder's block; the array of the numbers of codes; the table's codes fit their lengths.
-/
import Derived.Test.YtdjilplpbaackaaDoorLj
namespace Go.Proofs.YtdjilplpbaackaaDoor
open Go.RowKit

/-- The first number that is no code of a length. -/
def Tab.past (T : Tab) (i : Nat) : Nat := if i = 0 then 0 else T.fst i + T.cnt i
theorem Tab.fst_past (T : Tab) (i : Nat) : T.fst (i + 1) = 2 * T.past i := by
  unfold Tab.past
  by_cases h : i = 0
  · subst h; rfl
  · rw [if_neg h, T.fst_succ i (by omega)]
theorem Tab.past_succ (T : Tab) (i : Nat) : T.past (i + 1) = T.fst (i + 1) + T.cnt (i + 1) := by
  unfold Tab.past; rw [if_neg (by omega)]
theorem Tab.past_place (T : Tab) (i : Nat) (h : i ≤ 7) : T.past i * 2 ^ (8 - i) = T.fst (i + 1) * 2 ^ (8 - (i + 1)) := by
  rw [T.fst_past, show 8 - i = (8 - (i + 1)) + 1 from by omega, Nat.pow_succ, Nat.mul_comm 2, Nat.mul_assoc, Nat.mul_comm 2]

/-- The table that is filled holds what it is to hold. -/
theorem lutG_all (g : Nat → Value) (ho : Nat) (T : Tab) (c : Nat) (hc : c < 256) : lutG g ho T (T.past 8) (ho + 1 + c) = .int .u16 (T.lut c) := by
  unfold lutG
  rw [if_pos (by omega), show ho + 1 + c - (ho + 1) = c from by omega]
  by_cases h : c < T.past 8
  · rw [if_pos h]
  · rw [if_neg h, T.lut_none c hc]
    · rfl
    · intro k h0 h8
      rw [Nat.le_div_iff_mul_le (Nat.two_pow_pos _)]
      have h7 : T.past 8 = T.fst 8 + T.cnt 8 := T.past_succ 7
      by_cases hk : k = 8
      · subst hk; simp; omega
      · have := T.fst_le k 8 h0 (by omega) (by omega)
        simp at this; omega

section
variable {b ho cb : Nat} {s : DS} {w : World} {T : Tab} {g0 : Nat → Value}
set_option maxRecDepth 100000 in
set_option maxHeartbeats 8000000 in
theorem iBlock {x0 x1 x2 x3 x4 x5 x6 x7 x10 x11 x15 x16 x17 x18 x19 x20 x21 x22 x23 x24 x25 x26 x27 x28 x29 x30 x31 x32 x33 x34 x35 x36 x37 x38 x39 x40 x41 x42 x43 x44 x45 x46 x47 x48 x49 x50 x51 x52 x53 x54 x55 x56 x57 x58 x59 x60 x61 x62 x63 x64 x65 x66 x67 x68 x69 x70 x71 x72 x73 x74 x75 x76 x77 x78 x79 x80 x81 x82 x83 x84 x85 x86 x87 x88 x89 x90 x91 x92 x93 x94 x95 x96 x97 x98 x99 x100 x101 x102 x103 x104 x105 x106 x107 x108 x109 x110 x111 x112 x113 x114 x115 x116 x117 x118 x119 x120 x121 x122 x123 x124 x125 x126 x127 x128 x129 x130 x131 x132 x133 x134 x135 x136 x137 x138 x139 x140 x141 x142 x143 x144 x145 x146 x147 x148 x149 x150 x151 x152 x153 x154 x155 x156 x157 x158 x159 x160 x161 x162 x163 x164 x165 x166 x167 x168 x169 x170 x171 x172 x173 x174 x175 x176 x177 x178 x179 x180 x181 x182 x183 x184 x185 x186 x187 x188 x189 x190 x191 x192 x193 x194 x195 x196 x197 x198 x199 x200 x201 x202 x203 x204 x205 x206 x207 x208 x209 x210 x211 x212 x213 x214 x215 x216 x217 x218 x219 x220 x221 x222 x223 x224 x225 x226 x227 x228 x229 x230 x231 x232 x233 x234 x235 x236 x237 x238 x239 : Value} (h : DecS b { s with g := lutG g0 ho T 0 } w) (hlo : 4148 ≤ ho) (hhi : ho + 561 ≤ 8636)
    (hcell : ∀ i, i < 16 → w.cell? ⟨cb, i, none⟩ = some (.int .i32 (T.cnt (i + 1)))) (hcb : cb ≠ b) (hc255 : ∀ i, i < 16 → T.cnt (i + 1) ≤ 255) (hkr : ∀ i, i < 16 → T.fst (i + 1) + T.cnt (i + 1) ≤ 2 ^ (i + 1)) (hsum : ∀ i, i < 16 → T.idx (i + 1) + T.cnt (i + 1) ≤ T.sym.length) (hle : T.sym.length ≤ 256)
    (hv : ∀ k, k < T.sym.length → g0 (ho + 257 + k) = .int .u8 (T.sym.getD k 0)) (hby : ∀ k, T.sym.getD k 0 < 256) (Q : Exit → Act → World → Prop)
    (hQ : ∀ (u12 u13 u14 u15 u16 u17 u18 u139 u140 u141 u142 u143 u144 u145 u146 u147 u148 u149 u150 u151 u152 u153 u154 u155 u156 u157 u158 u159 u160 u161 u162 u163 u164 u165 u166 u167 u168 u169 u170 u171 u172 u173 u174 u175 u176 u177 u178 u179 u180 u181 u182 u183 u184 u185 u186 u187 : Value) (w' : World), DecS b { s with g := lutG g0 ho T (T.past 8) } w' → Only [b] w w' → Q .normal { tmps := #[x0, x1, x2, x3, x4, x5, x6, x7, .pointer (some ⟨b, ho, none⟩), .pointer (some ⟨cb, 0, none⟩), x10, x11, u12, u13, u14, u15, u16, u17, u18, x19, x20, x21, x22, x23, x24, x25, x26, x27, x28, x29, x30, x31, x32, x33, x34, x35, x36, x37, x38, x39, x40, x41, x42, x43, x44, x45, x46, x47, x48, x49, x50, x51, x52, x53, x54, x55, x56, x57, x58, x59, x60, x61, x62, x63, x64, x65, x66, x67, x68, x69, x70, x71, x72, x73, x74, x75, x76, x77, x78, x79, x80, x81, x82, x83, x84, x85, x86, x87, x88, x89, x90, x91, x92, x93, x94, x95, x96, x97, x98, x99, x100, x101, x102, x103, x104, x105, x106, x107, x108, x109, x110, x111, x112, x113, x114, x115, x116, x117, x118, x119, x120, x121, x122, x123, x124, x125, x126, x127, x128, x129, x130, x131, x132, x133, x134, x135, x136, x137, x138, u139, u140, u141, u142, u143, u144, u145, u146, u147, u148, u149, u150, u151, u152, u153, u154, u155, u156, u157, u158, u159, u160, u161, u162, u163, u164, u165, u166, u167, u168, u169, u170, u171, u172, u173, u174, u175, u176, u177, u178, u179, u180, u181, u182, u183, u184, u185, u186, u187, x188, x189, x190, x191, x192, x193, x194, x195, x196, x197, x198, x199, x200, x201, x202, x203, x204, x205, x206, x207, x208, x209, x210, x211, x212, x213, x214, x215, x216, x217, x218, x219, x220, x221, x222, x223, x224, x225, x226, x227, x228, x229, x230, x231, x232, x233, x234, x235, x236, x237, x238, x239], defers := [] } w') :
    (dhtBlock 4).wp Tryd.prog Q { tmps := #[x0, x1, x2, x3, x4, x5, x6, x7, .pointer (some ⟨b, ho, none⟩), .pointer (some ⟨cb, 0, none⟩), x10, x11, .int .u32 0, .int .u32 0, .int .u32 0, x15, x16, x17, x18, x19, x20, x21, x22, x23, x24, x25, x26, x27, x28, x29, x30, x31, x32, x33, x34, x35, x36, x37, x38, x39, x40, x41, x42, x43, x44, x45, x46, x47, x48, x49, x50, x51, x52, x53, x54, x55, x56, x57, x58, x59, x60, x61, x62, x63, x64, x65, x66, x67, x68, x69, x70, x71, x72, x73, x74, x75, x76, x77, x78, x79, x80, x81, x82, x83, x84, x85, x86, x87, x88, x89, x90, x91, x92, x93, x94, x95, x96, x97, x98, x99, x100, x101, x102, x103, x104, x105, x106, x107, x108, x109, x110, x111, x112, x113, x114, x115, x116, x117, x118, x119, x120, x121, x122, x123, x124, x125, x126, x127, x128, x129, x130, x131, x132, x133, x134, x135, x136, x137, x138, x139, x140, x141, x142, x143, x144, x145, x146, x147, x148, x149, x150, x151, x152, x153, x154, x155, x156, x157, x158, x159, x160, x161, x162, x163, x164, x165, x166, x167, x168, x169, x170, x171, x172, x173, x174, x175, x176, x177, x178, x179, x180, x181, x182, x183, x184, x185, x186, x187, x188, x189, x190, x191, x192, x193, x194, x195, x196, x197, x198, x199, x200, x201, x202, x203, x204, x205, x206, x207, x208, x209, x210, x211, x212, x213, x214, x215, x216, x217, x218, x219, x220, x221, x222, x223, x224, x225, x226, x227, x228, x229, x230, x231, x232, x233, x234, x235, x236, x237, x238, x239], defers := [] } w := by
  conv => arg 2; whnf
  dsimp only
  have HQ := Lib.hid hQ; clear hQ
  have H := Lib.hid h; clear h
  have HV := Lib.hid hv; clear hv
  have HBY := Lib.hid hby; clear hby
  have HCELL := Lib.hid hcell; clear hcell
  have HC := Lib.hid hc255; clear hc255
  have HK := Lib.hid hkr; clear hkr
  have HS := Lib.hid hsum; clear hsum
  refine wp_block ?_
  go_loopw [12, 13, 14] (fun vx vc vi wr => ∃ i : Nat, i ≤ 8 ∧ vi = .int .u32 i ∧ vx = .int .u32 (T.idx (i + 1)) ∧ vc = .int .u32 (T.past i) ∧ DecS b { s with g := lutG g0 ho T (T.past i * 2 ^ (8 - i)) } wr ∧ Only [b] w wr) (fun _ _ vi _ => 8 - (intOf vi).toNat)
  case atStart => exact ⟨0, by omega, rfl, rfl, rfl, by have : T.past 0 * 2 ^ (8 - 0) = 0 := by (unfold Tab.past; rfl)
                                                        rw [this]; exact H.out, Only.refl _ _⟩
  case round =>
    obtain ⟨i, hi, rfl, rfl, rfl, hD, hO⟩ := hrel
    have HD := Lib.hid hD; clear hD
    have HO := Lib.hid hO; clear hO
    by_cases hlt : i < 8
    · obtain ⟨pv, hpv⟩ : ∃ pv, pv = T.past i := ⟨_, rfl⟩
      obtain ⟨fv, hfv⟩ : ∃ fv, fv = T.fst (i + 1) := ⟨_, rfl⟩
      have hf2 : fv = 2 * pv := by rw [hfv, hpv]; exact T.fst_past i
      have hf256 : fv ≤ 256 := by
        have h1 := HK.out i (by omega)
        have h2 : 2 ^ (i + 1) ≤ 2 ^ 8 := Nat.pow_le_pow_right (by omega) (by omega)
        omega
      have hfe : (pv : Int) * 2 = (fv : Int) := by omega
      have hpv256 : pv ≤ 256 := by omega
      have hfm : (fv : Int) % 4294967296 = (fv : Int) := by omega
      rw [← hpv]
      have HP := Lib.hid hpv; clear hpv
      have HF := Lib.hid hfv; clear hfv hf2
      go_upto_block 6 with (fail)
      rw [HF.out]
      refine jBlock (b := b) (ho := ho) (i := i) (cb := cb) (T := T) (g0 := g0) (s := s) (w := wr) (by rw [← T.past_place i (by omega)]; exact HD.out) (by omega) hlo hhi ?_ hcb (HC.out i (by omega)) (HK.out i (by omega)) (HS.out i (by omega)) hle HV.out HBY.out _ ?_
      · have hc := HCELL.out i (by omega)
        rw [HO.out.cell (World.block_lt_of_cell? _ _ hc) (by simpa using hcb)]; exact hc
      intro z15 z16 z17 z18 z145 z146 z147 z148 z149 z150 z151 z152 z153 z154 z155 z156 z157 z158 z159 z160 z161 z162 z163 z164 z165 z166 z167 z168 z169 z170 z171 z172 z173 z174 z175 z176 z177 z178 z179 z180 z181 z182 z183 z184 z185 z186 z187 w2 hD2 hO2
      have hD3 : DecS b { s with g := lutG g0 ho T (T.past (i + 1) * 2 ^ (8 - (i + 1))) } w2 := by rw [T.past_succ]; exact hD2
      have hO3 := HO.out.trans hO2
      have hx : T.idx (i + 1 + 1) = T.idx (i + 1) + T.cnt (i + 1) := T.idx_succ (i + 1) (by omega)
      have hp : T.past (i + 1) = T.fst (i + 1) + T.cnt (i + 1) := T.past_succ i
      rw [← hx, ← hp]
      have HD3 := Lib.hid hD3
      have HO3 := Lib.hid hO3
      clear hD2 hO2 hD3 hO3 hx hp hfe hfm
      go_wp2
      go_roundw
      case rel => exact ⟨i + 1, by omega, by go_num, rfl, rfl, HD3.out, HO3.out⟩
      case measure => simp [intOf]; omega
    · obtain rfl : i = 8 := by omega
      go_wp2
      refine HQ.out _ _ _ _ _ _ _ _ _ _ _ _ _ _ _ _ _ _ _ _ _ _ _ _ _ _ _ _ _ _ _ _ _ _ _ _ _ _ _ _ _ _ _ _ _ _ _ _ _ _ _ _ _ _ _ _ _ ?_ HO.out
      have e : T.past 8 * 2 ^ (8 - 8) = T.past 8 := by simp
      rw [← e]; exact HD.out
end
end Go.Proofs.YtdjilplpbaackaaDoor
