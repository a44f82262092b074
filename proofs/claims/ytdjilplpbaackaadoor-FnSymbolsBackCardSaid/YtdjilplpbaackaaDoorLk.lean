/-
  processDHT's innermost loop: one code laid into the look-up table. Conditions: the decoder's block; the code's places are a run that the run's length divides.
-/
import Derived.Test.YtdjilplpbaackaaDoorRf
import Derived.Laws.BitsAllLaws
namespace Go.Proofs.YtdjilplpbaackaaDoor
open Go.RowKit

/-- The block with a number, in a code. -/
def findBlock (n : Nat) : Code → Option Code
  | .block i c => if i = n then some (.block i c) else findBlock n c
  | .seq a b => match findBlock n a with
    | some c => some c
    | none => findBlock n b
  | .loop c => findBlock n c
  | .cond _ a b => match findBlock n a with
    | some c => some c
    | none => findBlock n b
  | .scope c => findBlock n c
  | _ => none
noncomputable def dhtBlock (n : Nat) : Code := ((Tryd.f20.body.bind (findBlock n)).getD .skip)

/-- A run of one value. -/
def runG (g : Nat → Value) (o n : Nat) (v : Value) : Nat → Value := fun k => if o ≤ k ∧ k < o + n then v else g k
theorem runG_zero (g : Nat → Value) (o : Nat) (v : Value) : runG g o 0 v = g := by
  funext k; unfold runG; rw [if_neg (by omega)]
theorem runG_succ (g : Nat → Value) (o n : Nat) (v : Value) : (fun q => if q = o + n then v else runG g o n v q) = runG g o (n + 1) v := by
  funext k
  unfold runG
  by_cases h1 : k = o + n
  · rw [if_pos h1, if_pos (by omega)]
  · rw [if_neg h1]
    by_cases h2 : o ≤ k ∧ k < o + n
    · rw [if_pos h2, if_pos (by omega)]
    · rw [if_neg h2, if_neg (by omega)]

section
variable {b ho i base lv : Nat} {s : DS} {w : World}
set_option maxRecDepth 100000 in
set_option maxHeartbeats 4000000 in
theorem kBlock {x0 x1 x2 x3 x4 x5 x6 x7 x9 x10 x11 x12 x13 x15 x19 x20 x21 x22 x23 x24 x25 x26 x27 x28 x29 x30 x31 x32 x33 x34 x35 x36 x37 x38 x39 x40 x41 x42 x43 x44 x45 x46 x47 x48 x49 x50 x51 x52 x53 x54 x55 x56 x57 x58 x59 x60 x61 x62 x63 x64 x65 x66 x67 x68 x69 x70 x71 x72 x73 x74 x75 x76 x77 x78 x79 x80 x81 x82 x83 x84 x85 x86 x87 x88 x89 x90 x91 x92 x93 x94 x95 x96 x97 x98 x99 x100 x101 x102 x103 x104 x105 x106 x107 x108 x109 x110 x111 x112 x113 x114 x115 x116 x117 x118 x119 x120 x121 x122 x123 x124 x125 x126 x127 x128 x129 x130 x131 x132 x133 x134 x135 x136 x137 x138 x139 x140 x141 x142 x143 x144 x145 x146 x147 x148 x149 x150 x151 x152 x153 x154 x155 x156 x157 x158 x159 x160 x161 x162 x163 x164 x165 x166 x167 x168 x169 x170 x171 x172 x173 x174 x175 x176 x177 x178 x179 x180 x181 x182 x183 x184 x185 x186 x187 x188 x189 x190 x191 x192 x193 x194 x195 x196 x197 x198 x199 x200 x201 x202 x203 x204 x205 x206 x207 x208 x209 x210 x211 x212 x213 x214 x215 x216 x217 x218 x219 x220 x221 x222 x223 x224 x225 x226 x227 x228 x229 x230 x231 x232 x233 x234 x235 x236 x237 x238 x239 : Value} (h : DecS b s w) (hi : i ≤ 7) (hb : base % 2 ^ (7 - i) = 0) (hb2 : base + 2 ^ (7 - i) ≤ 256) (hlo : 4148 ≤ ho) (hhi : ho + 561 ≤ 8636) (Q : Exit → Act → World → Prop)
    (hQ : ∀ (u18 u169 u170 u171 u172 u173 u174 u175 u176 u177 u178 u179 u180 u181 u182 u183 : Value) (w' : World), DecS b { s with g := runG s.g (ho + 1 + base) (2 ^ (7 - i)) (.int .u16 lv) } w' → Only [b] w w' → Q .normal { tmps := #[x0, x1, x2, x3, x4, x5, x6, x7, .pointer (some ⟨b, ho, none⟩), x9, x10, x11, x12, x13, .int .u32 i, x15, .int .u8 base, .int .u16 lv, u18, x19, x20, x21, x22, x23, x24, x25, x26, x27, x28, x29, x30, x31, x32, x33, x34, x35, x36, x37, x38, x39, x40, x41, x42, x43, x44, x45, x46, x47, x48, x49, x50, x51, x52, x53, x54, x55, x56, x57, x58, x59, x60, x61, x62, x63, x64, x65, x66, x67, x68, x69, x70, x71, x72, x73, x74, x75, x76, x77, x78, x79, x80, x81, x82, x83, x84, x85, x86, x87, x88, x89, x90, x91, x92, x93, x94, x95, x96, x97, x98, x99, x100, x101, x102, x103, x104, x105, x106, x107, x108, x109, x110, x111, x112, x113, x114, x115, x116, x117, x118, x119, x120, x121, x122, x123, x124, x125, x126, x127, x128, x129, x130, x131, x132, x133, x134, x135, x136, x137, x138, x139, x140, x141, x142, x143, x144, x145, x146, x147, x148, x149, x150, x151, x152, x153, x154, x155, x156, x157, x158, x159, x160, x161, x162, x163, x164, x165, x166, x167, x168, u169, u170, u171, u172, u173, u174, u175, u176, u177, u178, u179, u180, u181, u182, u183, x184, x185, x186, x187, x188, x189, x190, x191, x192, x193, x194, x195, x196, x197, x198, x199, x200, x201, x202, x203, x204, x205, x206, x207, x208, x209, x210, x211, x212, x213, x214, x215, x216, x217, x218, x219, x220, x221, x222, x223, x224, x225, x226, x227, x228, x229, x230, x231, x232, x233, x234, x235, x236, x237, x238, x239], defers := [] } w') :
    (dhtBlock 8).wp Tryd.prog Q { tmps := #[x0, x1, x2, x3, x4, x5, x6, x7, .pointer (some ⟨b, ho, none⟩), x9, x10, x11, x12, x13, .int .u32 i, x15, .int .u8 base, .int .u16 lv, .int .u8 0, x19, x20, x21, x22, x23, x24, x25, x26, x27, x28, x29, x30, x31, x32, x33, x34, x35, x36, x37, x38, x39, x40, x41, x42, x43, x44, x45, x46, x47, x48, x49, x50, x51, x52, x53, x54, x55, x56, x57, x58, x59, x60, x61, x62, x63, x64, x65, x66, x67, x68, x69, x70, x71, x72, x73, x74, x75, x76, x77, x78, x79, x80, x81, x82, x83, x84, x85, x86, x87, x88, x89, x90, x91, x92, x93, x94, x95, x96, x97, x98, x99, x100, x101, x102, x103, x104, x105, x106, x107, x108, x109, x110, x111, x112, x113, x114, x115, x116, x117, x118, x119, x120, x121, x122, x123, x124, x125, x126, x127, x128, x129, x130, x131, x132, x133, x134, x135, x136, x137, x138, x139, x140, x141, x142, x143, x144, x145, x146, x147, x148, x149, x150, x151, x152, x153, x154, x155, x156, x157, x158, x159, x160, x161, x162, x163, x164, x165, x166, x167, x168, x169, x170, x171, x172, x173, x174, x175, x176, x177, x178, x179, x180, x181, x182, x183, x184, x185, x186, x187, x188, x189, x190, x191, x192, x193, x194, x195, x196, x197, x198, x199, x200, x201, x202, x203, x204, x205, x206, x207, x208, x209, x210, x211, x212, x213, x214, x215, x216, x217, x218, x219, x220, x221, x222, x223, x224, x225, x226, x227, x228, x229, x230, x231, x232, x233, x234, x235, x236, x237, x238, x239], defers := [] } w := by
  conv => arg 2; whnf
  have HQ := Lib.hid hQ; clear hQ
  have H := Lib.hid h; clear h
  dsimp only
  refine wp_block ?_

  go_loopw [18] (fun v wr => ∃ k : Nat, k ≤ 2 ^ (7 - i) ∧ v = .int .u8 k ∧ DecS b { s with g := runG s.g (ho + 1 + base) k (.int .u16 lv) } wr ∧ Only [b] w wr) (fun v _ => 2 ^ (7 - i) - (intOf v).toNat)
  case atStart => exact ⟨0, by omega, rfl, by rw [runG_zero]; exact H.out, Only.refl _ _⟩
  case round =>
    obtain ⟨k, hk, rfl, hD, hO⟩ := hrel
    have hp128 : 2 ^ (7 - i) ≤ 2 ^ 7 := Nat.pow_le_pow_right (by omega) (by omega)
    obtain ⟨M, hM⟩ : ∃ M, M = 2 ^ (7 - i) := ⟨_, rfl⟩
    have hpow : (2 : Int) ^ (7 - i) % 256 = (M : Int) := by
      have : ((2 ^ (7 - i) : Nat) : Int) = (2 : Int) ^ (7 - i) := by simp
      rw [← this, ← hM]; omega
    rw [← hM] at hk hb hb2 hp128
    have HM := Lib.hid hM; clear hM
    have HO := Lib.hid hO; clear hO
    by_cases hlt : k < M
    · obtain ⟨c, hc⟩ : ∃ c, c = base + k := ⟨_, rfl⟩
      have hor : bits .or .u8 (base : Int) (k : Int) = (c : Int) := by
        rw [u8_or_nat _ _ (by omega) (by omega), hc, nat_join (7 - i) base k (by rw [← HM.out]; exact hb) (by rw [← HM.out]; exact hlt)]
      have hc8 : c < 256 := by omega
      have hcell := hD.cG (ho + 1 + c) (by omega) (by omega)
      have hfr := hD.frozen (ho + 1 + c)
      have hlt' : (k : Int) < (M : Int) := by omega
      have HD := Lib.hid hD; clear hD
      have HC := Lib.hid hc; clear hc
      have HB := Lib.hid hb; clear hb
      go_wp2
      go_roundw
      case rel =>
        refine ⟨k + 1, by rw [← HM.out]; omega, by go_num, ?_, by repeat (first | exact HO.out | refine Only.drewN ?_ _ | refine Only.setCell ?_ (by simp) _)⟩
        rw [← runG_succ, show ho + 1 + base + k = ho + 1 + c from by rw [HC.out]; omega]
        exact HD.out.setG (by omega)
      case measure => rw [← HM.out]; simp [intOf]; omega
    · have hge : k = M := by omega
      have hge' : ¬ (k : Int) < (M : Int) := by omega
      have HD := Lib.hid hD; clear hD
      have HE := Lib.hid hge; clear hge
      clear hb
      go_wp2
      refine HQ.out _ _ _ _ _ _ _ _ _ _ _ _ _ _ _ _ _ ?_ HO.out
      rw [← HM.out, ← HE.out]; exact HD.out
end
end Go.Proofs.YtdjilplpbaackaaDoor
