/-
  processDHT's loop over the sixteen numbers of codes. Conditions: the decoder's block, the numbers in its scratch; a block of sixteen numbers.
-/
import Derived.Test.YtdjilplpbaackaaDoorLi
namespace Go.Proofs.YtdjilplpbaackaaDoor
open Go.RowKit

/-- Block cb is an array of sixteen numbers. -/
def NcS (cb : Nat) (f : Nat → Nat) (w : World) : Prop :=
  ∃ C : Array Value, w.heap[cb]? = some (.cells C 90 (0, 0)) ∧ C.size = 16 ∧ ∀ k, k < 16 → C[k]? = some (.int .i32 (f k))
namespace NcS
variable {cb : Nat} {f : Nat → Nat} {w : World}
theorem lt (h : NcS cb f w) : cb < w.heap.size := by
  obtain ⟨C, hC, _⟩ := h
  exact (Array.getElem?_eq_some_iff.1 hC).1
theorem cell (h : NcS cb f w) (k : Nat) (hk : k < 16) : w.cell? ⟨cb, k, none⟩ = some (.int .i32 (f k)) := by
  obtain ⟨C, hC, _, hk'⟩ := h
  rw [cell_of_row w cb k C 90 (0, 0) hC]; exact hk' k hk
theorem frozen (h : NcS cb f w) (k : Nat) : w.frozen? ⟨cb, k, none⟩ = false := by
  obtain ⟨C, hC, _⟩ := h
  exact frozen_of_row w cb k C 90 hC
theorem only (h : NcS cb f w) {S : List Nat} {w' : World} (k : Only S w w') (hs : cb ∉ S) : NcS cb f w' := by
  have hl := h.lt
  obtain ⟨C, hC, r⟩ := h
  exact ⟨C, by rw [k.block cb hl hs]; exact hC, r⟩
theorem set (h : NcS cb f w) {o x : Nat} {v : Int} (e : v = x) : NcS cb (fun k => if k = o then x else f k) (w.setCell ⟨cb, o, none⟩ (.int .i32 v)) := by
  subst e
  obtain ⟨C, hC, hn, hk'⟩ := h
  refine ⟨C.setIfInBounds o (.int .i32 x), by rw [heap_setCell_same w cb o C 90 _ hC], by simpa using hn, fun k hk => ?_⟩
  rw [Array.getElem?_setIfInBounds]
  by_cases e : o = k
  · subst e; rw [if_pos rfl, if_pos (by omega)]; simp
  · rw [if_neg e, hk' k hk]; simp only [if_neg (show ¬ k = o from fun e' => e (by omega))]
end NcS

section
variable {b ho cb : Nat} {s : DS} {w : World} {T : Tab} {g0 : Nat → Value}
/-- The first cell of the table holds a number. -/
def headG (g : Nat → Value) (ho n : Nat) : Nat → Value := fun k => if k = ho then .int .i32 n else g k
theorem headG_set (g : Nat → Value) (ho n m : Nat) : (fun q => if q = ho then Value.int .i32 (m : Int) else headG g ho n q) = headG g ho m := by
  funext k
  unfold headG
  by_cases h : k = ho
  · rw [if_pos h, if_pos h]
  · rw [if_neg h, if_neg h, if_neg h]
set_option maxRecDepth 100000 in
set_option maxHeartbeats 8000000 in
theorem cBlock {x1 x2 x3 x4 x5 x6 x7 x10 x11 x12 x13 x14 x15 x16 x17 x18 x19 x20 x21 x22 x23 x24 x25 x26 x27 x28 x29 x30 x31 x32 x33 x34 x35 x36 x37 x38 x39 x40 x41 x42 x43 x44 x45 x46 x47 x48 x49 x50 x51 x52 x53 x54 x55 x56 x57 x58 x59 x60 x61 x62 x63 x64 x65 x66 x67 x68 x69 x70 x71 x72 x73 x74 x76 x77 x78 x79 x80 x81 x82 x83 x84 x85 x86 x87 x88 x89 x90 x91 x92 x93 x94 x95 x96 x97 x98 x99 x100 x101 x102 x103 x104 x105 x106 x107 x108 x109 x110 x111 x112 x113 x114 x115 x116 x117 x118 x119 x120 x121 x122 x123 x124 x125 x126 x127 x128 x129 x130 x131 x132 x133 x134 x135 x136 x137 x138 x139 x140 x141 x142 x143 x144 x145 x146 x147 x148 x149 x150 x151 x152 x153 x154 x155 x156 x157 x158 x159 x160 x161 x162 x163 x164 x165 x166 x167 x168 x169 x170 x171 x172 x173 x174 x175 x176 x177 x178 x179 x180 x181 x182 x183 x184 x185 x186 x187 x188 x189 x190 x191 x192 x193 x194 x195 x196 x197 x198 x199 x200 x201 x202 x203 x204 x205 x206 x207 x208 x209 x210 x211 x212 x213 x214 x215 x216 x217 x218 x219 x220 x221 x222 x223 x224 x225 x226 x227 x228 x229 x230 x231 x232 x233 x234 x235 x236 x237 x238 x239 : Value} (h : DecS b { s with g := headG g0 ho 0 } w) (hN : NcS cb (fun _ => 0) w) (hlo : 4148 ≤ ho) (hhi : ho + 561 ≤ 8636) (hcb : cb ≠ b)
    (hcnt : ∀ i, i < 16 → g0 (8892 + (i + 1)) = .int .u8 (T.cnt (i + 1))) (hc255 : ∀ i, i < 16 → T.cnt (i + 1) ≤ 255) (hsum : ∀ i, i ≤ 16 → T.idx (i + 1) ≤ 5000) (Q : Exit → Act → World → Prop)
    (hQ : ∀ (u10 u75 u76 u77 u78 u79 u80 u81 u82 u83 u84 u85 u86 u87 u88 u89 u90 u91 u92 u93 u94 u95 u96 u97 u98 : Value) (w' : World), DecS b { s with g := headG g0 ho (T.idx 17) } w' → NcS cb (fun k => T.cnt (k + 1)) w' → Only [b, cb] w w' → Q .normal { tmps := #[.pointer (some ⟨b, 0, none⟩), x1, x2, x3, x4, x5, x6, x7, .pointer (some ⟨b, ho, none⟩), .pointer (some ⟨cb, 0, none⟩), u10, x11, x12, x13, x14, x15, x16, x17, x18, x19, x20, x21, x22, x23, x24, x25, x26, x27, x28, x29, x30, x31, x32, x33, x34, x35, x36, x37, x38, x39, x40, x41, x42, x43, x44, x45, x46, x47, x48, x49, x50, x51, x52, x53, x54, x55, x56, x57, x58, x59, x60, x61, x62, x63, x64, x65, x66, x67, x68, x69, x70, x71, x72, x73, x74, u75, u76, u77, u78, u79, u80, u81, u82, u83, u84, u85, u86, u87, u88, u89, u90, u91, u92, u93, u94, u95, u96, u97, u98, x99, x100, x101, x102, x103, x104, x105, x106, x107, x108, x109, x110, x111, x112, x113, x114, x115, x116, x117, x118, x119, x120, x121, x122, x123, x124, x125, x126, x127, x128, x129, x130, x131, x132, x133, x134, x135, x136, x137, x138, x139, x140, x141, x142, x143, x144, x145, x146, x147, x148, x149, x150, x151, x152, x153, x154, x155, x156, x157, x158, x159, x160, x161, x162, x163, x164, x165, x166, x167, x168, x169, x170, x171, x172, x173, x174, x175, x176, x177, x178, x179, x180, x181, x182, x183, x184, x185, x186, x187, x188, x189, x190, x191, x192, x193, x194, x195, x196, x197, x198, x199, x200, x201, x202, x203, x204, x205, x206, x207, x208, x209, x210, x211, x212, x213, x214, x215, x216, x217, x218, x219, x220, x221, x222, x223, x224, x225, x226, x227, x228, x229, x230, x231, x232, x233, x234, x235, x236, x237, x238, x239], defers := [] } w') :
    (dhtBlock 2).wp Tryd.prog Q { tmps := #[.pointer (some ⟨b, 0, none⟩), x1, x2, x3, x4, x5, x6, x7, .pointer (some ⟨b, ho, none⟩), .pointer (some ⟨cb, 0, none⟩), x10, x11, x12, x13, x14, x15, x16, x17, x18, x19, x20, x21, x22, x23, x24, x25, x26, x27, x28, x29, x30, x31, x32, x33, x34, x35, x36, x37, x38, x39, x40, x41, x42, x43, x44, x45, x46, x47, x48, x49, x50, x51, x52, x53, x54, x55, x56, x57, x58, x59, x60, x61, x62, x63, x64, x65, x66, x67, x68, x69, x70, x71, x72, x73, x74, .int .i64 0, x76, x77, x78, x79, x80, x81, x82, x83, x84, x85, x86, x87, x88, x89, x90, x91, x92, x93, x94, x95, x96, x97, x98, x99, x100, x101, x102, x103, x104, x105, x106, x107, x108, x109, x110, x111, x112, x113, x114, x115, x116, x117, x118, x119, x120, x121, x122, x123, x124, x125, x126, x127, x128, x129, x130, x131, x132, x133, x134, x135, x136, x137, x138, x139, x140, x141, x142, x143, x144, x145, x146, x147, x148, x149, x150, x151, x152, x153, x154, x155, x156, x157, x158, x159, x160, x161, x162, x163, x164, x165, x166, x167, x168, x169, x170, x171, x172, x173, x174, x175, x176, x177, x178, x179, x180, x181, x182, x183, x184, x185, x186, x187, x188, x189, x190, x191, x192, x193, x194, x195, x196, x197, x198, x199, x200, x201, x202, x203, x204, x205, x206, x207, x208, x209, x210, x211, x212, x213, x214, x215, x216, x217, x218, x219, x220, x221, x222, x223, x224, x225, x226, x227, x228, x229, x230, x231, x232, x233, x234, x235, x236, x237, x238, x239], defers := [] } w := by
  conv => arg 2; whnf
  dsimp only
  have HQ := Lib.hid hQ; clear hQ
  have H := Lib.hid h; clear h
  have HN := Lib.hid hN; clear hN
  have HCN := Lib.hid hcnt; clear hcnt
  have HC := Lib.hid hc255; clear hc255
  have HS := Lib.hid hsum; clear hsum
  refine wp_block ?_
  go_loopw [75] (fun vi wr => ∃ (i : Nat) (f : Nat → Nat), i ≤ 16 ∧ vi = .int .i64 i ∧ DecS b { s with g := headG g0 ho (T.idx (i + 1)) } wr ∧ NcS cb f wr ∧ (∀ k, k < 16 → f k = if k < i then T.cnt (k + 1) else 0) ∧ Only [b, cb] w wr) (fun vi _ => 16 - (intOf vi).toNat)
  case atStart => exact ⟨0, fun _ => 0, by omega, rfl, H.out, HN.out, fun k _ => by rw [if_neg (by omega)], Only.refl _ _⟩
  case round =>
    obtain ⟨i, f, hi, rfl, hD, hF, hf, hO⟩ := hrel
    by_cases hlt : i < 16
    · have ht := hD.cG (8892 + (i + 1)) (by omega) (by omega)
      have hgt : headG g0 ho (T.idx (i + 1)) (8892 + (i + 1)) = .int .u8 (T.cnt (i + 1)) := by
        unfold headG; rw [if_neg (by omega)]; exact HCN.out i hlt
      simp only [hgt] at ht
      obtain ⟨C, hC⟩ : ∃ C, C = T.cnt (i + 1) := ⟨_, rfl⟩
      have hc := HC.out i hlt
      rw [← hC] at ht hc
      have HCC := Lib.hid hC; clear hC hgt
      have hci := hF.cell i hlt
      have hfi := hF.frozen i
      have HD := Lib.hid hD; clear hD
      have HF := Lib.hid hF; clear hF
      have HFF := Lib.hid hf; clear hf
      have HO := Lib.hid hO; clear hO
      go_wp2
      generalize hw1 : World.setCell wr _ _ = w1
      have hF1 : NcS cb (fun k => if k = i then C else f k) w1 := by rw [← hw1]; exact HF.out.set rfl
      have hO1 : Only [cb] wr w1 := by rw [← hw1]; exact (Only.refl _ _).setCell (by simp) _
      have hD1 : DecS b { s with g := headG g0 ho (T.idx (i + 1)) } w1 := HD.out.only hO1 (by simpa using fun e => hcb e.symm)
      clear hw1 ht hci hfi
      have hnc := hD1.cG ho (by omega) (by omega)
      have hgn : headG g0 ho (T.idx (i + 1)) ho = .int .i32 (T.idx (i + 1)) := by unfold headG; rw [if_pos rfl]
      simp only [hgn] at hnc
      obtain ⟨I, hI⟩ : ∃ I, I = T.idx (i + 1) := ⟨_, rfl⟩
      have hI5 := HS.out i (by omega)
      rw [← hI] at hnc hI5
      have hci1 : w1.cell? ⟨cb, i, none⟩ = some (.int .i32 C) := by have := hF1.cell i hlt; simpa using this
      have hfh := hD1.frozen ho
      have HI := Lib.hid hI; clear hI hgn
      have HD1 := Lib.hid hD1; clear hD1
      have HF1 := Lib.hid hF1; clear hF1
      have HO1 := Lib.hid hO1; clear hO1
      have hw : IntKind.i32.wrap ((I : Int) + (C : Int)) = (I : Int) + (C : Int) := IntWalk.i32_in _ (by omega)
      refine wp_region_still_tail 10 (by kernel_rfl) (by kernel_rfl) ?_
      change wpStill _ _ (World.drew _) (fun a' => wpList _ _ _ _ a' (World.drew _)) _ _
      simp only [List.take_succ_cons, List.take_zero, List.drop_succ_cons, List.drop_zero]
      repeat still_step
      refine wpStill_nil ?_
      clear hw
      go_wp2
      have hx : T.idx (i + 1 + 1) = I + C := by rw [T.idx_succ (i + 1) (by omega), ← HI.out, ← HCC.out]
      go_roundw
      case rel =>
        refine ⟨i + 1, fun k => if k = i then C else f k, by omega, by go_num, ?_, ?_, ?_, ?_⟩
        · rw [hx, ← headG_set g0 ho I (I + C)]
          have h7 := HD1.out
          rw [← HI.out] at h7
          exact (h7.setG (by omega)).drew
        · exact HF1.out.only (((Only.refl [b] _).setCell (by simp) _).drew) (by simpa using hcb)
        · intro k hk
          show (if k = i then C else f k) = _
          by_cases hki : k = i
          · subst hki; rw [if_pos rfl, if_pos (by omega)]; exact HCC.out
          · rw [if_neg hki, HFF.out k hk]
            by_cases h2 : k < i
            · rw [if_pos h2, if_pos (by omega)]
            · rw [if_neg h2, if_neg (by omega)]
        · exact ((HO.out.trans (HO1.out.mono (by simp))).setCell (by simp) _).drew
      case measure => simp [intOf]; omega
    · obtain rfl : i = 16 := by omega
      have HD := Lib.hid hD; clear hD
      go_wp2
      refine HQ.out _ _ _ _ _ _ _ _ _ _ _ _ _ _ _ _ _ _ _ _ _ _ _ _ _ _ HD.out ?_ hO
      obtain ⟨C, h1, h2, h3⟩ := hF
      exact ⟨C, h1, h2, fun k hk => by rw [h3 k hk, hf k hk, if_pos hk]⟩
end
end Go.Proofs.YtdjilplpbaackaaDoor
