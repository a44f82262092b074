/-
  The standard's side: the loop over a table's sixteen counts. Conditions: the counts lie in memory; the table's block is new.
-/
import Derived.Test.YtdjilplpbaackaaDoorSy
import Derived.Test.YtdjilplpbaackaaDoorPa
import Derived.Test.YtdjilplpbaackaaDoorLk
import Derived.Deep.MidRow
namespace Go.Proofs.YtdjilplpbaackaaDoor
open Go.RowKit

noncomputable def codesBlock (n : Nat) : Code := ((Tryd.f12.body.bind (findBlock n)).getD .skip)

/-- Block tb is a table that is being made: its counts, its values. -/
def TbS (tb : Nat) (f : Nat → Nat) (v : Value) (w : World) : Prop :=
  ∃ C : Array Value, w.heap[tb]? = some (.cells C 52 (0, 0)) ∧ C.size = 18 ∧ (∀ k, k < 17 → C[k]? = some (.int .i64 (f k))) ∧ C[17]? = some v
namespace TbS
variable {tb : Nat} {f : Nat → Nat} {v : Value} {w : World}
theorem lt (h : TbS tb f v w) : tb < w.heap.size := by
  obtain ⟨C, hC, _⟩ := h
  exact (Array.getElem?_eq_some_iff.1 hC).1
theorem cell (h : TbS tb f v w) (k : Nat) (hk : k < 17) : w.cell? ⟨tb, k, none⟩ = some (.int .i64 (f k)) := by
  obtain ⟨C, hC, _, hk', _⟩ := h
  rw [cell_of_row w tb k C 52 (0, 0) hC]; exact hk' k hk
theorem val (h : TbS tb f v w) : w.cell? ⟨tb, 17, none⟩ = some v := by
  obtain ⟨C, hC, _, _, hv⟩ := h
  rw [cell_of_row w tb 17 C 52 (0, 0) hC]; exact hv
theorem frozen (h : TbS tb f v w) (k : Nat) : w.frozen? ⟨tb, k, none⟩ = false := by
  obtain ⟨C, hC, _⟩ := h
  exact frozen_of_row w tb k C 52 hC
theorem only (h : TbS tb f v w) {S : List Nat} {w' : World} (k : Only S w w') (hs : tb ∉ S) : TbS tb f v w' := by
  have hl := h.lt
  obtain ⟨C, hC, r⟩ := h
  exact ⟨C, by rw [k.block tb hl hs]; exact hC, r⟩
theorem set (h : TbS tb f v w) {o x : Nat} {y : Int} (e : y = x) (ho : o < 17) : TbS tb (fun k => if k = o then x else f k) v (w.setCell ⟨tb, o, none⟩ (.int .i64 y)) := by
  subst e
  obtain ⟨C, hC, hn, hk', hv⟩ := h
  refine ⟨C.setIfInBounds o (.int .i64 x), by rw [heap_setCell_same w tb o C 52 _ hC], by simpa using hn, fun k hk => ?_, ?_⟩
  · rw [Array.getElem?_setIfInBounds]
    by_cases e : o = k
    · subst e; rw [if_pos rfl, if_pos (by omega)]; simp
    · rw [if_neg e, hk' k hk]; simp only [if_neg (show ¬ k = o from fun e' => e (by omega))]
  · rw [Array.getElem?_setIfInBounds, if_neg (by omega)]; exact hv
theorem setV (h : TbS tb f v w) (v' : Value) : TbS tb f v' (w.setCell ⟨tb, 17, none⟩ v') := by
  obtain ⟨C, hC, hn, hk', hv⟩ := h
  refine ⟨C.setIfInBounds 17 v', by rw [heap_setCell_same w tb 17 C 52 _ hC], by simpa using hn, fun k hk => ?_, ?_⟩
  · rw [Array.getElem?_setIfInBounds, if_neg (by omega)]; exact hk' k hk
  · rw [Array.getElem?_setIfInBounds, if_pos rfl, if_pos (by omega)]
end TbS

section
variable {d tb n c1 : Nat} {P : Addr} {w : World} {T : Tab}
set_option maxRecDepth 100000 in
set_option maxHeartbeats 8000000 in
theorem countsBlock {x2 x3 x4 x5 x6 x11 x12 x13 x14 x15 x16 x17 x18 x19 x20 x21 x22 x23 x24 x25 x26 x27 x28 x29 x30 x31 x32 x33 x34 x35 x36 x37 x38 x39 x40 x41 x42 x43 x44 x45 x46 x47 x48 x49 x50 x51 x52 x53 x54 x55 x56 x57 x58 x59 x60 x61 x62 x63 x64 x65 x66 x67 x68 x69 x70 x71 x72 x73 x74 x75 x76 x77 x78 x79 x80 x81 x82 x83 x84 x85 x86 x87 x88 x89 x90 x91 x92 x93 x94 x95 x96 x97 x98 x99 x100 x101 x102 x103 x104 x105 x106 x107 x108 x109 x110 x111 x112 x113 x114 x115 x116 x117 x118 x119 x120 x121 x122 x123 x124 x125 x126 x127 x128 x129 x130 x131 x132 x133 x134 x135 : Value} (hcell : ∀ i, 1 ≤ i → i ≤ 16 → w.cell? (P.add i) = some (.int .u8 (T.cnt i))) (hsm : ∀ i, T.cnt i ≤ 255) (hn : 17 ≤ n) (hP : P.block ≠ tb) (h : TbS tb (fun _ => 0) (.slice none 0 0) w) (Q : Exit → Act → World → Prop)
    (hF : ∀ (tmps : Array Value) (w' : World), tmps.getD 4 undef = .bool false → Only [tb] w w' → Q .ret { tmps := tmps, defers := [] } w')
    (hQ : ∀ (u4 u44 u45 u46 u47 u48 u49 u50 u51 u52 u53 u54 u55 u56 u57 u58 u59 u60 u61 u62 u63 u64 u65 u66 u67 u68 u69 u70 u71 u72 : Value) (free : Nat) (w' : World), (∀ i, i < 16 → T.fst (i + 1) + T.cnt (i + 1) ≤ 2 ^ (i + 1)) → (∀ i, T.idx i ≤ 255 * i) → TbS tb (fun k => if 0 < k then T.cnt k else 0) (.slice none 0 0) w' → Only [tb] w w' → Q .normal { tmps := #[.pointer (some ⟨d, 0, none⟩), .slice (some P) n c1, x2, x3, u4, x5, x6, .pointer (some ⟨tb, 0, none⟩), .int .i64 (free : Nat), .int .i64 (T.idx 17 : Nat), .int .i64 17, x11, x12, x13, x14, x15, x16, x17, x18, x19, x20, x21, x22, x23, x24, x25, x26, x27, x28, x29, x30, x31, x32, x33, x34, x35, x36, x37, x38, x39, x40, x41, x42, x43, u44, u45, u46, u47, u48, u49, u50, u51, u52, u53, u54, u55, u56, u57, u58, u59, u60, u61, u62, u63, u64, u65, u66, u67, u68, u69, u70, u71, u72, x73, x74, x75, x76, x77, x78, x79, x80, x81, x82, x83, x84, x85, x86, x87, x88, x89, x90, x91, x92, x93, x94, x95, x96, x97, x98, x99, x100, x101, x102, x103, x104, x105, x106, x107, x108, x109, x110, x111, x112, x113, x114, x115, x116, x117, x118, x119, x120, x121, x122, x123, x124, x125, x126, x127, x128, x129, x130, x131, x132, x133, x134, x135], defers := [] } w') :
    (codesBlock 2).wp Tryd.prog Q { tmps := #[.pointer (some ⟨d, 0, none⟩), .slice (some P) n c1, x2, x3, x4, x5, x6, .pointer (some ⟨tb, 0, none⟩), .int .i64 1, .int .i64 0, .int .i64 1, x11, x12, x13, x14, x15, x16, x17, x18, x19, x20, x21, x22, x23, x24, x25, x26, x27, x28, x29, x30, x31, x32, x33, x34, x35, x36, x37, x38, x39, x40, x41, x42, x43, x44, x45, x46, x47, x48, x49, x50, x51, x52, x53, x54, x55, x56, x57, x58, x59, x60, x61, x62, x63, x64, x65, x66, x67, x68, x69, x70, x71, x72, x73, x74, x75, x76, x77, x78, x79, x80, x81, x82, x83, x84, x85, x86, x87, x88, x89, x90, x91, x92, x93, x94, x95, x96, x97, x98, x99, x100, x101, x102, x103, x104, x105, x106, x107, x108, x109, x110, x111, x112, x113, x114, x115, x116, x117, x118, x119, x120, x121, x122, x123, x124, x125, x126, x127, x128, x129, x130, x131, x132, x133, x134, x135], defers := [] } w := by
  conv => arg 2; whnf
  dsimp only
  have HQ := Lib.hid hQ; clear hQ
  have HF := Lib.hid hF; clear hF
  have H := Lib.hid h; clear h
  have HC := Lib.hid hcell; clear hcell
  have hidx := Tab.idx_le T hsm
  have HI := Lib.hid hidx
  have HSM := Lib.hid hsm; clear hsm
  refine wp_block ?_
  go_loopw [8, 9, 10] (fun v8 v9 v10 wr => ∃ (i free : Nat) (f : Nat → Nat), 1 ≤ i ∧ i ≤ 17 ∧ v8 = .int .i64 free ∧ v9 = .int .i64 (T.idx i) ∧ v10 = .int .i64 i ∧ 2 * free + T.fst i = 2 ^ i ∧ 1 ≤ free ∧ TbS tb f (.slice none 0 0) wr ∧
      (∀ k, k < 17 → f k = if 0 < k ∧ k < i then T.cnt k else 0) ∧ (∀ j, j + 1 < i → T.fst (j + 1) + T.cnt (j + 1) ≤ 2 ^ (j + 1)) ∧ Only [tb] w wr) (fun _ _ v10 _ => 17 - (intOf v10).toNat)
  case atStart => exact ⟨1, 1, fun _ => 0, by omega, by omega, rfl, rfl, rfl, by rw [Tab.fst_one], by omega, H.out, fun k _ => by rw [if_neg (by omega)], fun j hj => by omega, Only.refl _ _⟩
  case round =>
    obtain ⟨i, free, f, hi1, hi17, rfl, rfl, rfl, hfree, hf1, hT, hf, hk, hO⟩ := hrel
    by_cases hlt : i ≤ 16
    · have hpow : 2 ^ i ≤ 2 ^ 16 := Nat.pow_le_pow_right (by omega) hlt
      have hc0 := HC.out i hi1 hlt
      have hc := hO.cell (World.block_lt_of_cell? _ _ hc0) (by rw [Addr.block_add]; simpa using hP)
      rw [hc0] at hc
      obtain ⟨q, hq⟩ : ∃ q, q = T.cnt i := ⟨_, rfl⟩
      obtain ⟨ix, hix⟩ : ∃ ix, ix = T.idx i := ⟨_, rfl⟩
      have hq255 := HSM.out i
      have hixl := HI.out i
      rw [← hq] at hc hq255
      rw [← hix] at hixl ⊢
      have hc' : (wr.setCell ⟨tb, i, none⟩ (.int .i64 q)).cell? (P.add i) = some (.int .u8 q) := by
        rw [World.cell?_setCell_other _ _ _ _ (fun e => hP (by have := congrArg Addr.block e; rw [Addr.block_add] at this; exact this.symm))]; exact hc
      have hti := hT.cell i (by omega)
      have htf := hT.frozen i
      have HQQ := Lib.hid hq; clear hq
      have HIX := Lib.hid hix; clear hix
      have HT := Lib.hid hT; clear hT
      have HFF := Lib.hid hf; clear hf
      have HK := Lib.hid hk; clear hk
      have HO := Lib.hid hO; clear hO
      have HFR := Lib.hid hfree
      have hfree2 : free ≤ 65536 := by omega
      clear hfree hidx hc0
      by_cases hbad : 2 * free < q + 1
      · have hbad' : 2 * (free : Int) - (q : Int) < 1 := by omega
        go_wp2
        exact HF.out _ _ rfl (HO.out.setCell (by simp) _)
      · have hbad' : ¬ 2 * (free : Int) - (q : Int) < 1 := by omega
        go_wp2
        have hfs := T.fst_succ i (by omega)
        have his := T.idx_succ i (by omega)
        rw [← HQQ.out] at hfs his
        rw [← HIX.out] at his
        have hfr := HFR.out
        go_roundw
        case measure => simp [intOf]; omega
        case rel =>
          refine ⟨i + 1, 2 * free - q, fun k => if k = i then q else f k, by omega, by omega, by congr 1; omega, by rw [his]; congr 1, rfl, ?_, by omega, HT.out.set rfl (by omega), ?_, ?_, HO.out.setCell (by simp) _⟩
          · rw [hfs, Nat.pow_succ]; omega
          · intro k hk17
            show (if k = i then q else f k) = _
            by_cases hki : k = i
            · subst hki; rw [if_pos rfl, if_pos (by omega)]; exact HQQ.out
            · rw [if_neg hki, HFF.out k hk17]
              by_cases h2 : 0 < k ∧ k < i
              · rw [if_pos h2, if_pos (by omega)]
              · rw [if_neg h2, if_neg (by omega)]
          · intro j hj
            by_cases hji : j + 1 = i
            · rw [hji, ← HQQ.out]; omega
            · exact HK.out j (by omega)
    · obtain rfl : i = 17 := by omega
      have HT := Lib.hid hT; clear hT
      have HFF := Lib.hid hf; clear hf
      have HK := Lib.hid hk; clear hk
      have HO := Lib.hid hO; clear hO
      clear hfree hidx
      go_wp2
      refine HQ.out _ _ _ _ _ _ _ _ _ _ _ _ _ _ _ _ _ _ _ _ _ _ _ _ _ _ _ _ _ _ free _ (fun i hi => HK.out i (by omega)) HI.out ?_ HO.out
      obtain ⟨C, h1, h2, h3, h4⟩ := HT.out
      exact ⟨C, h1, h2, fun k hk => by rw [h3 k hk, HFF.out k hk]; by_cases h0 : 0 < k <;> simp [h0, hk], h4⟩
end
end Go.Proofs.YtdjilplpbaackaaDoor
