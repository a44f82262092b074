/-
  The decoder's decodeHuffman: the road bit by bit. Conditions: St; the bits that are held are as BitsOk says; the table's cells are as HuffG says.
-/
import Derived.Test.YtdjilplpbaackaaDoorEn
import Derived.WalkMore
import Derived.ScopeJumps
import Derived.Deep.CutBlock
namespace Go.Proofs.YtdjilplpbaackaaDoor
open Go.RowKit

/-- The cells from ho on are the decoder of table T. -/
structure HuffG (g : Nat → Value) (ho : Nat) (T : Tab) : Prop where
  n : g ho = .int .i32 T.sym.length
  pos : 0 < T.sym.length
  le : T.sym.length ≤ 256
  lut : ∀ c, c < 256 → g (ho + 1 + c) = .int .u16 (T.lut c)
  vals : ∀ k, k < T.sym.length → g (ho + 257 + k) = .int .u8 (T.sym.getD k 0)
  maxC : ∀ i, i < 16 → g (ho + 529 + i) = .int .i32 (if T.cnt (i + 1) = 0 then -1 else T.fst (i + 1) + T.cnt (i + 1) - 1)
  minC : ∀ i, i < 16 → T.cnt (i + 1) ≠ 0 → g (ho + 513 + i) = .int .i32 (T.fst (i + 1))
  valI : ∀ i, i < 16 → T.cnt (i + 1) ≠ 0 → g (ho + 545 + i) = .int .i32 (T.idx (i + 1))
  lo : 4148 ≤ ho
  hi : ho + 561 ≤ 8636
  sum : ∀ i, i < 16 → T.idx (i + 1) + T.cnt (i + 1) ≤ T.sym.length
  kraft : ∀ i, i < 16 → T.fst (i + 1) + T.cnt (i + 1) ≤ 2 ^ (i + 1)
  byte : ∀ k, T.sym.getD k 0 < 256

/-- The bits that the decoder holds: how many, its mask. -/
structure BitsOk (s : DS) : Prop where
  n15 : s.n ≤ 15
  m : s.m = if s.n = 0 then 0 else 2 ^ (s.n - 1)
  a32 : s.a < 4294967296

/-- The bits that are still to be read. -/
def DS.rem (s : DS) (src : List UInt8) (p : Nat) : List Bool := lowbits s.n s.a ++ bitsFrom src (s.pos p)

/-- What decodeHuffman leaves. -/
def DecPost (b rd : Nat) (sa : Option Addr) (cap : Nat) (src : List UInt8) (e1 e2 : Addr) (g0 : Nat → Value) (w0 : World) (r : Option (Nat × List Bool)) (v4 v5 : Value) (w' : World) : Prop :=
  match r with
  | some (sy, R') => v4 = .int .u8 sy ∧ v5 = .nilIface ∧ ∃ s' p', St b rd sa cap src e1 e2 s' p' w' ∧ BitsOk s' ∧ s'.rem src p' = R' ∧ s'.g = g0 ∧ Only [b, rd] w0 w'
  | none => v4 = .int .u8 0 ∧ (∃ str, v5 = .iface 105 (.string str)) ∧ Only [b, rd] w0 w'

/-- The road bit by bit. -/
noncomputable def slowCode : Code :=
  match Tryd.f21.body with
  | some (.seq _ (.scope (.seq _ (.seq _ (.seq _ (.seq _ c)))))) => c
  | _ => .skip

section
variable {b rd cap p ho : Nat} {sa : Option Addr} {src : List UInt8} {e1 e2 : Addr} {s : DS} {w : World} {T : Tab}

theorem BitsOk.nextM (h : BitsOk s) (h7 : s.n ≤ 7) : nextM s.m = 2 ^ (s.n + 7) := by
  unfold YtdjilplpbaackaaDoor.nextM
  rw [h.m]
  by_cases h0 : s.n = 0
  · rw [if_pos h0, if_pos rfl, h0]
  · have : 2 ^ (s.n - 1) ≠ 0 := by have := Nat.two_pow_pos (s.n - 1); omega
    rw [if_neg h0, if_neg this, show s.n + 7 = (s.n - 1) + 8 from by omega, Nat.pow_add]
theorem Ensured.ok {u : UInt8} {q : Nat} {s' : DS} {p' : Nat} {w' : World} (h : Ensured b rd sa cap src e1 e2 s w u q s' p' w') (hB : BitsOk s) (h7 : s.n ≤ 7) : BitsOk s' :=
  ⟨by rw [h.n]; omega, by rw [h.m, hB.nextM h7, h.n, if_neg (by omega), show s.n + 8 - 1 = s.n + 7 from by omega], by rw [h.a]; omega⟩
theorem Ensured.rem {u : UInt8} {q : Nat} {s' : DS} {p' : Nat} {w' : World} (h : Ensured b rd sa cap src e1 e2 s w u q s' p' w') (h7 : s.n ≤ 7) (hs : stuffed src (s.pos p) = some (u, q)) : s'.rem src p' = s.rem src p := by
  unfold DS.rem
  rw [h.n, h.a, h.pos, bitsFrom_some hs, lowbits_byte s.n s.a u.toNat (by omega) u.toNat_lt, List.append_assoc]
theorem BitsOk.mle (h : BitsOk s) (h7 : s.n ≤ 7) : s.m ≤ 128 := by
  rw [h.m]
  split
  · omega
  · have := Nat.pow_le_pow_right (n := 2) (by omega) (show s.n - 1 ≤ 7 by omega); omega

theorem and_mask (a n : Nat) (ha : a < 4294967296) (hn : n < 32) : (bits .and .u32 (a : Int) ((2 ^ n : Nat) : Int) != 0) = a.testBit n := by
  have h2 : 2 ^ n < 4294967296 := by have := Nat.pow_lt_pow_right (a := 2) (by omega) hn; exact this
  rw [u32_and_nat a (2 ^ n) ha h2, nat_bit]
  have hp := Nat.two_pow_pos n
  rw [Nat.testBit_eq_decide_div_mod_eq]
  rcases Nat.mod_two_eq_zero_or_one (a / 2 ^ n) with h | h
  · rw [h]; simp
  · rw [h, Nat.one_mul]
    have : ((2 ^ n : Nat) : Int) ≠ 0 := by omega
    simpa using this
theorem or_one (c : Nat) (hc : c < 1000000) : bits .or .i32 (2 * (c : Int)) 1 = 2 * (c : Int) + 1 :=
  bits_join .i32 31 (by decide) wraps_i32 1 (2 * (c : Int)) 1 (by omega) (by omega) (by omega) (by omega) (by omega) (by omega)

theorem half_mask {m n : Nat} (h : m = 2 ^ n) : m / 2 = if n = 0 then 0 else 2 ^ (n - 1) := by
  subst h
  by_cases h0 : n = 0
  · subst h0; rfl
  · obtain ⟨k, rfl⟩ : ∃ k, n = k + 1 := ⟨n - 1, by omega⟩
    rw [if_neg h0, Nat.pow_succ, Nat.add_sub_cancel]; omega

set_option maxRecDepth 100000 in
set_option maxHeartbeats 4000000 in
theorem slow {x2 x3 x4 x5 x6 x7 x8 x9 x10 x11 x12 x13 x14 x15 x16 x17 x18 x19 x20 x21 x22 x23 x24 x25 x26 x27 x28 x29 x30 x31 x32 x33 x34 x35 x36 x37 x38 x39 x40 x41 x42 x43 x44 x45 x46 x47 x48 x49 x50 x51 x52 x53 x54 x55 x56 x57 x58 x59 x60 x61 x62 x63 x64 x65 x66 x67 x68 x69 x70 x71 x72 x73 x74 x75 x76 x77 x78 x79 x80 x81 x82 x83 x84 x85 x86 x87 x88 x89 x90 x91 x92 : Value} (h : St b rd sa cap src e1 e2 s p w) (hB : BitsOk s) (hG : HuffG s.g ho T) (Q : Exit → Act → World → Prop)
    (hQ : ∀ (tmps : Array Value) (w' : World), DecPost b rd sa cap src e1 e2 s.g w (T.decode (s.rem src p)) (tmps.getD 4 undef) (tmps.getD 5 undef) w' → Q .ret { tmps := tmps, defers := [] } w') :
    slowCode.wp Tryd.prog Q { tmps := #[.pointer (some ⟨b, 0, none⟩), .pointer (some ⟨b, ho, none⟩), x2, x3, x4, x5, x6, x7, x8, x9, x10, x11, x12, x13, x14, x15, x16, x17, x18, x19, x20, x21, x22, x23, x24, x25, x26, x27, x28, x29, x30, x31, x32, x33, x34, x35, x36, x37, x38, x39, x40, x41, x42, x43, x44, x45, x46, x47, x48, x49, x50, x51, x52, x53, x54, x55, x56, x57, x58, x59, x60, x61, x62, x63, x64, x65, x66, x67, x68, x69, x70, x71, x72, x73, x74, x75, x76, x77, x78, x79, x80, x81, x82, x83, x84, x85, x86, x87, x88, x89, x90, x91, x92, undef, undef, undef, undef, undef, undef, undef, undef, undef, undef, undef, undef, undef, undef, undef, undef, undef, undef, undef, undef, undef, undef, undef, undef, undef, undef, undef, undef, undef, undef, undef, undef, undef, undef, undef, undef, undef, undef, undef, undef, undef, undef, undef, undef, undef, undef, undef, undef, undef, undef, undef, undef, undef, undef, undef, undef, undef, undef, undef, undef, undef, undef, undef, undef, undef, undef, undef, undef, undef, undef, undef, undef, undef, undef, undef, undef, undef, undef], defers := [] } w := by
  unfold slowCode
  dsimp only [Tryd.f21]

  have HQ := Lib.hid hQ; clear hQ
  have HS := Lib.hid h; clear h
  have HB := Lib.hid hB; clear hB
  have HG := Lib.hid hG; clear hG
  go_wp2
  go_loopw [9, 10] (fun vi vc wr => ∃ (i c : Nat) (s1 : DS) (p1 : Nat), i ≤ 16 ∧ vi = .int .i64 i ∧ vc = .int .i32 (2 * (c : Int)) ∧ c < 2 ^ i ∧ T.fst (i + 1) ≤ 2 * c ∧ St b rd sa cap src e1 e2 s1 p1 wr ∧ BitsOk s1 ∧ s1.g = s.g ∧ Only [b, rd] w wr ∧ T.dec (16 - i) (i + 1) c (s1.rem src p1) = T.decode (s.rem src p))
    (fun vi _ _ => 16 - (intOf vi).toNat)
  case atStart => exact ⟨0, 0, s, p, by omega, rfl, rfl, by decide, by rw [Tab.fst_one]; omega, HS.out, HB.out, rfl, Only.refl _ _, rfl⟩
  case round =>
    obtain ⟨i, c, s1, p1, hi, rfl, rfl, hc, hf, hS1, hB1, hg1, hO1, hd1⟩ := hrel
    by_cases hlt : i < 16
    · have hN' := hS1.dec.cN
      have HG1 : Hid (s1.g = s.g) := Lib.hid hg1
      have HS1 := Lib.hid hS1
      have HB1 := Lib.hid hB1
      have HO1 := Lib.hid hO1
      have HD1 := Lib.hid hd1
      clear hg1 hS1 hB1 hO1 hd1
      go_upto_if 102 with (fail)
      go_cut [] from 93 to 169 (fun wr2 => ∃ s2 p2, St b rd sa cap src e1 e2 s2 p2 wr2 ∧ BitsOk s2 ∧ s2.g = s.g ∧ Only [b, rd] w wr2 ∧ 0 < s2.n ∧ s2.rem src p2 = s1.rem src p1)
      case first =>
        by_cases hn : s1.n = 0
        · cases hst : stuffed src (s1.pos p1) with
          | none =>
            have hN : T.decode (s.rem src p) = none := by
              rw [← HD1.out]
              unfold DS.rem
              rw [hn, lowbits_zero, bitsFrom_none hst, show 16 - i = (15 - i) + 1 from by omega]; rfl
            have HN := Lib.hid hN; clear hN HD1
            have HST := Lib.hid hst; clear hst
            have he : ((s1.n : Int) == 0) = true := by rw [hn]; rfl
            clear hn hN'
            go_wp2_with (go_at_call 28; refine (ensure_none HS1.out HST.out 1).mono ?_; rintro e w1 ⟨err, rfl, herr, s2, p2, hM, hi⟩; obtain ⟨str, rfl⟩ : ∃ str, err = .iface 105 (.string str) := by (rcases herr with rfl | rfl <;> exact ⟨_, rfl⟩))
            refine HQ.out _ _ ?_
            rw [HN.out]
            exact ⟨rfl, ⟨_, rfl⟩, HO1.out.trans hM.only⟩
          | some uq =>
            obtain ⟨u, q⟩ := uq
            have HST := Lib.hid hst; clear hst
            have HN := Lib.hid hn
            have he : ((s1.n : Int) == 0) = true := by rw [hn]; rfl
            clear hn hN'
            go_wp2_with (go_at_call 28; refine (ensure_some HS1.out HST.out 1 (by have := HN.out; omega) (by omega) (HB1.out.mle (by have := HN.out; omega))).mono ?_; rintro e w1 ⟨rfl, s2, p2, hE⟩)
            go_meet
            case rel => exact ⟨s2, p2, hE.st, hE.ok HB1.out (by have := HN.out; omega), hE.g.trans HG1.out, HO1.out.trans hE.only, by rw [hE.n]; omega, hE.rem (by have := HN.out; omega) HST.out⟩
        · have hne : ((s1.n : Int) == 0) = false := by simpa using hn
          go_wp2
          go_meet
          case rel => exact ⟨s1, p1, HS1.out, HB1.out, HG1.out, HO1.out, by omega, rfl⟩
      case rest =>
        obtain ⟨s2, p2, hS2, hB2, hg2, hO2, hn2, hr2⟩ := hcut
        have hA := hS2.dec.cA
        have hM := hS2.dec.cM
        have hN2 := hS2.dec.cN
        have hf2 := hS2.dec.frozen 2
        have hf3 := hS2.dec.frozen 3
        obtain ⟨n, hn⟩ : ∃ n, s2.n = n + 1 := ⟨s2.n - 1, by omega⟩
        have hm : s2.m = 2 ^ n := by rw [hB2.m, if_neg (by omega), hn, Nat.add_sub_cancel]
        rw [hn] at hN2
        have hn15 := hB2.n15
        have hn14 : n ≤ 14 := by omega
        have hbit := and_mask s2.a n hB2.a32 (by omega)
        rw [← hm] at hbit
        have hmax := hS2.dec.cG (ho + 529 + i) (by have := HG.out.lo; omega) (by have := HG.out.hi; omega)
        rw [hg2, HG.out.maxC i hlt] at hmax
        have hlo := HG.out.lo
        have hhi := HG.out.hi
        have HS2 := Lib.hid hS2
        have HB2 := Lib.hid hB2
        have HG2 := Lib.hid hg2
        have HO2 := Lib.hid hO2
        have HR2 := Lib.hid hr2
        have HM2 := Lib.hid hm
        have HN2 := Lib.hid hn
        clear hS2 hB2 hg2 hO2 hr2 hm hn hN'
        have hc16 : c < 65536 := by have : 2 ^ i ≤ 2 ^ 16 := Nat.pow_le_pow_right (by omega) hi; omega
        have hor := or_one c (by omega)
        cases hb : s2.a.testBit n with
        | false =>
          rw [hb] at hbit
          go_wp2
          go_quiet (fail)
          go_upto_region 27 with (fail)
          generalize hw3 : World.setCell (World.setCell _ _ _) _ _ = w3
          have hD3 : DecS b { s2 with n := n, m := s2.m / 2 } w3 := by rw [← hw3]; exact ((HS2.out.dec.drewN _).setN (by omega)).setM (by omega)
          have hO3 : Only [b] wc w3 := by rw [← hw3]; repeat (first | exact Only.refl _ _ | refine Only.drewN ?_ _ | refine Only.setCell ?_ (by simp) _)
          have hS3 : St b rd sa cap src e1 e2 { s2 with n := n, m := s2.m / 2 } p2 w3 := HS2.out.upd hD3 hO3 rfl rfl rfl HS2.out.ij
          clear hw3 hD3 hA hM hN2 hf2 hf3 hbit hmax hor
          have hB3 : BitsOk { s2 with n := n, m := s2.m / 2 } := ⟨by show n ≤ 15; have := HB2.out.n15; omega, half_mask HM2.out, HB2.out.a32⟩
          have hR3 : s2.rem src p2 = false :: DS.rem { s2 with n := n, m := s2.m / 2 } src p2 := by
            unfold DS.rem
            rw [HN2.out, lowbits_succ, hb]; rfl
          have hO3' := HO2.out.trans (hO3.mono (S' := [b, rd]) (by simp))
          have hd3 : T.decode (s.rem src p) = if 2 * c < T.fst (i + 1) + T.cnt (i + 1) then some (T.sym.getD (T.idx (i + 1) + (2 * c) - T.fst (i + 1)) 0, DS.rem { s2 with n := n, m := s2.m / 2 } src p2) else T.dec (15 - i) (i + 1 + 1) (2 * c) (DS.rem { s2 with n := n, m := s2.m / 2 } src p2) := by
            rw [← HD1.out, ← HR2.out, hR3, show 16 - i = (15 - i) + 1 from by omega, Tab.dec]; rfl
          have HS3 := Lib.hid hS3
          have HB3 := Lib.hid hB3
          have HO3 := Lib.hid hO3'
          have HD3 := Lib.hid hd3
          have hmax := hS3.dec.cG (ho + 529 + i) (by omega) (by omega)
          have hminc := hS3.dec.cG (ho + 513 + i) (by omega) (by omega)
          have hidc := hS3.dec.cG (ho + 545 + i) (by omega) (by omega)
          by_cases hhit : 2 * c < T.fst (i + 1) + T.cnt (i + 1)
          · have hcn : T.cnt (i + 1) ≠ 0 := by omega
            have hsum := HG.out.sum i hlt
            have hkr := HG.out.kraft i hlt
            have hle := HG.out.le
            have hp2 : 2 ^ (i + 1) ≤ 2 ^ 16 := Nat.pow_le_pow_right (by omega) (by omega)
            obtain ⟨k, hk⟩ : ∃ k, k = T.idx (i + 1) + (2 * c) - T.fst (i + 1) := ⟨_, rfl⟩
            have hcell := hS3.dec.cG (ho + 257 + k) (by omega) (by omega)
            simp only [HG2.out] at hmax hminc hidc hcell
            rw [HG.out.maxC i hlt, if_neg hcn] at hmax
            rw [HG.out.minC i hlt hcn] at hminc
            rw [HG.out.valI i hlt hcn] at hidc
            rw [HG.out.vals k (by omega)] at hcell
            have hr : T.decode (s.rem src p) = some (T.sym.getD k 0, DS.rem { s2 with n := n, m := s2.m / 2 } src p2) := by
              rw [HD3.out, if_pos hhit, hk]
            have HR := Lib.hid hr
            obtain ⟨F, hF⟩ : ∃ F, F = T.fst (i + 1) := ⟨_, rfl⟩
            obtain ⟨C, hC⟩ : ∃ C, C = T.cnt (i + 1) := ⟨_, rfl⟩
            obtain ⟨I, hI⟩ : ∃ I, I = T.idx (i + 1) := ⟨_, rfl⟩
            rw [← hF, ← hC] at hmax
            rw [← hF] at hminc
            rw [← hI] at hidc
            rw [← hF, ← hC] at hhit hkr
            rw [← hI, ← hF] at hk
            rw [← hI, ← hC] at hsum
            rw [← hF] at hf
            have HK := Lib.hid hk
            clear hr hS3 hB3 hO3 hO3' hd3 hR3 HS2 HB2 HO2 HR2 HM2 HN2 HD3 hb hF hC hI hcn
            have hle1 : 2 * (c : Int) ≤ (F : Int) + (C : Int) - 1 := by omega
            have hwa : IntKind.i32.wrap ((I : Int) + (2 * (c : Int))) = (I : Int) + (2 * (c : Int)) := IntWalk.i32_in _ (by omega)
            have hwb : IntKind.i32.wrap ((I : Int) + (2 * (c : Int)) - (F : Int)) = (I : Int) + (2 * (c : Int)) - (F : Int) := IntWalk.i32_in _ (by omega)
            have ht1 : ((I : Int) + (2 * (c : Int)) - (F : Int)).toNat = k := by have := HK.out; omega
            have ht2 : (I : Int) + (2 * (c : Int)) - (F : Int) < 256 := by omega
            have ht3 : 0 ≤ (I : Int) + (2 * (c : Int)) - (F : Int) := by omega
            clear hk
            go_wp2
            go_quiet (fail)
            go_wp2
            refine HQ.out _ _ ?_
            rw [HR.out]
            exact ⟨rfl, rfl, _, p2, HS3.out.drewN _, HB3.out, rfl, HG2.out, HO3.out.drewN _⟩
          · have hr : T.dec (15 - i) (i + 1 + 1) (2 * c) (DS.rem { s2 with n := n, m := s2.m / 2 } src p2) = T.decode (s.rem src p) := by
              rw [HD3.out, if_neg hhit]
            have HR := Lib.hid hr
            simp only [HG2.out] at hmax
            rw [HG.out.maxC i hlt] at hmax
            obtain ⟨mx, hmx⟩ : ∃ mx : Int, mx = if T.cnt (i + 1) = 0 then -1 else (T.fst (i + 1) : Int) + T.cnt (i + 1) - 1 := ⟨_, rfl⟩
            rw [← hmx] at hmax
            have hlt1 : ¬ 2 * (c : Int) ≤ mx := by rw [hmx]; split <;> omega
            have hfn : T.fst (i + 1 + 1) ≤ 2 * (2 * c) := by rw [T.fst_succ (i + 1) (by omega)]; omega
            have HFN := Lib.hid hfn
            have HHI := Lib.hid hhit
            clear hr hS3 hB3 hO3 hO3' hd3 hR3 HS2 HB2 HO2 HR2 HM2 HN2 HD3 hb hmx hfn hminc hidc hhit
            go_wp2
            go_roundw
            case rel => exact ⟨i + 1, 2 * c, _, p2, by omega, by go_num, by (congr 1; omega), by rw [Nat.pow_succ]; omega, HFN.out, HS3.out, HB3.out, HG2.out, HO3.out, by rw [show 16 - (i + 1) = 15 - i from by omega]; exact HR.out⟩
            case measure => simp [intOf]; omega
        | true =>
          rw [hb] at hbit
          go_wp2
          go_quiet (fail)
          go_upto_region 27 with (fail)
          generalize hw3 : World.setCell (World.setCell _ _ _) _ _ = w3
          have hD3 : DecS b { s2 with n := n, m := s2.m / 2 } w3 := by rw [← hw3]; exact ((HS2.out.dec.drewN _).setN (by omega)).setM (by omega)
          have hO3 : Only [b] wc w3 := by rw [← hw3]; repeat (first | exact Only.refl _ _ | refine Only.drewN ?_ _ | refine Only.setCell ?_ (by simp) _)
          have hS3 : St b rd sa cap src e1 e2 { s2 with n := n, m := s2.m / 2 } p2 w3 := HS2.out.upd hD3 hO3 rfl rfl rfl HS2.out.ij
          clear hw3 hD3 hA hM hN2 hf2 hf3 hbit hmax hor
          have hB3 : BitsOk { s2 with n := n, m := s2.m / 2 } := ⟨by show n ≤ 15; have := HB2.out.n15; omega, half_mask HM2.out, HB2.out.a32⟩
          have hR3 : s2.rem src p2 = true :: DS.rem { s2 with n := n, m := s2.m / 2 } src p2 := by
            unfold DS.rem
            rw [HN2.out, lowbits_succ, hb]; rfl
          have hO3' := HO2.out.trans (hO3.mono (S' := [b, rd]) (by simp))
          have hd3 : T.decode (s.rem src p) = if 2 * c + 1 < T.fst (i + 1) + T.cnt (i + 1) then some (T.sym.getD (T.idx (i + 1) + (2 * c + 1) - T.fst (i + 1)) 0, DS.rem { s2 with n := n, m := s2.m / 2 } src p2) else T.dec (15 - i) (i + 1 + 1) (2 * c + 1) (DS.rem { s2 with n := n, m := s2.m / 2 } src p2) := by
            rw [← HD1.out, ← HR2.out, hR3, show 16 - i = (15 - i) + 1 from by omega, Tab.dec]; rfl
          have HS3 := Lib.hid hS3
          have HB3 := Lib.hid hB3
          have HO3 := Lib.hid hO3'
          have HD3 := Lib.hid hd3
          have hmax := hS3.dec.cG (ho + 529 + i) (by omega) (by omega)
          have hminc := hS3.dec.cG (ho + 513 + i) (by omega) (by omega)
          have hidc := hS3.dec.cG (ho + 545 + i) (by omega) (by omega)
          by_cases hhit : 2 * c + 1 < T.fst (i + 1) + T.cnt (i + 1)
          · have hcn : T.cnt (i + 1) ≠ 0 := by omega
            have hsum := HG.out.sum i hlt
            have hkr := HG.out.kraft i hlt
            have hle := HG.out.le
            have hp2 : 2 ^ (i + 1) ≤ 2 ^ 16 := Nat.pow_le_pow_right (by omega) (by omega)
            obtain ⟨k, hk⟩ : ∃ k, k = T.idx (i + 1) + (2 * c + 1) - T.fst (i + 1) := ⟨_, rfl⟩
            have hcell := hS3.dec.cG (ho + 257 + k) (by omega) (by omega)
            simp only [HG2.out] at hmax hminc hidc hcell
            rw [HG.out.maxC i hlt, if_neg hcn] at hmax
            rw [HG.out.minC i hlt hcn] at hminc
            rw [HG.out.valI i hlt hcn] at hidc
            rw [HG.out.vals k (by omega)] at hcell
            have hr : T.decode (s.rem src p) = some (T.sym.getD k 0, DS.rem { s2 with n := n, m := s2.m / 2 } src p2) := by
              rw [HD3.out, if_pos hhit, hk]
            have HR := Lib.hid hr
            obtain ⟨F, hF⟩ : ∃ F, F = T.fst (i + 1) := ⟨_, rfl⟩
            obtain ⟨C, hC⟩ : ∃ C, C = T.cnt (i + 1) := ⟨_, rfl⟩
            obtain ⟨I, hI⟩ : ∃ I, I = T.idx (i + 1) := ⟨_, rfl⟩
            rw [← hF, ← hC] at hmax
            rw [← hF] at hminc
            rw [← hI] at hidc
            rw [← hF, ← hC] at hhit hkr
            rw [← hI, ← hF] at hk
            rw [← hI, ← hC] at hsum
            rw [← hF] at hf
            have HK := Lib.hid hk
            clear hr hS3 hB3 hO3 hO3' hd3 hR3 HS2 HB2 HO2 HR2 HM2 HN2 HD3 hb hF hC hI hcn
            have hle1 : 2 * (c : Int) + 1 ≤ (F : Int) + (C : Int) - 1 := by omega
            have hwa : IntKind.i32.wrap ((I : Int) + (2 * (c : Int) + 1)) = (I : Int) + (2 * (c : Int) + 1) := IntWalk.i32_in _ (by omega)
            have hwb : IntKind.i32.wrap ((I : Int) + (2 * (c : Int) + 1) - (F : Int)) = (I : Int) + (2 * (c : Int) + 1) - (F : Int) := IntWalk.i32_in _ (by omega)
            have ht1 : ((I : Int) + (2 * (c : Int) + 1) - (F : Int)).toNat = k := by have := HK.out; omega
            have ht2 : (I : Int) + (2 * (c : Int) + 1) - (F : Int) < 256 := by omega
            have ht3 : 0 ≤ (I : Int) + (2 * (c : Int) + 1) - (F : Int) := by omega
            clear hk
            go_wp2
            go_quiet (fail)
            go_wp2
            refine HQ.out _ _ ?_
            rw [HR.out]
            exact ⟨rfl, rfl, _, p2, HS3.out.drewN _, HB3.out, rfl, HG2.out, HO3.out.drewN _⟩
          · have hr : T.dec (15 - i) (i + 1 + 1) (2 * c + 1) (DS.rem { s2 with n := n, m := s2.m / 2 } src p2) = T.decode (s.rem src p) := by
              rw [HD3.out, if_neg hhit]
            have HR := Lib.hid hr
            simp only [HG2.out] at hmax
            rw [HG.out.maxC i hlt] at hmax
            obtain ⟨mx, hmx⟩ : ∃ mx : Int, mx = if T.cnt (i + 1) = 0 then -1 else (T.fst (i + 1) : Int) + T.cnt (i + 1) - 1 := ⟨_, rfl⟩
            rw [← hmx] at hmax
            have hlt1 : ¬ 2 * (c : Int) + 1 ≤ mx := by rw [hmx]; split <;> omega
            have hfn : T.fst (i + 1 + 1) ≤ 2 * (2 * c + 1) := by rw [T.fst_succ (i + 1) (by omega)]; omega
            have HFN := Lib.hid hfn
            have HHI := Lib.hid hhit
            clear hr hS3 hB3 hO3 hO3' hd3 hR3 HS2 HB2 HO2 HR2 HM2 HN2 HD3 hb hmx hfn hminc hidc hhit
            go_wp2
            go_roundw
            case rel => exact ⟨i + 1, 2 * c + 1, _, p2, by omega, by go_num, by (congr 1; omega), by rw [Nat.pow_succ]; omega, HFN.out, HS3.out, HB3.out, HG2.out, HO3.out, by rw [show 16 - (i + 1) = 15 - i from by omega]; exact HR.out⟩
            case measure => simp [intOf]; omega
    · obtain rfl : i = 16 := by omega
      have hN : T.decode (s.rem src p) = none := by rw [← hd1]; rfl
      have HN := Lib.hid hN; clear hN hd1 hS1
      go_wp2
      refine HQ.out _ _ ?_
      rw [HN.out]
      exact ⟨rfl, ⟨_, rfl⟩, hO1⟩
end
end Go.Proofs.YtdjilplpbaackaaDoor
