/-
  processDHT, from the place on where it knows which table it reads. Conditions: St; the table has the form that DhtOk says.
-/
import Derived.Test.YtdjilplpbaackaaDoorLm
import Derived.Test.YtdjilplpbaackaaDoorDe
import Derived.Test.YtdjilplpbaackaaDoorPa
import Derived.Test.YtdjilplpbaackaaDoorCl
namespace Go.Proofs.YtdjilplpbaackaaDoor
open Go.RowKit

/-- The sequence that begins with a region, in a code. -/
def findSeq (n : Nat) : Code → Option Code
  | .seq (.region i ops d) c => if i = n then some (.seq (.region i ops d) c) else findSeq n c
  | .seq a b => match findSeq n a with
    | some c => some c
    | none => findSeq n b
  | .block _ c => findSeq n c
  | .loop c => findSeq n c
  | .cond _ a b => match findSeq n a with
    | some c => some c
    | none => findSeq n b
  | .scope c => findSeq n c
  | _ => none
noncomputable def dhtSeq (n : Nat) : Code := ((Tryd.f20.body.bind (findSeq n)).getD .skip)

theorem ncs_new (w : World) {cb : Nat} (h : cb = w.heap.size) : NcS cb (fun _ => 0) (w.alloc (.cells #[Value.int IntKind.i32 0, Value.int IntKind.i32 0, Value.int IntKind.i32 0, Value.int IntKind.i32 0,
    Value.int IntKind.i32 0, Value.int IntKind.i32 0, Value.int IntKind.i32 0, Value.int IntKind.i32 0, Value.int IntKind.i32 0, Value.int IntKind.i32 0, Value.int IntKind.i32 0, Value.int IntKind.i32 0,
    Value.int IntKind.i32 0, Value.int IntKind.i32 0, Value.int IntKind.i32 0, Value.int IntKind.i32 0] 90)) := by
  subst h
  refine ⟨Array.replicate 16 (.int .i32 0), heap_alloc_new w _, by simp, fun k hk => ?_⟩
  rw [Array.getElem?_replicate, if_pos hk]; rfl

section
variable {b rd cap p q r ho : Nat} {sa : Option Addr} {src : List UInt8} {e1 e2 : Addr} {s : DS} {w : World}

set_option maxRecDepth 100000 in
set_option maxHeartbeats 8000000 in
theorem dht_table {x2 x3 x4 x5 x6 x7 x9 x10 x11 x12 x13 x14 x15 x16 x17 x18 x19 x20 x21 x22 x23 x24 x25 x26 x27 x28 x29 x30 x31 x32 x33 x34 x35 x36 x37 x38 x39 x40 x41 x42 x43 x44 x45 x46 x47 x48 x49 x50 x51 x52 x53 x54 x55 x56 x57 x58 x59 x60 x61 x62 x63 x64 x65 x66 x67 x68 x69 x70 x71 x72 x73 x74 x75 x76 x77 x78 x79 x80 x81 x82 x83 x84 x85 x86 x87 x88 x89 x90 x91 x92 x93 x94 x95 x96 x97 x98 x99 x100 x101 x102 x103 x104 x105 x106 x107 x108 x109 x110 x111 x112 x113 x114 x115 x116 x117 x118 x119 x120 x121 x122 x123 x124 x125 x126 x127 x128 x129 x130 x131 x132 x133 x134 x135 x136 x137 x138 x139 x140 x141 x142 x143 x144 x145 x146 x147 x148 x149 x150 x151 x152 x153 x154 x155 x156 x157 x158 x159 x160 x161 x162 x163 x164 x165 x166 x167 x168 x169 x170 x171 x172 x173 x174 x175 x176 x177 x178 x179 x180 x181 x182 x183 x184 x185 x186 x187 x188 x189 x190 x191 x192 x193 x194 x195 x196 x197 x198 x199 x200 x201 x202 x203 x204 x205 x206 x207 x208 x209 x210 x211 x212 x213 x214 x215 x216 x217 x218 x219 x220 x221 x222 x223 x224 x225 x226 x227 x228 x229 x230 x231 x232 x233 x234 x235 x236 x237 x238 x239 : Value} (h : St b rd sa cap src e1 e2 s p w) (hnu : s.nu = 0) (hpos : s.pos p = q + 17) (hok : DhtOk src q) (hr : r = src.length - q) (htmp : ∀ k, k < 17 → s.g (8892 + k) = .int .u8 (byteAt src (q + k))) (hlo : 4148 ≤ ho) (hhi : ho + 561 ≤ 8636)
    (Q : Exit → Act → World → Prop)
    (hQ : ∀ (u4 u9 u10 u11 u12 u13 u14 u15 u16 u17 u18 u19 u20 u21 u22 u72 u73 u74 u75 u76 u77 u78 u79 u80 u81 u82 u83 u84 u85 u86 u87 u88 u89 u90 u91 u92 u93 u94 u95 u96 u97 u98 u99 u100 u101 u102 u103 u104 u105 u106 u107 u108 u109 u110 u111 u112 u113 u114 u115 u116 u117 u118 u119 u120 u121 u122 u123 u124 u125 u126 u127 u128 u129 u130 u131 u132 u133 u134 u135 u136 u137 u138 u139 u140 u141 u142 u143 u144 u145 u146 u147 u148 u149 u150 u151 u152 u153 u154 u155 u156 u157 u158 u159 u160 u161 u162 u163 u164 u165 u166 u167 u168 u169 u170 u171 u172 u173 u174 u175 u176 u177 u178 u179 u180 u181 u182 u183 u184 u185 u186 u187 u188 u189 u190 u191 u192 u193 u194 u195 u196 u197 u198 u199 u200 u201 u202 u203 u204 u205 u206 u207 u208 u209 u210 u211 u212 u213 u214 u215 u216 u217 u218 u219 u220 u221 u222 u223 u224 u225 u226 u227 u228 u229 u230 u231 u232 u233 u234 u235 u236 u237 u238 u239 : Value) (w' : World) (s' : DS) (p' : Nat), St b rd sa cap src e1 e2 s' p' w' → s'.a = s.a → s'.m = s.m → s'.n = s.n → s'.nu = 0 → s'.pos p' = q + 17 + totalAt src q → HuffG s'.g ho (tabAt src q) → (∀ k, ¬ (ho ≤ k ∧ k < ho + 561) → s'.g k = s.g k) → Only [b, rd] w w' →
      Q .normal { tmps := #[.pointer (some ⟨b, 0, none⟩), .int .i64 ((r - (17 + totalAt src q) : Nat) : Int), x2, x3, u4, x5, x6, x7, .pointer (some ⟨b, ho, none⟩), u9, u10, u11, u12, u13, u14, u15, u16, u17, u18, u19, u20, u21, u22, x23, x24, x25, x26, x27, x28, x29, x30, x31, x32, x33, x34, x35, x36, x37, x38, x39, x40, x41, x42, x43, x44, x45, x46, x47, x48, x49, x50, x51, x52, x53, x54, x55, x56, x57, x58, x59, x60, x61, x62, x63, x64, x65, x66, x67, x68, x69, x70, x71, u72, u73, u74, u75, u76, u77, u78, u79, u80, u81, u82, u83, u84, u85, u86, u87, u88, u89, u90, u91, u92, u93, u94, u95, u96, u97, u98, u99, u100, u101, u102, u103, u104, u105, u106, u107, u108, u109, u110, u111, u112, u113, u114, u115, u116, u117, u118, u119, u120, u121, u122, u123, u124, u125, u126, u127, u128, u129, u130, u131, u132, u133, u134, u135, u136, u137, u138, u139, u140, u141, u142, u143, u144, u145, u146, u147, u148, u149, u150, u151, u152, u153, u154, u155, u156, u157, u158, u159, u160, u161, u162, u163, u164, u165, u166, u167, u168, u169, u170, u171, u172, u173, u174, u175, u176, u177, u178, u179, u180, u181, u182, u183, u184, u185, u186, u187, u188, u189, u190, u191, u192, u193, u194, u195, u196, u197, u198, u199, u200, u201, u202, u203, u204, u205, u206, u207, u208, u209, u210, u211, u212, u213, u214, u215, u216, u217, u218, u219, u220, u221, u222, u223, u224, u225, u226, u227, u228, u229, u230, u231, u232, u233, u234, u235, u236, u237, u238, u239], defers := [] } w') :
    (dhtSeq 14).wp Tryd.prog Q { tmps := #[.pointer (some ⟨b, 0, none⟩), .int .i64 r, x2, x3, x4, x5, x6, x7, .pointer (some ⟨b, ho, none⟩), x9, x10, x11, x12, x13, x14, x15, x16, x17, x18, x19, x20, x21, x22, x23, x24, x25, x26, x27, x28, x29, x30, x31, x32, x33, x34, x35, x36, x37, x38, x39, x40, x41, x42, x43, x44, x45, x46, x47, x48, x49, x50, x51, x52, x53, x54, x55, x56, x57, x58, x59, x60, x61, x62, x63, x64, x65, x66, x67, x68, x69, x70, x71, x72, x73, x74, x75, x76, x77, x78, x79, x80, x81, x82, x83, x84, x85, x86, x87, x88, x89, x90, x91, x92, x93, x94, x95, x96, x97, x98, x99, x100, x101, x102, x103, x104, x105, x106, x107, x108, x109, x110, x111, x112, x113, x114, x115, x116, x117, x118, x119, x120, x121, x122, x123, x124, x125, x126, x127, x128, x129, x130, x131, x132, x133, x134, x135, x136, x137, x138, x139, x140, x141, x142, x143, x144, x145, x146, x147, x148, x149, x150, x151, x152, x153, x154, x155, x156, x157, x158, x159, x160, x161, x162, x163, x164, x165, x166, x167, x168, x169, x170, x171, x172, x173, x174, x175, x176, x177, x178, x179, x180, x181, x182, x183, x184, x185, x186, x187, x188, x189, x190, x191, x192, x193, x194, x195, x196, x197, x198, x199, x200, x201, x202, x203, x204, x205, x206, x207, x208, x209, x210, x211, x212, x213, x214, x215, x216, x217, x218, x219, x220, x221, x222, x223, x224, x225, x226, x227, x228, x229, x230, x231, x232, x233, x234, x235, x236, x237, x238, x239], defers := [] } w := by
  conv => arg 2; whnf
  dsimp only
  have HQ := Lib.hid hQ; clear hQ
  have hlen := hok.len
  have htot := hok.pos
  have hle := hok.le
  have hnc := h.dec.cG ho (by omega) (by omega)
  have hfh := h.dec.frozen ho
  have HS := Lib.hid h; clear h
  have HNU := Lib.hid hnu; clear hnu
  have HPOS := Lib.hid hpos; clear hpos
  have HOK := Lib.hid hok; clear hok
  have HTMP := Lib.hid htmp; clear htmp
  have hr1 : (r : Int) ≤ 1000000000000 := by have := HS.out.hlen; omega
  have HR := Lib.hid hr; clear hr
  go_upto_block 2 with (fail)
  clear hnc hfh
  generalize hw1 : World.alloc _ _ = w1
  obtain ⟨cb, hcbe⟩ : ∃ cb, cb = w.heap.size := ⟨_, rfl⟩
  rw [← hcbe]
  have hbl := HS.out.dec.lt
  have hrl := HS.out.rdr.lt
  have hD0 : DecS b { s with g := headG s.g ho 0 } (w.setCell ⟨b, ho, none⟩ (.int .i32 0)) := HS.out.dec.setG (by omega)
  have hO0 : Only [b] w (w.setCell ⟨b, ho, none⟩ (.int .i32 0)) := (Only.refl _ _).setCell (by simp) _
  have hD1 : DecS b { s with g := headG s.g ho 0 } w1 := by
    rw [← hw1]; exact hD0.only (S := []) ((Only.refl _ _).alloc _) (by simp)
  have hO1 : Only [b] w w1 := by rw [← hw1]; exact hO0.alloc _
  have hN1 : NcS cb (fun _ => 0) w1 := by
    rw [← hw1, hcbe]; exact ncs_new _ (by simp)
  clear hw1 hD0 hO0
  have hcb : cb ≠ b := by omega
  have hcr : cb ≠ rd := by omega
  have hT : tabAt src q = tabAt src q := rfl
  have hc255 : ∀ i, i < 16 → (tabAt src q).cnt (i + 1) ≤ 255 := fun i _ => tabAt_cnt src q (i + 1)
  have hsum : ∀ i, i ≤ 16 → (tabAt src q).idx (i + 1) ≤ 5000 := fun i hi => by have := (tabAt src q).idx_le (tabAt_cnt src q) (i + 1); omega
  have HO1 := Lib.hid hO1; clear hO1
  have HCB := Lib.hid hcbe
  have hcbn : w.heap.size ≤ cb := by omega
  clear hcbe
  refine cBlock (b := b) (ho := ho) (cb := cb) (T := tabAt src q) (g0 := s.g) (s := s) (w := w1) hD1 hN1 hlo hhi hcb (fun i hi => HTMP.out (i + 1) (by omega)) hc255 hsum _ ?_
  intro z10 z75 z76 z77 z78 z79 z80 z81 z82 z83 z84 z85 z86 z87 z88 z89 z90 z91 z92 z93 z94 z95 z96 z97 z98 w2 hD2 hN2 hO2
  rw [tabAt_total] at hD2
  have hS2 : St b rd sa cap src e1 e2 { s with g := headG s.g ho (totalAt src q) } p w2 := by
    have hO := HO1.out.andThen hO2 (S' := [b, cb]) (by simp; omega)
    exact HS.out.updG hD2 hO (by show headG s.g ho _ 0 = _; unfold headG; rw [if_neg (by omega)]) rfl rfl HS.out.ij
  have hO2' : Only [b] w w2 := HO1.out.andThen hO2 (S' := [b, cb]) (by simp; omega)
  obtain ⟨t, ht⟩ : ∃ t, t = totalAt src q := ⟨_, rfl⟩
  rw [← ht] at hS2 hlen htot hle
  have hnc : w2.cell? ⟨b, ho, none⟩ = some (.int .i32 t) := by
    have := hS2.dec.cG ho (by omega) (by omega)
    simpa [headG] using this
  have HT := Lib.hid ht; clear ht
  have HS2 := Lib.hid hS2; clear hS2 hD2
  have HN2 := Lib.hid hN2; clear hN2 hN1 hD1
  have HO2 := Lib.hid hO2'; clear hO2' hO2
  have HC := Lib.hid hc255; clear hc255
  have HSUM := Lib.hid hsum; clear hsum hT
  have ht0 : ((t : Int) == 0) = false := by simp only [beq_eq_false_iff_ne]; omega
  have htr : t + 17 ≤ r := by have := HR.out; omega
  go_upto_region 29 with (fail)
  refine wp_region_still_tail 9 (by kernel_rfl) (by kernel_rfl) ?_
  change wpStill _ _ (World.drew _) (fun a' => wpList _ _ _ _ a' (World.drew _)) _ _
  simp only [List.take_succ_cons, List.take_zero, List.drop_succ_cons, List.drop_zero]
  repeat still_step
  refine wpStill_nil ?_
  go_wp2_with (fail)
  have hp2 : DS.pos { s with g := headG s.g ho t } p = q + 17 := HPOS.out
  refine (read_full (s := { s with g := headG s.g ho t }) (HS2.out.drewN 1) HNU.out (ho + 257) t 256 (by omega) (by omega) (by omega) (by omega) (by omega) (by rw [hp2]; omega)).mono ?_
  rintro e w3 ⟨rfl, s3, p3, hF3⟩
  rw [hp2] at hF3
  have HF3 := Lib.hid hF3; clear hF3 hp2
  clear hnc ht0
  go_upto_region 32 with (fail)
  obtain ⟨s4, hs4⟩ : ∃ s4 : DS, s4 = { s3 with g := lutG s3.g ho (tabAt src q) 0 } := ⟨_, rfl⟩
  have h4at : ∀ k, k < 9020 → s4.at k = if ho + 1 ≤ k ∧ k < ho + 1 + 256 then .int .u16 0 else s3.at k := by
    intro k hk
    rw [hs4]
    by_cases hin : ho + 1 ≤ k ∧ k < ho + 1 + 256
    · rw [if_pos hin, DecS.at_g _ _ (by omega)]
      show lutG s3.g ho (tabAt src q) 0 k = _
      unfold lutG
      rw [if_pos (by omega), if_neg (by omega)]
    · rw [if_neg hin]
      unfold DS.at
      have : lutG s3.g ho (tabAt src q) 0 k = s3.g k := by unfold lutG; rw [if_neg (by omega)]
      simp only [this]
  have HS4 := Lib.hid hs4; clear hs4
  have H4A := Lib.hid h4at; clear h4at
  go_wp2_with (with_reducible refine wpList_clear_dec (s' := s4) HF3.out.st.dec rfl (.tmp 138) 136 rfl rfl 82 (ho + 1) 256 256 (.int .u16 0) rfl Tryd.underlying136 (Tryd.zeroValue82 _) rfl rfl (by decide) (by omega) H4A.out ?_)
  intro w4 hD4 hO4
  rw [HS4.out] at hD4
  have HD4 := Lib.hid hD4; clear hD4
  have HO4 := Lib.hid hO4; clear hO4
  go_upto_block 4 with (fail)
  have hlent : q + 17 + totalAt src q ≤ src.length := HOK.out.len
  have hsl : (tabAt src q).sym.length = t := by rw [tabAt_length src q hlent]; exact HT.out.symm
  have hN4 : NcS cb (fun k => (tabAt src q).cnt (k + 1)) w4 := (HN2.out.only HF3.out.only.of_drew (by simp; omega)).only HO4.out (by simpa using hcb)
  have hsumN : ∀ i, i < 16 → (tabAt src q).idx (i + 1) + (tabAt src q).cnt (i + 1) ≤ (tabAt src q).sym.length := by
    intro i hi
    rw [← Tab.idx_succ _ (i + 1) (by omega), hsl, HT.out, ← tabAt_total]
    exact Tab.idx_mono _ (by omega)
  have hvals : ∀ k, k < (tabAt src q).sym.length → s3.g (ho + 257 + k) = .int .u8 ((tabAt src q).sym.getD k 0) := by
    intro k hk
    rw [hsl] at hk
    rw [HF3.out.g]
    unfold putG
    rw [if_pos (by omega), show q + 17 + (ho + 257 + k - (ho + 257)) = q + 17 + k from by omega, tabAt_sym src q k hlent (by rw [← HT.out]; exact hk)]
    rfl
  have HN4 := Lib.hid hN4; clear hN4
  have HSN := Lib.hid hsumN; clear hsumN
  have HV := Lib.hid hvals; clear hvals
  have HSL := Lib.hid hsl; clear hsl
  refine iBlock (b := b) (ho := ho) (cb := cb) (T := tabAt src q) (g0 := s3.g) (s := s3) (w := w4) HD4.out hlo hhi (fun i hi => HN4.out.cell i hi) hcb HC.out HOK.out.kraft HSN.out (by rw [HSL.out]; exact hle) HV.out (tabAt_byte src q) _ ?_
  intro z12 z13 z14 z15 z16 z17 z18 z139 z140 z141 z142 z143 z144 z145 z146 z147 z148 z149 z150 z151 z152 z153 z154 z155 z156 z157 z158 z159 z160 z161 z162 z163 z164 z165 z166 z167 z168 z169 z170 z171 z172 z173 z174 z175 z176 z177 z178 z179 z180 z181 z182 z183 z184 z185 z186 z187 w5 hD5 hO5
  have hN5 := HN4.out.only hO5 (by simpa using hcb)
  obtain ⟨A, hA1, hA2, hA3⟩ := hN5
  have HD5 := Lib.hid hD5; clear hD5
  have HO5 := Lib.hid hO5; clear hO5
  have hsz90 : (Tryd.prog.info? 90).map (·.size) = some A.size := by rw [hA2]; kernel_rfl
  have HSZ := Lib.hid hsz90; clear hsz90
  have HA1 := Lib.hid hA1; clear hA1
  have HA2 := Lib.hid hA2; clear hA2
  have HA3 := Lib.hid hA3; clear hA3
  go_upto_block 10 with (with_reducible refine wpList_load_row rfl 90 (.tmp 9) rfl cb rfl 90 A (0, 0) _ HA1.out Tryd.underlying90 rfl HSZ.out ?_)
  refine mBlock (b := b) (ho := ho) (T := tabAt src q) (A := A) (g0 := lutG s3.g ho (tabAt src q) ((tabAt src q).past 8)) (s := s3) (w := w5) HD5.out hlo hhi HA3.out HC.out HOK.out.kraft HSUM.out _ ?_
  intro z19 z20 z21 z22 z189 z190 z191 z192 z193 z194 z195 z196 z197 z198 z199 z200 z201 z202 z203 z204 z205 z206 z207 z208 z209 z210 z211 z212 z213 z214 z215 z216 z217 z218 z219 z220 z221 z222 z223 z224 z225 z226 z227 z228 z229 z230 z231 z232 z233 z234 z235 z236 z237 z238 z239 w6 g1 hD6 hM6 hO6
  have hO36 : Only [b] w3 w6 := (HO4.out.trans HO5.out).trans hO6
  have hg1 : ∀ k, ¬ (ho + 513 ≤ k ∧ k < ho + 561) → ¬ (ho + 1 ≤ k ∧ k < ho + 257) → g1 k = s3.g k := by
    intro k h1 h2
    rw [hM6.rest k h1]; unfold lutG; rw [if_neg h2]
  have hg3 : ∀ k, ¬ (ho + 257 ≤ k ∧ k < ho + 257 + t) → s3.g k = headG s.g ho t k := by
    intro k hk
    rw [HF3.out.g]; unfold putG; rw [if_neg hk]
  have hS6 : St b rd sa cap src e1 e2 { s3 with g := g1 } p3 w6 :=
    HF3.out.st.updG hD6 hO36 (by show g1 0 = s3.g 0; exact hg1 0 (by omega) (by omega)) rfl rfl HF3.out.st.ij
  have hH : HuffG g1 ho (tabAt src q) := by
    refine { n := ?_, pos := by rw [HSL.out]; omega, le := by rw [HSL.out]; exact hle, lut := fun c hc => ?_, vals := fun k hk => ?_, maxC := hM6.maxC, minC := hM6.minC, valI := hM6.valI, lo := hlo, hi := hhi, sum := HSN.out, kraft := HOK.out.kraft, byte := tabAt_byte src q }
    · rw [hg1 ho (by omega) (by omega), hg3 ho (by omega), HSL.out]
      unfold headG; rw [if_pos rfl]
    · rw [hM6.rest _ (by omega)]; exact lutG_all _ _ _ c hc
    · have hk' := hk
      rw [HSL.out] at hk'
      rw [hg1 _ (by omega) (by omega)]; exact HV.out k hk
  have hfin := HQ.out
  rw [show r - (17 + totalAt src q) = r - (t + 17) from by rw [HT.out]; omega] at hfin
  have hcast : ((r - (t + 17) : Nat) : Int) = (r : Int) - ((t : Int) + 17) := by omega
  rw [hcast] at hfin
  exact hfin _ _ _ _ _ _ _ _ _ _ _ _ _ _ _ _ _ _ _ _ _ _ _ _ _ _ _ _ _ _ _ _ _ _ _ _ _ _ _ _ _ _ _ _ _ _ _ _ _ _ _ _ _ _ _ _ _ _ _ _ _ _ _ _ _ _ _ _ _ _ _ _ _ _ _ _ _ _ _ _ _ _ _ _ _ _ _ _ _ _ _ _ _ _ _ _ _ _ _ _ _ _ _ _ _ _ _ _ _ _ _ _ _ _ _ _ _ _ _ _ _ _ _ _ _ _ _ _ _ _ _ _ _ _ _ _ _ _ _ _ _ _ _ _ _ _ _ _ _ _ _ _ _ _ _ _ _ _ _ _ _ _ _ _ _ _ _ _ _ _ _ _ _ _ _ _ _ _ _ _ _ _ _ w6 { s3 with g := g1 } p3 hS6 HF3.out.a HF3.out.m HF3.out.n HF3.out.nu (by rw [← HT.out]; exact HF3.out.pos) hH (fun k hk => by
    show g1 k = s.g k
    rw [hg1 k (by omega) (by omega), hg3 k (by omega)]
    unfold headG; rw [if_neg (by omega)]) (((HO2.out.mono (by simp)).trans HF3.out.only.of_drew).trans (hO36.mono (by simp)))
end
end Go.Proofs.YtdjilplpbaackaaDoor
