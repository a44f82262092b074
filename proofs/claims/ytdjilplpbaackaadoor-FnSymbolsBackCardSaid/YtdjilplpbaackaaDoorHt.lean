/-
  The decoder's processDHT. Conditions: St, no bit is held; the segment's tables have the form that Segs says.
-/
import Derived.Test.YtdjilplpbaackaaDoorHb
namespace Go.Proofs.YtdjilplpbaackaaDoor
open Go.RowKit

/-- Where a table's decoder lies. -/
def hoff (c d : Nat) : Nat := 4148 + c * 2244 + d * 561

section
variable {b rd cap p : Nat} {sa : Option Addr} {src : List UInt8} {e1 e2 : Addr} {s : DS} {w : World}

theorem HuffG.congr {g g' : Nat → Value} {ho : Nat} {T : Tab} (h : HuffG g ho T) (hg : ∀ k, ho ≤ k → k < ho + 561 → g' k = g k) : HuffG g' ho T :=
  { n := by rw [hg _ (by omega) (by omega)]; exact h.n, pos := h.pos, le := h.le
    lut := fun c hc => by rw [hg _ (by omega) (by omega)]; exact h.lut c hc
    vals := fun k hk => by have := h.le; rw [hg _ (by omega) (by omega)]; exact h.vals k hk
    maxC := fun i hi => by rw [hg _ (by omega) (by omega)]; exact h.maxC i hi
    minC := fun i hi hc => by rw [hg _ (by omega) (by omega)]; exact h.minC i hi hc
    valI := fun i hi hc => by rw [hg _ (by omega) (by omega)]; exact h.valI i hi hc
    lo := h.lo, hi := h.hi, sum := h.sum, kraft := h.kraft, byte := h.byte }

/-- The decoders of the tables that stand. -/
def Tabs (src : List UInt8) (m : Nat → Nat → Option Nat) (g : Nat → Value) : Prop :=
  ∀ c d q, c ≤ 1 → d ≤ 3 → m c d = some q → HuffG g (hoff c d) (tabAt src q)

set_option maxRecDepth 100000 in
set_option maxHeartbeats 8000000 in
theorem process_dht (h : St b rd sa cap src e1 e2 s p w) (hnu : s.nu = 0) (hpos : s.pos p = 0) (hbase : s.g 4114 = .bool false) {m : Nat → Nat → Option Nat} (hseg : Segs src 0 (fun _ _ => none) m) :
    Calls Tryd.prog 20 #[.pointer (some ⟨b, 0, none⟩), .int .i64 src.length] w fun e w' => e = .returned .nilIface ∧
      ∃ s' p', St b rd sa cap src e1 e2 s' p' w' ∧ s'.a = s.a ∧ s'.m = s.m ∧ s'.n = s.n ∧ Tabs src m s'.g ∧ Only [b, rd] w w' := by
  have HS := Lib.hid h; clear h
  have HU := Lib.hid hnu; clear hnu
  have HP := Lib.hid hpos; clear hpos
  have HB := Lib.hid hbase; clear hbase
  have HSEG := Lib.hid hseg; clear hseg
  go_enter Tryd.func20, Tryd.ntmps20
  go_wp2
  go_loopg [1] src.length (fun k v wr => ∃ (q : Nat) (m1 : Nat → Nat → Option Nat) (s1 : DS) (p1 : Nat), q ≤ src.length ∧ k = src.length - q ∧ v = .int .i64 ((src.length - q : Nat) : Int) ∧ St b rd sa cap src e1 e2 s1 p1 wr ∧ s1.a = s.a ∧ s1.m = s.m ∧ s1.n = s.n ∧ s1.nu = 0 ∧ s1.pos p1 = q ∧
    s1.g 4114 = .bool false ∧ Segs src q m1 m ∧ Tabs src m1 s1.g ∧ Only [b, rd] w wr)
  case atStart => exact ⟨0, _, s, p, by omega, rfl, rfl, HS.out, rfl, rfl, rfl, HU.out, HP.out, HB.out, HSEG.out, (fun _ _ _ _ _ h => by cases h), Only.refl _ _⟩
  case round =>
    obtain ⟨q, m1, s1, p1, hq, hk, rfl, hS1, ha1, hm1, hn1, hu1, hp1, hb1, hg1, ht1, hO1⟩ := hrel
    cases hg1 with
    | done =>
      go_wp2
      go_ret
      exact ⟨rfl, s1, p1, hS1, ha1, hm1, hn1, ht1, hO1⟩
    | more hok hr =>
      obtain ⟨r, hrr⟩ : ∃ r, r = src.length - q := ⟨_, rfl⟩
      rw [← hrr]
      have hlen := hok.len
      have hr17 : 17 ≤ r := by omega
      have HRR := Lib.hid hrr; clear hrr
      have HOK := Lib.hid hok; clear hok
      have HR := Lib.hid hr; clear hr
      have HK := Lib.hid hk; clear hk
      have HS1 := Lib.hid hS1; clear hS1
      have HT1 := Lib.hid ht1; clear ht1
      have HA1 := Lib.hid ha1; clear ha1
      have HM1 := Lib.hid hm1; clear hm1
      have HN1 := Lib.hid hn1; clear hn1
      have HU1 := Lib.hid hu1; clear hu1
      have HP1 := Lib.hid hp1; clear hp1
      have HB1 := Lib.hid hb1; clear hb1
      have HO1 := Lib.hid hO1; clear hO1
      go_wp2_with (fail)
      refine (read_full HS1.out HU1.out 8892 17 128 (by omega) (by omega) (by omega) (by omega) (by omega) (by rw [HP1.out]; omega)).mono ?_
      rintro e w2 ⟨rfl, s2, p2, hF2⟩
      rw [HP1.out] at hF2
      have hG2 : ∀ k, k < 17 → s2.g (8892 + k) = .int .u8 (byteAt src (q + k)) := by
        intro k hk
        rw [hF2.g]; unfold putG
        rw [if_pos (by omega), show q + (8892 + k - 8892) = q + k from by omega]; rfl
      have hE2 : ∀ k, ¬ (8892 ≤ k ∧ k < 8909) → s2.g k = s1.g k := by
        intro k hk; rw [hF2.g]; unfold putG; rw [if_neg (by omega)]
      have ht0 := hF2.st.dec.cG 8892 (by omega) (by omega)
      have hbl := hF2.st.dec.cG 4114 (by omega) (by omega)
      have hB0 := hG2 0 (by omega)
      simp only [Nat.add_zero] at hB0
      rw [hB0] at ht0
      rw [hE2 4114 (by omega), HB1.out] at hbl
      obtain ⟨B, hBB⟩ : ∃ B, B = byteAt src q := ⟨_, rfl⟩
      have hB256 := byteAt_lt src q
      have hcl := HOK.out.cls
      have hds := HOK.out.dst
      rw [← hBB] at ht0 hB256 hcl hds
      have HBB := Lib.hid hBB; clear hBB
      obtain ⟨C, hC⟩ : ∃ C, C = B / 16 := ⟨_, rfl⟩
      obtain ⟨D, hD⟩ : ∃ D, D = B % 16 := ⟨_, rfl⟩
      rw [← hC] at hcl
      rw [← hD] at hds
      have hand15 : bits .and .u8 (B : Int) 15 = (D : Int) := by rw [u8_and15 _ (by omega) (by omega)]; omega
      have hshr4 : (B : Int) / 16 = (C : Int) := by omega
      have HC := Lib.hid hC; clear hC
      have HD := Lib.hid hD; clear hD
      have HG2 := Lib.hid hG2; clear hG2
      have HE2 := Lib.hid hE2; clear hE2
      have HF2 := Lib.hid hF2; clear hF2
      clear hB0
      go_upto_region 13 with (fail)
      rename_i K hK
      have HKK := Lib.hid hK; clear hK
      go_wp2
      (try simp only [Exit.then])
      refine HKK.out _ _ ?_
      have hok := HOK.out
      obtain ⟨ho, hho⟩ : ∃ ho, ho = 4148 + C * 2244 + D * 561 := ⟨_, rfl⟩
      rw [← hho]
      have hcr : r = src.length - q := HRR.out
      refine dht_table (q := q) (r := r) (ho := ho) (s := s2) (p := p2) HF2.out.st HF2.out.nu HF2.out.pos hok hcr HG2.out (by omega) (by omega) _ ?_
      intro z4 z9 z10 z11 z12 z13 z14 z15 z16 z17 z18 z19 z20 z21 z22 z72 z73 z74 z75 z76 z77 z78 z79 z80 z81 z82 z83 z84 z85 z86 z87 z88 z89 z90 z91 z92 z93 z94 z95 z96 z97 z98 z99 z100 z101 z102 z103 z104 z105 z106 z107 z108 z109 z110 z111 z112 z113 z114 z115 z116 z117 z118 z119 z120 z121 z122 z123 z124 z125 z126 z127 z128 z129 z130 z131 z132 z133 z134 z135 z136 z137 z138 z139 z140 z141 z142 z143 z144 z145 z146 z147 z148 z149 z150 z151 z152 z153 z154 z155 z156 z157 z158 z159 z160 z161 z162 z163 z164 z165 z166 z167 z168 z169 z170 z171 z172 z173 z174 z175 z176 z177 z178 z179 z180 z181 z182 z183 z184 z185 z186 z187 z188 z189 z190 z191 z192 z193 z194 z195 z196 z197 z198 z199 z200 z201 z202 z203 z204 z205 z206 z207 z208 z209 z210 z211 z212 z213 z214 z215 z216 z217 z218 z219 z220 z221 z222 z223 z224 z225 z226 z227 z228 z229 z230 z231 z232 z233 z234 z235 z236 z237 z238 z239 w3 s3 p3 hS3 ha3 hm3 hn3 hu3 hp3 hH3 hg3 hO3
      have hG3 : ∀ k, ¬ (ho ≤ k ∧ k < ho + 561) → ¬ (8892 ≤ k ∧ k < 8909) → s3.g k = s1.g k := fun k h1 h2 => (hg3 k h1).trans (HE2.out k h2)
      have hCB : C = byteAt src q / 16 := by rw [HC.out, HBB.out]
      have hDB : D = byteAt src q % 16 := by rw [HD.out, HBB.out]
      have hT3 : Tabs src (fun c d => if c = byteAt src q / 16 ∧ d = byteAt src q % 16 then some q else m1 c d) s3.g := by
        intro c d q' hc hd hm
        rw [← hCB, ← hDB] at hm
        have hm : (if c = C ∧ d = D then some q else m1 c d) = some q' := hm
        by_cases hcd : c = C ∧ d = D
        · rw [if_pos hcd] at hm
          cases hm
          obtain ⟨rfl, rfl⟩ := hcd
          have : hoff c d = ho := hho.symm
          rw [this]; exact hH3
        · rw [if_neg hcd] at hm
          have hold := HT1.out c d q' hc hd hm
          have hdis : hoff c d + 561 ≤ ho ∨ ho + 561 ≤ hoff c d := by
            unfold hoff; omega
          have hlo := hold.lo
          have hhi := hold.hi
          refine hold.congr fun k h1 h2 => hG3 k (by omega) (by omega)
      have HT3 := Lib.hid hT3
      have HS3 := Lib.hid hS3
      have hO3' := (HO1.out.trans HF2.out.only).trans hO3
      have HO3 := Lib.hid hO3'
      have HX := Lib.hid (show s3.a = s.a ∧ s3.m = s.m ∧ s3.n = s.n ∧ s3.nu = 0 ∧ s3.pos p3 = q + 17 + totalAt src q ∧ s3.g 4114 = .bool false from
        ⟨ha3.trans (HF2.out.a.trans HA1.out), hm3.trans (HF2.out.m.trans HM1.out), hn3.trans (HF2.out.n.trans HN1.out), hu3, hp3, by rw [hG3 4114 (by omega) (by omega)]; exact HB1.out⟩)
      clear hT3 hS3 hO3' ha3 hm3 hn3 hu3 hp3 hH3 hg3 hG3 hO3
      go_wp2
      go_roundg (src.length - (q + 17 + totalAt src q))
      case measure => have := HK.out; omega
      case rel => exact ⟨q + 17 + totalAt src q, _, s3, p3, hlen, rfl, by rw [hcr, show src.length - q - (17 + totalAt src q) = src.length - (q + 17 + totalAt src q) from by omega], HS3.out, HX.out.1, HX.out.2.1, HX.out.2.2.1, HX.out.2.2.2.1, HX.out.2.2.2.2.1, HX.out.2.2.2.2.2, HR.out, HT3.out, HO3.out⟩
end
end Go.Proofs.YtdjilplpbaackaaDoor
