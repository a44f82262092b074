/-
  encoder.writeByte and encoder.emit: bits are put into a buffer, stuffed. Conditions: the encoder and its buffer are the call's own.
-/
import Derived.Test.YtdjilplpbaackaaDoorBase
import Derived.Test.YtdjilplpbaackaaDoorBy
import Derived.Test.YtdjilplpbaackaaDoorPb
import Derived.Below
namespace Go.Proofs.YtdjilplpbaackaaDoor
open Go.RowKit

/-- An encoder in block E, its buffer in block b. -/
structure EncB (E b base : Nat) (bs : List Value) (X n : Nat) (w : World) : Prop where
  buf : Lib.IsBuffer 120 5 base b bs w
  cw : w.cell? ⟨E, 0, none⟩ = some (.iface 123 (.agg #[.pointer (some ⟨b, 0, none⟩)]))
  cerr : w.cell? ⟨E, 1, none⟩ = some .nilIface
  cX : w.cell? ⟨E, 18, none⟩ = some (.int .u32 X)
  cn : w.cell? ⟨E, 19, none⟩ = some (.int .u32 n)
  row : ∃ cs, w.heap[E]? = some (.cells cs 130 (0, 0))
  hE : base ≤ E
  hb : base ≤ w.heap.size
  one : ∀ v ∈ bs, v.oneCell' = true

theorem isBuffer_set {B b E x : Nat} {bs : List Value} {w : World} {v : Value} (h : Lib.IsBuffer 120 5 B b bs w) (hE : ∃ cs, w.heap[E]? = some (.cells cs 130 (0, 0))) :
    Lib.IsBuffer 120 5 B b bs (w.setCell ⟨E, x, none⟩ v) := by
  obtain ⟨cs, hE⟩ := hE
  obtain ⟨hB, u, lr, hbk, hown, hne⟩ := h
  have hbE : b ≠ E := by rintro rfl; rw [hE] at hbk; cases hbk
  refine ⟨hB, u, lr, ?_, ⟨hown.1, ?_⟩, hne⟩
  · rw [Below.heap_setCell _ _ _ _ (by exact hbE)]; exact hbk
  · rcases hown.2 with h0 | ⟨g, cap, cur, rfl, hBg, hg, r⟩
    · exact .inl h0
    · have hgE : g ≠ E := by rintro rfl; rw [hE] at hg; cases hg
      exact .inr ⟨g, cap, cur, rfl, hBg, by rw [Below.heap_setCell _ _ _ _ (by exact hgE)]; exact hg, r⟩

theorem cell_set_ne (w : World) (a b : Addr) (v : Value) (h : a ≠ b) : (w.setCell a v).cell? b = w.cell? b := by
  exact World.cell?_setCell_other _ _ _ _ h
section
variable {E b base X n : Nat} {bs : List Value} {w : World}
theorem EncB.lt (h : EncB E b base bs X n w) : E < w.heap.size := World.block_lt_of_cell? _ _ h.cw
theorem EncB.frozen (h : EncB E b base bs X n w) (k : Nat) : w.frozen? ⟨E, k, none⟩ = false := by
  obtain ⟨cs, hc⟩ := h.row
  exact frozen_of_row _ _ k _ _ hc
theorem row_set {k : Nat} {v : Value} (h : ∃ cs, w.heap[E]? = some (.cells cs 130 (0, 0))) : ∃ cs, (w.setCell ⟨E, k, none⟩ v).heap[E]? = some (.cells cs 130 (0, 0)) := by
  obtain ⟨cs, hc⟩ := h
  exact ⟨_, Lib.heap_setCell_same hc v⟩

set_option maxRecDepth 100000 in
set_option maxHeartbeats 1000000 in
theorem write_byte (h : EncB E b base bs X n w) (c : Nat) (hlim : bs.length + 1 ≤ 140737488355328) :
    Calls Tryd.prog 36 #[.pointer (some ⟨E, 0, none⟩), .int .u8 c] w fun e w' => e = .returned (.tuple #[]) ∧ EncB E b base (bs ++ [.int .u8 c]) X n w' ∧ Below base w w' := by
  have h1 := h.cw
  have h2 := h.cerr
  have h3 := h.frozen 1
  have H := Lib.hid h; clear h
  go_enter Tryd.func36, Tryd.ntmps36
  go_wp2_with (fail)
  refine (buffer_WriteByte_k base b bs c w H.out.buf H.out.hb H.out.one hlim).mono ?_
  rintro e w1 ⟨rfl, hb1, hbel, hot⟩
  obtain ⟨cs, hrow⟩ := H.out.row
  have hbE : some E ≠ some b := by
    rintro h
    cases h
    obtain ⟨_, u, lr, hbk, _⟩ := H.out.buf
    rw [hrow] at hbk; cases hbk
  have hE1 := hot E _ hrow hbE (by intro c fz h; cases h)
  have hcell : ∀ k v, w.cell? ⟨E, k, none⟩ = some v → w1.cell? ⟨E, k, none⟩ = some v := fun k v hk => by
    rw [cell_of_row _ _ k _ _ _ hE1]; rw [cell_of_row _ _ k _ _ _ hrow] at hk; exact hk
  have h1' := hcell _ _ h1
  have h2' := hcell _ _ h2
  have h3' : w1.frozen? ⟨E, 1, none⟩ = false := frozen_of_row _ _ 1 _ _ hE1
  have HB1 := Lib.hid hb1; clear hb1
  have HBEL := Lib.hid hbel; clear hbel
  have HE1 := Lib.hid hE1; clear hE1 hot hrow hbE
  have HC := Lib.hid hcell; clear hcell h1 h2 h3
  go_wp2
  go_end0
  refine ⟨rfl, ⟨isBuffer_set HB1.out ⟨_, HE1.out⟩, ?_, ?_, ?_, ?_, row_set ⟨_, HE1.out⟩, H.out.hE, ?_, ?_⟩, HBEL.out.setCell H.out.hE _⟩
  · rw [cell_set_ne _ _ _ _ (by simp)]; exact h1'
  · exact World.cell?_setCell_same' _ _ _ (by rw [h2']; rfl)
  · rw [cell_set_ne _ _ _ _ (by simp)]; exact HC.out _ _ H.out.cX
  · rw [cell_set_ne _ _ _ _ (by simp)]; exact HC.out _ _ H.out.cn
  · have := HBEL.out.size; have := H.out.hb; simp [World.setCell]; omega
  · intro v hv
    rcases List.mem_append.1 hv with hv | hv
    · exact H.out.one v hv
    · simp at hv; subst hv; rfl

theorem merge (v n a p : Nat) (hv : v < 2 ^ n) (ha : a < 2 ^ p) (h : n + p ≤ 32) :
    v * 2 ^ (32 - (n + p)) < 4294967296 ∧ a * 2 ^ (32 - p) < 4294967296 ∧ (a * 2 ^ (32 - p)) ||| (v * 2 ^ (32 - (n + p))) = (a * 2 ^ n + v) * 2 ^ (32 - (n + p)) ∧ (a * 2 ^ n + v) < 2 ^ (n + p) := by
  have e32 : (4294967296 : Nat) = 2 ^ 32 := rfl
  have h1 : v * 2 ^ (32 - (n + p)) < 2 ^ (32 - p) := by
    rw [show 32 - p = n + (32 - (n + p)) from by omega, Nat.pow_add]
    exact Nat.mul_lt_mul_of_pos_right hv (Nat.pow_pos (by decide))
  have h2 : 2 ^ (32 - p) ≤ 2 ^ 32 := Nat.pow_le_pow_right (by decide) (by omega)
  have h3 : a * 2 ^ (32 - p) < 2 ^ 32 := by
    rw [show (2 : Nat) ^ 32 = 2 ^ p * 2 ^ (32 - p) from by rw [← Nat.pow_add, show p + (32 - p) = 32 from by omega]]
    exact Nat.mul_lt_mul_of_pos_right ha (Nat.pow_pos (by decide))
  refine ⟨by rw [e32]; omega, by rw [e32]; exact h3, ?_, ?_⟩
  · rw [nat_join (32 - p) _ _ (Nat.mul_mod_left _ _) h1, Nat.add_mul]
    congr 1
    rw [Nat.mul_assoc, ← Nat.pow_add, show n + (32 - (n + p)) = 32 - p from by omega]
  · have : a * 2 ^ n + 2 ^ n ≤ 2 ^ (n + p) := by
      rw [Nat.add_comm n p, Nat.pow_add, ← Nat.succ_mul]
      exact Nat.mul_le_mul_right _ ha
    omega
theorem lowbits_merge (v n a p : Nat) (hv : v < 2 ^ n) : lowbits (p + n) (a * 2 ^ n + v) = lowbits p a ++ lowbits n v := by
  rw [lowbits_append]
  congr 1
  · congr 1
    rw [Nat.add_comm, Nat.add_mul_div_right _ _ (Nat.pow_pos (by decide)), Nat.div_eq_of_lt hv, Nat.zero_add]
  · rw [← lowbits_mod, Nat.add_comm, Nat.add_mul_mod_self_right, lowbits_mod]
theorem split8 (y m : Nat) (h8 : 8 ≤ m) (h32 : m ≤ 32) (hy : y < 2 ^ m) :
    y * 2 ^ (32 - m) / 16777216 = y / 2 ^ (m - 8) ∧ y / 2 ^ (m - 8) < 256 ∧ (y * 2 ^ (32 - m)) * 256 % 4294967296 = (y % 2 ^ (m - 8)) * 2 ^ (32 - (m - 8)) ∧ y % 2 ^ (m - 8) < 2 ^ (m - 8) ∧
      lowbits m y = lowbits 8 (y / 2 ^ (m - 8)) ++ lowbits (m - 8) (y % 2 ^ (m - 8)) := by
  obtain ⟨k, rfl⟩ : ∃ k, m = 8 + k := ⟨m - 8, by omega⟩
  rw [show 8 + k - 8 = k from by omega]
  have hk : 0 < 2 ^ k := Nat.pow_pos (by decide)
  have hq : 0 < 2 ^ (32 - (8 + k)) := Nat.pow_pos (by decide)
  have e24 : (16777216 : Nat) = 2 ^ k * 2 ^ (32 - (8 + k)) := by rw [← Nat.pow_add, show k + (32 - (8 + k)) = 24 from by omega]
  have e40 : 2 ^ (32 - k) = 2 ^ (32 - (8 + k)) * 256 := by rw [show 32 - k = 32 - (8 + k) + 8 from by omega, Nat.pow_add]
  have e32 : (4294967296 : Nat) = 2 ^ k * 2 ^ (32 - k) := by rw [← Nat.pow_add, show k + (32 - k) = 32 from by omega]
  refine ⟨?_, ?_, ?_, Nat.mod_lt _ hk, ?_⟩
  · rw [e24, Nat.mul_div_mul_right _ _ hq]
  · rw [Nat.div_lt_iff_lt_mul hk]
    rw [Nat.pow_add] at hy; exact hy
  · rw [Nat.mul_assoc, ← e40, e32, Nat.mul_mod_mul_right]
  · rw [lowbits_append, lowbits_mod]

/-- The bits so far are those of D and the p bits of a. -/
structure EncD (E b base : Nat) (D : List Nat) (a p : Nat) (w : World) : Prop where
  enc : EncB E b base (Lib.byteCells (stuff D)) (a * 2 ^ (32 - p)) p w
  p8 : p < 8
  a2 : a < 2 ^ p
  byte : ∀ x ∈ D, x < 256

set_option maxRecDepth 100000 in
set_option maxHeartbeats 4000000 in
theorem emit_ {D : List Nat} {a p : Nat} (h : EncD E b base D a p w) (v n : Nat) (hv : v < 2 ^ n) (hn : n ≤ 16) (hD : D.length ≤ 10000000000) :
    Calls Tryd.prog 25 #[.pointer (some ⟨E, 0, none⟩), .int .u32 v, .int .u32 n] w fun e w' => e = .returned (.tuple #[]) ∧
      ∃ D' a' p', EncD E b base D' a' p' w' ∧ D'.flatMap (lowbits 8) ++ lowbits p' a' = D.flatMap (lowbits 8) ++ lowbits p a ++ lowbits n v ∧ Below base w w' := by
  have hp8 := h.p8
  have hX := h.enc.cX
  have hN := h.enc.cn
  have hm := merge v n a p hv h.a2 (by omega)
  have hlb := lowbits_merge v n a p hv
  obtain ⟨m0, hm0⟩ : ∃ m, m = n + p := ⟨_, rfl⟩
  obtain ⟨y0, hy0⟩ : ∃ y, y = a * 2 ^ n + v := ⟨_, rfl⟩
  rw [← hm0, ← hy0] at hm
  obtain ⟨hm1, hm2, hm3, hm4⟩ := hm
  obtain ⟨TB, hTB⟩ : ∃ TB, TB = D.flatMap (lowbits 8) ++ lowbits p a ++ lowbits n v := ⟨_, rfl⟩
  have hTB0 : D.flatMap (lowbits 8) ++ lowbits m0 y0 = TB := by rw [hTB, List.append_assoc, ← hlb, hm0, hy0, Nat.add_comm n p]
  rw [← hTB]
  clear hTB hlb
  obtain ⟨X0, hX0⟩ : ∃ X, X = y0 * 2 ^ (32 - m0) := ⟨_, rfl⟩
  rw [← hX0] at hm3
  have hor : bits .or .u32 ((v : Int) * 2 ^ (32 - m0) % 4294967296) ((a : Int) * 2 ^ (32 - p)) = (X0 : Int) := by
    have e1 : (v : Int) * 2 ^ (32 - m0) % 4294967296 = ((v * 2 ^ (32 - m0) : Nat) : Int) := by
      have : (v : Int) * 2 ^ (32 - m0) = ((v * 2 ^ (32 - m0) : Nat) : Int) := by simp
      rw [this]; omega
    have e2 : (a : Int) * 2 ^ (32 - p) = ((a * 2 ^ (32 - p) : Nat) : Int) := by simp
    rw [e1, e2, u32_or_nat _ _ hm1 hm2, Nat.or_comm, hm3]
  have hsum : (n : Int) + (p : Int) = (m0 : Int) := by omega
  have hm23 : m0 ≤ 23 := by omega
  have HM0 := Lib.hid hm0; clear hm0
  have HX0 := Lib.hid hX0; clear hX0 hy0 hm3 hm1 hm2
  have H := Lib.hid h; clear h
  go_enter Tryd.func25, Tryd.ntmps25
  go_wp2_with (fail)
  clear hor hsum hX hN
  go_loopg [1, 2] m0 (fun mm v1 v2 wr => ∃ (y m : Nat) (D' : List Nat), mm = m ∧ m ≤ 23 ∧ v1 = .int .u32 ((y * 2 ^ (32 - m) : Nat) : Int) ∧ v2 = .int .u32 m ∧ y < 2 ^ m ∧
    EncB E b base (Lib.byteCells (stuff D')) (a * 2 ^ (32 - p)) p wr ∧ (∀ x ∈ D', x < 256) ∧ D'.length * 8 + m = D.length * 8 + m0 ∧ D'.flatMap (lowbits 8) ++ lowbits m y = TB ∧ Below base w wr)
  case atStart =>
    exact ⟨y0, m0, D, rfl, hm23, by rw [HX0.out], rfl, hm4, H.out.enc, H.out.byte, rfl, hTB0, Below.refl _ _⟩
  case round =>
    obtain ⟨y, m, D', hmm, hm23', rfl, rfl, hy, hE', hD', hlen, hbits, hbel⟩ := hrel
    have HMM := Lib.hid hmm; clear hmm
    by_cases h8 : 8 ≤ m
    · obtain ⟨s1, s2, s3, s4, s5⟩ := split8 y m h8 (by omega) hy
      obtain ⟨B, hB⟩ : ∃ B, B = y / 2 ^ (m - 8) := ⟨_, rfl⟩
      obtain ⟨y', hy'⟩ : ∃ y', y' = y % 2 ^ (m - 8) := ⟨_, rfl⟩
      rw [← hB] at s1 s2 s5
      rw [← hy'] at s3 s4 s5
      obtain ⟨X, hX⟩ : ∃ X, X = y * 2 ^ (32 - m) := ⟨_, rfl⟩
      obtain ⟨X', hX'⟩ : ∃ X, X = y' * 2 ^ (32 - (m - 8)) := ⟨_, rfl⟩
      rw [← hX] at s1 s3
      rw [← hX'] at s3
      rw [← hX]
      have HX' := Lib.hid hX'
      clear hX hX' hB hy'
      have f1 : (X : Int) / 16777216 = (B : Int) := by omega
      have f2 : (X : Int) * 256 % 4294967296 = (X' : Int) := by omega
      have f3 : (B : Int) % 256 = (B : Int) := by omega
      have f4 : IntKind.u8.wrap (B : Int) = (B : Int) := IntWalk.u8_in _ (by omega)
      have f5 : decide ((8 : Int) ≤ (m : Int)) = true := decide_eq_true (by omega)
      have f6 : (m : Int) - 8 = ((m - 8 : Nat) : Int) := by omega
      clear s1 s3
      have HE' := Lib.hid hE'; clear hE'
      have HBITS := Lib.hid hbits; clear hbits
      have HBEL := Lib.hid hbel; clear hbel
      have HS5 := Lib.hid s5; clear s5
      have hsl := stuff_length D'
      have hcl : (Lib.byteCells (stuff D')).length = (stuff D').length := Lib.byteCells_length _
      have hlim : (Lib.byteCells (stuff D')).length + 2 ≤ 140737488355328 := by omega
      have HLIM := Lib.hid hlim
      clear hlim hcl hsl
      have hrel' : D'.flatMap (lowbits 8) ++ (lowbits 8 B ++ lowbits (m - 8) y') = TB := by rw [← HS5.out]; exact HBITS.out
      have hbits' : (D' ++ [B]).flatMap (lowbits 8) ++ lowbits (m - 8) y' = TB := by
        rw [← hrel', List.flatMap_append, List.append_assoc]; simp
      have HB' := Lib.hid hbits'
      clear hrel' hbits'
      by_cases h255 : B = 255
      · have f7 : ((B : Int) == 255) = true := by simp; omega
        go_wp2_with (fail)
        refine (write_byte HE'.out 255 (by have := HLIM.out; omega)).mono ?_
        rintro e w1 ⟨rfl, hE1, hb1⟩
        have hb1' := HBEL.out.trans hb1
        have HB1 := Lib.hid hb1'
        have HE1 := Lib.hid hE1
        clear hb1 hb1' hE1
        go_wp2_with (fail)
        refine (write_byte HE1.out 0 (by have := HLIM.out; rw [List.length_append]; simp; omega)).mono ?_
        rintro e w2 ⟨rfl, hE2, hb2⟩
        have hb2' := HB1.out.trans hb2
        have HB2 := Lib.hid hb2'
        have HE2 := Lib.hid hE2
        clear hb2 hb2' hE2
        go_wp2
        go_roundg (m - 8)
        case measure => have := HMM.out; omega
        case rel =>
          refine ⟨y', m - 8, D' ++ [B], rfl, by omega, by rw [f2, HX'.out], rfl, s4, ?_, ?_, ?_, HB'.out, HB2.out⟩
          · have e1 : Lib.byteCells (stuff (D' ++ [B])) = Lib.byteCells (stuff D') ++ [.int .u8 (255 : Nat)] ++ [.int .u8 (0 : Nat)] := by
              rw [h255, stuff_append, Lib.byteCells_append, List.append_assoc]; rfl
            rw [e1]; exact HE2.out
          · intro x hx
            rcases List.mem_append.1 hx with hx | hx
            · exact hD' x hx
            · simp at hx; omega
          · rw [List.length_append]; simp; omega
      · have f7 : ((B : Int) == 255) = false := by simp; omega
        go_wp2_with (fail)
        refine (write_byte HE'.out B (by have := HLIM.out; omega)).mono ?_
        rintro e w1 ⟨rfl, hE1, hb1⟩
        have hb1' := HBEL.out.trans hb1
        have HB1 := Lib.hid hb1'
        have HE1 := Lib.hid hE1
        clear hb1 hb1' hE1
        go_wp2
        go_roundg (m - 8)
        case measure => have := HMM.out; omega
        case rel =>
          refine ⟨y', m - 8, D' ++ [B], rfl, by omega, by rw [f2, HX'.out], rfl, s4, ?_, ?_, ?_, HB'.out, HB1.out⟩
          · have e1 : Lib.byteCells (stuff (D' ++ [B])) = Lib.byteCells (stuff D') ++ [.int .u8 B] := by
              rw [stuff_append, Lib.byteCells_append, stuff, if_neg h255]
              congr 1
              show [Value.int .u8 ((UInt8.ofNat B).toNat : Int)] = _
              rw [UInt8.toNat_ofNat_of_lt' (by exact s2)]
            rw [e1]; exact HE1.out
          · intro x hx
            rcases List.mem_append.1 hx with hx | hx
            · exact hD' x hx
            · simp at hx; omega
          · rw [List.length_append]; simp; omega
    · have f5 : decide ((8 : Int) ≤ (m : Int)) = false := decide_eq_false (by omega)
      have hfr1 := hE'.frozen 18
      have hfr2 := hE'.frozen 19
      have hcX := hE'.cX
      have hcn := hE'.cn
      have HE' := Lib.hid hE'; clear hE'
      have HBEL := Lib.hid hbel; clear hbel
      obtain ⟨X, hX⟩ : ∃ X, X = y * 2 ^ (32 - m) := ⟨_, rfl⟩
      rw [← hX]
      have HX := Lib.hid hX; clear hX
      go_wp2
      go_end0
      refine ⟨rfl, D', y, m, ⟨⟨?_, ?_, ?_, ?_, ?_, row_set (row_set HE'.out.row), HE'.out.hE, ?_, HE'.out.one⟩, by omega, hy, hD'⟩, hbits, (HBEL.out.setCell HE'.out.hE _).setCell HE'.out.hE _⟩
      · exact isBuffer_set (isBuffer_set HE'.out.buf HE'.out.row) (row_set HE'.out.row)
      · rw [cell_set_ne _ _ _ _ (by simp), cell_set_ne _ _ _ _ (by simp)]; exact HE'.out.cw
      · rw [cell_set_ne _ _ _ _ (by simp), cell_set_ne _ _ _ _ (by simp)]; exact HE'.out.cerr
      · rw [cell_set_ne _ _ _ _ (by simp), ← HX.out]; exact World.cell?_setCell_same' _ _ _ (by rw [hcX]; rfl)
      · exact World.cell?_setCell_same' _ _ _ (by rw [cell_set_ne _ _ _ _ (by simp), hcn]; rfl)
      · have := HE'.out.hb; simp [World.setCell]; omega
end
end Go.Proofs.YtdjilplpbaackaaDoor
