/-
  The reader of bits that the standard's side has, by the list of bits that are still to come. Conditions: the data lie in memory.
-/
import Derived.Test.YtdjilplpbaackaaDoorBl
import Derived.Test.YtdjilplpbaackaaDoorBj
namespace Go.Proofs.YtdjilplpbaackaaDoor
open Go.RowKit

/-- Block g is a reader of bits: R is to come, or a bit was asked for that is not there. -/
def BtR (g : Nat) (ca : Option Addr) (cap : Nat) (src : List UInt8) (short : Bool) (R : List Bool) (w : World) : Prop :=
  ∃ at_ used, BtS g ca src.length cap at_ used short w ∧ used < 8 ∧ (used ≠ 0 → stuffed src at_ ≠ none) ∧ (short = false → R = (bitsFrom src at_).drop used)

section
variable {g cap : Nat} {ca : Option Addr} {src : List UInt8} {w : World} {short : Bool} {R : List Bool}

theorem BtR.only (h : BtR g ca cap src short R w) {S : List Nat} {w' : World} (k : Only S w w') (hs : g ∉ S) : BtR g ca cap src short R w' := by
  obtain ⟨a, u, h1, h2⟩ := h
  exact ⟨a, u, h1.only k hs, h2⟩
theorem BtR.lt (h : BtR g ca cap src short R w) : g < w.heap.size := by
  obtain ⟨a, u, h1, h2⟩ := h
  exact h1.lt
theorem BtR.cShort (h : BtR g ca cap src short R w) : w.cell? ⟨g, 3, none⟩ = some (.bool short) := by
  obtain ⟨a, u, h1, h2⟩ := h
  exact h1.c3
theorem BtR.frozen (h : BtR g ca cap src short R w) (k : Nat) : w.frozen? ⟨g, k, none⟩ = false := by
  obtain ⟨a, u, h1, h2⟩ := h
  exact h1.frozen k
theorem BtR.setShort (h : BtR g ca cap src short R w) (R' : List Bool) : BtR g ca cap src true R' (w.setCell ⟨g, 3, none⟩ (.bool true)) := by
  obtain ⟨a, u, h1, h2, h3, _⟩ := h
  exact ⟨a, u, h1.set3 true, h2, h3, fun h => by cases h⟩

theorem bits_at {src : List UInt8} {a q used : Nat} {u : UInt8} (h : stuffed src a = some (u, q)) (hu : used < 8) :
    (bitsFrom src a).drop used = u.toNat.testBit (7 - used) :: (lowbits (7 - used) u.toNat ++ bitsFrom src q) := by
  rw [bitsFrom_some h, List.drop_append_of_le_length (by rw [length_lowbits]; omega), lowbits_drop 8 used _ (by omega), show 8 - used = (7 - used) + 1 from by omega, lowbits_succ, List.cons_append]

theorem stuffed_bound {src : List UInt8} {a : Nat} (h : stuffed src a = none) (hlt : a < src.length) : src[a]? = some 255 ∧ src[a + 1]? ≠ some 0 := by
  unfold stuffed at h
  rw [List.getElem?_eq_getElem hlt] at h ⊢
  simp only at h
  split at h
  · cases h
  · rename_i h255
    split at h
    · cases h
    · rename_i h0
      refine ⟨?_, h0⟩
      have : src[a] = 255 := Classical.not_not.1 h255
      rw [this]

theorem bit_end (hs : SrcAt [g] ca src w) (hlen : src.length ≤ 4000000000) (h : BtR g ca cap src short R w) (hR : short = true ∨ R = []) :
    Calls Tryd.prog 18 #[.pointer (some ⟨g, 0, none⟩)] w fun e w' => e = .returned (.int .i64 0) ∧ BtR g ca cap src true [] w' ∧ Only [g] w w' := by
  obtain ⟨a, u, h1, h2, h3, h4⟩ := h
  cases short with
  | true => exact (bit_short h1).mono fun e w' ⟨he, hb, ho⟩ => ⟨he, ⟨a, u, hb, h2, h3, fun h => by cases h⟩, ho⟩
  | false =>
    have hR' : R = [] := hR.resolve_left (by decide)
    have h5 := h4 rfl
    have hst : stuffed src a = none := by
      cases hst : stuffed src a with
      | none => rfl
      | some uq =>
        obtain ⟨x, q⟩ := uq
        rw [hR', bits_at hst h2] at h5; cases h5
    by_cases hlt : a < src.length
    · obtain ⟨h255, h0⟩ := stuffed_bound hst hlt
      obtain ⟨ad, rfl, hn, hc⟩ := hs a 255 h255
      by_cases hl1 : src.length ≤ a + 1
      · exact (bit_cut h1 hlen hc hlt hl1).mono fun e w' ⟨he, hb, ho⟩ => ⟨he, ⟨a, u, hb, h2, h3, fun h => by cases h⟩, ho⟩
      · have hl2 : a + 1 < src.length := by omega
        obtain ⟨ad', e', _, hd⟩ := hs (a + 1) src[a + 1] (List.getElem?_eq_getElem hl2)
        cases e'
        have hne : ((src[a + 1].toNat : Int) != 0) = true := by
          simp only [bne_iff_ne, ne_eq]
          intro e
          apply h0
          rw [List.getElem?_eq_getElem hl2]
          congr 1
          apply UInt8.toNat_inj.1
          have : src[a + 1].toNat = 0 := by omega
          rw [this]; rfl
        exact (bit_mark h1 hlen hc hd hne hlt hl2).mono fun e w' ⟨he, hb, ho⟩ => ⟨he, ⟨a, u, hb, h2, h3, fun h => by cases h⟩, ho⟩
    · exact (bit_over h1 (by omega)).mono fun e w' ⟨he, hb, ho⟩ => ⟨he, ⟨a, u, hb, h2, h3, fun h => by cases h⟩, ho⟩

theorem bit_some {b : Bool} {R' : List Bool} (hs : SrcAt [g] ca src w) (hlen : src.length ≤ 4000000000) (h : BtR g ca cap src false (b :: R') w) :
    Calls Tryd.prog 18 #[.pointer (some ⟨g, 0, none⟩)] w fun e w' => e = .returned (.int .i64 (b.toNat : Nat)) ∧ BtR g ca cap src false R' w' ∧ Only [g] w w' := by
  obtain ⟨a, u, h1, h2, h3, h4⟩ := h
  have h5 := h4 rfl
  cases hst : stuffed src a with
  | none =>
    rw [bitsFrom_none hst] at h5; simp at h5
  | some uq =>
    obtain ⟨x, q⟩ := uq
    rw [bits_at hst h2] at h5
    obtain ⟨hb, hR'⟩ := List.cons.inj h5
    have hbn : b.toNat = x.toNat / 2 ^ (7 - u) % 2 := by rw [hb, Nat.toNat_testBit]
    have hx : x.toNat < 256 := x.toNat_lt
    have hst' := hst
    unfold stuffed at hst
    cases hxa : src[a]? with
    | none => rw [hxa] at hst; cases hst
    | some y =>
      have hlt := (List.getElem?_eq_some_iff.1 hxa).1
      obtain ⟨ad, rfl, hn, hc⟩ := hs a y hxa
      have hne : g ≠ ad.block := fun e => hn (by simp [e])
      rw [hxa] at hst
      by_cases hy : y = 255
      · subst hy
        simp only [ne_eq, not_true_eq_false, if_false] at hst
        split at hst
        · rename_i h0
          have hl2 := (List.getElem?_eq_some_iff.1 h0).1
          obtain ⟨ad', e', _, hd⟩ := hs (a + 1) 0 h0
          cases e'
          cases hst
          rw [hbn]
          by_cases hu7 : u < 7
          · exact (bit_lo_ff h1 hne hlen hc hd hl2 hu7).mono fun e w' ⟨he, hb, ho⟩ => ⟨he, ⟨a, u + 1, hb, by omega, fun _ => by rw [hst']; simp, fun _ => by
              rw [hR', bitsFrom_some hst', List.drop_append_of_le_length (by rw [length_lowbits]; omega), lowbits_drop 8 _ _ (by omega), show 8 - (u + 1) = 7 - u from by omega]⟩, ho⟩
          · have hu : u = 7 := by omega
            subst hu
            exact (bit_hi_ff h1 hne hlen hc hd hl2 rfl).mono fun e w' ⟨he, hb, ho⟩ => ⟨he, ⟨a + 2, 0, hb, by omega, fun h => absurd rfl h, fun _ => by rw [hR']; rfl⟩, ho⟩
        · cases hst
      · simp only [ne_eq, hy, not_false_eq_true, if_true] at hst
        cases hst
        have hne' : ((x.toNat : Int) == 255) = false := by
          simp only [beq_eq_false_iff_ne, ne_eq]
          intro e
          apply hy
          apply UInt8.toNat_inj.1
          have : x.toNat = 255 := by omega
          rw [this]; rfl
        rw [hbn]
        by_cases hu7 : u < 7
        · exact (bit_lo h1 hne hlen hc hlt hx hne' hu7).mono fun e w' ⟨he, hb, ho⟩ => ⟨he, ⟨a, u + 1, hb, by omega, fun _ => by rw [hst']; simp, fun _ => by
            rw [hR', bitsFrom_some hst', List.drop_append_of_le_length (by rw [length_lowbits]; omega), lowbits_drop 8 _ _ (by omega), show 8 - (u + 1) = 7 - u from by omega]⟩, ho⟩
        · have hu : u = 7 := by omega
          subst hu
          exact (bit_hi h1 hne hlen hc hlt hx hne' rfl).mono fun e w' ⟨he, hb, ho⟩ => ⟨he, ⟨a + 1, 0, hb, by omega, fun h => absurd rfl h, fun _ => by rw [hR']; rfl⟩, ho⟩
end
end Go.Proofs.YtdjilplpbaackaaDoor
