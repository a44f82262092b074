/-
  Plain laws on bits and on canonical prefix codes: no program in sight. No conditions.
-/
import Derived.Test.YtdjilplpbaackaaDoorRows
namespace Go.Proofs.YtdjilplpbaackaaDoor

/-- The byte of entropy-coded data that stands at place q, and the place behind it. -/
def stuffed (src : List UInt8) (q : Nat) : Option (UInt8 × Nat) :=
  match src[q]? with
  | none => none
  | some u => if u ≠ 255 then some (u, q + 1) else if src[q + 1]? = some 0 then some (255, q + 2) else none

theorem stuffed_lt {src : List UInt8} {q q' : Nat} {u : UInt8} (h : stuffed src q = some (u, q')) : q < q' ∧ q' ≤ src.length := by
  unfold stuffed at h
  cases hx : src[q]? with
  | none => rw [hx] at h; cases h
  | some x =>
    have hlt := (List.getElem?_eq_some_iff.1 hx).1
    rw [hx] at h
    by_cases h255 : x = 255
    · subst h255
      simp only [ne_eq, not_true_eq_false, if_false] at h
      split at h
      · rename_i h0
        have := (List.getElem?_eq_some_iff.1 h0).1
        cases h; omega
      · cases h
    · simp only [ne_eq, h255, not_false_eq_true, if_true] at h
      cases h; omega

/-- The n low bits of a number, the highest one first. -/
def lowbits (n a : Nat) : List Bool := (List.range n).map fun i => a.testBit (n - 1 - i)

theorem length_lowbits (n a : Nat) : (lowbits n a).length = n := by simp [lowbits]
theorem lowbits_zero (a : Nat) : lowbits 0 a = [] := rfl
theorem lowbits_succ (n a : Nat) : lowbits (n + 1) a = a.testBit n :: lowbits n a := by
  unfold lowbits
  rw [List.range_succ_eq_map, List.map_cons, List.map_map]
  simp only [Nat.add_sub_cancel, Nat.sub_zero]
  congr 1
  apply List.map_congr_left
  intro i hi
  simp only [List.mem_range] at hi
  show a.testBit (n - (i + 1)) = a.testBit (n - 1 - i)
  congr 1; omega
theorem lowbits_congr {n a b : Nat} (h : ∀ k, k < n → a.testBit k = b.testBit k) : lowbits n a = lowbits n b := by
  unfold lowbits
  apply List.map_congr_left
  intro i hi
  simp only [List.mem_range] at hi
  exact h _ (by omega)
theorem lowbits_mod (n a : Nat) : lowbits n (a % 2 ^ n) = lowbits n a := lowbits_congr fun k hk => by simp [Nat.testBit_mod_two_pow, hk]
theorem lowbits_append (n m a : Nat) : lowbits (n + m) a = lowbits n (a / 2 ^ m) ++ lowbits m a := by
  induction n with
  | zero => simp [lowbits_zero]
  | succ n ih =>
    rw [show n + 1 + m = n + m + 1 from by omega, lowbits_succ, lowbits_succ, ih, List.cons_append]
    congr 1
    rw [Nat.testBit_div_two_pow]
theorem lowbits_byte (n a u : Nat) (hn : n + 8 ≤ 32) (hu : u < 256) : lowbits (n + 8) ((a * 256 + u) % 4294967296) = lowbits n a ++ lowbits 8 u := by
  have e : lowbits (n + 8) ((a * 256 + u) % 4294967296) = lowbits (n + 8) (a * 256 + u) := lowbits_congr fun k hk => by
    rw [show (4294967296 : Nat) = 2 ^ 32 from rfl, Nat.testBit_mod_two_pow]; simp; intro; omega
  rw [e, lowbits_append]
  congr 1
  · congr 1; show (a * 256 + u) / 256 = a; omega
  · rw [← lowbits_mod 8 (a * 256 + u)]; congr 1; show (a * 256 + u) % 256 = u; omega
theorem lowbits_drop (n k a : Nat) (h : k ≤ n) : (lowbits n a).drop k = lowbits (n - k) a := by
  obtain ⟨m, rfl⟩ : ∃ m, n = k + m := ⟨n - k, by omega⟩
  rw [lowbits_append, List.drop_append, length_lowbits, List.drop_of_length_le (by rw [length_lowbits]; exact Nat.le_refl _)]
  simp
theorem lowbits_take (n k a : Nat) (h : k ≤ n) : (lowbits n a).take k = lowbits k (a / 2 ^ (n - k)) := by
  obtain ⟨m, rfl⟩ : ∃ m, n = k + m := ⟨n - k, by omega⟩
  rw [lowbits_append, show k + m - k = m from by omega]
  exact List.take_left' (length_lowbits _ _)

/-- The bits of entropy-coded data from the byte at place q on, up to the first that the data do not have. -/
def bitsFrom (src : List UInt8) (q : Nat) : List Bool :=
  match _h : stuffed src q with
  | none => []
  | some (u, q') => lowbits 8 u.toNat ++ bitsFrom src q'
termination_by src.length - q
decreasing_by have := stuffed_lt _h; omega

theorem bitsFrom_none {src : List UInt8} {q : Nat} (h : stuffed src q = none) : bitsFrom src q = [] := by
  rw [bitsFrom]; split
  · rfl
  · rename_i h'; rw [h] at h'; cases h'
theorem bitsFrom_some {src : List UInt8} {q q' : Nat} {u : UInt8} (h : stuffed src q = some (u, q')) : bitsFrom src q = lowbits 8 u.toNat ++ bitsFrom src q' := by
  rw [bitsFrom]; split
  · rename_i h'; rw [h] at h'; cases h'
  · rename_i h'; rw [h] at h'; cases h'; rfl

/-- A table: how many codes of each length (from 1 on) there are, and the symbols in the order of their codes. -/
structure Tab where
  cnt : Nat → Nat
  sym : List Nat

/-- The first code of a length, and its place. -/
def Tab.fst (T : Tab) : Nat → Nat
  | 0 => 0
  | l + 1 => 2 * (T.fst l + if l = 0 then 0 else T.cnt l)
def Tab.idx (T : Tab) : Nat → Nat
  | 0 => 0
  | l + 1 => T.idx l + if l = 0 then 0 else T.cnt l
theorem Tab.fst_succ (T : Tab) (l : Nat) (h : 0 < l) : T.fst (l + 1) = 2 * (T.fst l + T.cnt l) := by
  rw [Tab.fst, if_neg (by omega)]
theorem Tab.idx_succ (T : Tab) (l : Nat) (h : 0 < l) : T.idx (l + 1) = T.idx l + T.cnt l := by
  rw [Tab.idx, if_neg (by omega)]
theorem Tab.fst_one (T : Tab) : T.fst 1 = 0 := rfl
theorem Tab.idx_one (T : Tab) : T.idx 1 = 0 := rfl

/-- Decoding from length l on: code: what was read. -/
def Tab.dec (T : Tab) : (fuel l code : Nat) → List Bool → Option (Nat × List Bool)
  | 0, _, _, _ => none
  | _ + 1, _, _, [] => none
  | f + 1, l, code, b :: R =>
    if 2 * code + b.toNat < T.fst l + T.cnt l then some (T.sym.getD (T.idx l + (2 * code + b.toNat) - T.fst l) 0, R)
    else T.dec f (l + 1) (2 * code + b.toNat) R
/-- The next symbol. -/
def Tab.decode (T : Tab) (R : List Bool) : Option (Nat × List Bool) := T.dec 16 1 0 R

theorem Tab.dec_append (T : Tab) (R2 : List Bool) : ∀ (f k l code : Nat) (R R' : List Bool) (s : Nat), T.dec f l code R = some (s, R') → T.dec (f + k) l code (R ++ R2) = some (s, R' ++ R2) := by
  intro f
  induction f with
  | zero => intro k l code R R' s h; cases h
  | succ f ih =>
    intro k l code R R' s h
    cases R with
    | nil => cases h
    | cons b R =>
      rw [show f + 1 + k = f + k + 1 from by omega, List.cons_append]
      rw [Tab.dec] at h ⊢
      split at h
      · rename_i hc
        cases h; rw [if_pos hc]
      · rename_i hc
        rw [if_neg hc]; exact ih _ _ _ _ _ _ h
/-- What is left is shorter, by as many bits as the code has. -/
theorem Tab.dec_length (T : Tab) : ∀ (f l code : Nat) (R R' : List Bool) (s : Nat), T.dec f l code R = some (s, R') → R'.length < R.length ∧ R.length ≤ R'.length + f ∧ R' = R.drop (R.length - R'.length) := by
  intro f
  induction f with
  | zero => intro l code R R' s h; cases h
  | succ f ih =>
    intro l code R R' s h
    cases R with
    | nil => cases h
    | cons b R =>
      rw [Tab.dec] at h
      split at h
      · cases h; simp
      · obtain ⟨h1, h2, h3⟩ := ih _ _ _ _ _ h
        refine ⟨by simp; omega, by simp; omega, ?_⟩
        rw [List.length_cons, show R.length + 1 - R'.length = (R.length - R'.length) + 1 from by omega, List.drop_succ_cons]
        exact h3

/-- What the look-up table holds for eight bits. -/
def Tab.lut (T : Tab) (c : Nat) : Nat :=
  match T.dec 8 1 0 (lowbits 8 c) with
  | some (s, rest) => s * 256 + (9 - rest.length)
  | none => 0

theorem Tab.dec_at (T : Tab) (c : Nat) : ∀ (f l l' : Nat), f + l = 9 → 0 < l → l ≤ l' → l' ≤ 8 → (∀ k, l ≤ k → k < l' → T.fst k + T.cnt k ≤ c / 2 ^ (8 - k)) → c / 2 ^ (8 - l') < T.fst l' + T.cnt l' →
    T.dec f l (c / 2 ^ (9 - l)) (lowbits (9 - l) c) = some (T.sym.getD (T.idx l' + c / 2 ^ (8 - l') - T.fst l') 0, lowbits (8 - l') c) := by
  intro f
  induction f with
  | zero => intro l l' h1 h2 h3 h4; omega
  | succ f ih =>
    intro l l' h1 h2 h3 h4 hk hl
    have e : 9 - l = (8 - l) + 1 := by omega
    have ec : 2 * (c / 2 ^ (8 - l + 1)) + (c.testBit (8 - l)).toNat = c / 2 ^ (8 - l) := by
      rw [Nat.testBit_eq_decide_div_mod_eq, Nat.pow_succ, ← Nat.div_div_eq_div_mul]
      have := Nat.mod_two_eq_zero_or_one (c / 2 ^ (8 - l))
      rcases this with h | h <;> simp [h] <;> omega
    rw [e, lowbits_succ, Tab.dec, ec]
    by_cases hll : l = l'
    · subst hll; rw [if_pos hl]
    · rw [if_neg (by have := hk l (by omega) (by omega); omega)]
      have := ih (l + 1) l' (by omega) (by omega) (by omega) h4 (fun k h5 h6 => hk k (by omega) h6) hl
      rw [show 9 - (l + 1) = 8 - l from by omega] at this
      exact this
theorem Tab.dec_none (T : Tab) (c : Nat) : ∀ (f l : Nat), f + l = 9 → 0 < l → (∀ k, l ≤ k → k ≤ 8 → T.fst k + T.cnt k ≤ c / 2 ^ (8 - k)) → T.dec f l (c / 2 ^ (9 - l)) (lowbits (9 - l) c) = none := by
  intro f
  induction f with
  | zero => intros; rfl
  | succ f ih =>
    intro l h1 h2 hk
    have e : 9 - l = (8 - l) + 1 := by omega
    have ec : 2 * (c / 2 ^ (8 - l + 1)) + (c.testBit (8 - l)).toNat = c / 2 ^ (8 - l) := by
      rw [Nat.testBit_eq_decide_div_mod_eq, Nat.pow_succ, ← Nat.div_div_eq_div_mul]
      have := Nat.mod_two_eq_zero_or_one (c / 2 ^ (8 - l))
      rcases this with h | h <;> simp [h] <;> omega
    rw [e, lowbits_succ, Tab.dec, ec, if_neg (by have := hk l (by omega) (by omega); omega)]
    have := ih (l + 1) (by omega) (by omega) (fun k h5 h6 => hk k (by omega) h6)
    rw [show 9 - (l + 1) = 8 - l from by omega] at this
    exact this

theorem Tab.lut_at (T : Tab) (c l : Nat) (h8 : c < 256) (h0 : 0 < l) (hl8 : l ≤ 8) (hk : ∀ k, 0 < k → k < l → T.fst k + T.cnt k ≤ c / 2 ^ (8 - k)) (hl : c / 2 ^ (8 - l) < T.fst l + T.cnt l) :
    T.lut c = T.sym.getD (T.idx l + c / 2 ^ (8 - l) - T.fst l) 0 * 256 + (l + 1) := by
  have h := T.dec_at c 8 1 l rfl (by omega) (by omega) hl8 (fun k h1 h2 => hk k (by omega) h2) hl
  rw [show c / 2 ^ (9 - 1) = 0 from Nat.div_eq_of_lt h8] at h
  unfold Tab.lut
  rw [show lowbits 8 c = lowbits (9 - 1) c from rfl, h]
  simp only [length_lowbits]
  omega
theorem Tab.lut_none (T : Tab) (c : Nat) (h8 : c < 256) (hk : ∀ k, 0 < k → k ≤ 8 → T.fst k + T.cnt k ≤ c / 2 ^ (8 - k)) : T.lut c = 0 := by
  have h := T.dec_none c 8 1 rfl (by omega) (fun k h1 h2 => hk k (by omega) h2)
  rw [show c / 2 ^ (9 - 1) = 0 from Nat.div_eq_of_lt h8] at h
  unfold Tab.lut
  rw [show lowbits 8 c = lowbits (9 - 1) c from rfl, h]

/-- The look-up table tells the next symbol where it tells one. -/
theorem Tab.lut_hit (T : Tab) (n a : Nat) (R : List Bool) (hn : 8 ≤ n) (h : T.lut (a / 2 ^ (n - 8) % 256) ≠ 0) (hs : ∀ k, T.sym.getD k 0 < 256) :
    ∃ len, 0 < len ∧ len ≤ 8 ∧ T.lut (a / 2 ^ (n - 8) % 256) % 256 = len + 1 ∧
      T.decode (lowbits n a ++ R) = some (T.lut (a / 2 ^ (n - 8) % 256) / 256, lowbits (n - len) a ++ R) := by
  have e8 : lowbits 8 (a / 2 ^ (n - 8) % 256) = lowbits 8 (a / 2 ^ (n - 8)) := lowbits_mod 8 _
  have et := lowbits_take n 8 a hn
  unfold Tab.lut at h ⊢
  rw [e8] at h ⊢
  cases hd : T.dec 8 1 0 (lowbits 8 (a / 2 ^ (n - 8))) with
  | none => rw [hd] at h; exact absurd rfl h
  | some sr =>
    obtain ⟨s, rest⟩ := sr
    obtain ⟨h1, h2, h3⟩ := T.dec_length _ _ _ _ _ _ hd
    rw [length_lowbits] at h1 h2 h3
    have hs256 : s < 256 := by
      have : ∀ (f l code : Nat) (R R' : List Bool) (s : Nat), T.dec f l code R = some (s, R') → s < 256 := by
        intro f
        induction f with
        | zero => intro l code R R' s h; cases h
        | succ f ih =>
          intro l code R R' s h
          cases R with
          | nil => cases h
          | cons b R =>
            rw [Tab.dec] at h
            split at h
            · cases h; exact hs _
            · exact ih _ _ _ _ _ h
      exact this _ _ _ _ _ _ hd
    have hap := T.dec_append ((lowbits n a).drop 8 ++ R) 8 8 1 0 _ _ _ hd
    refine ⟨8 - rest.length, by omega, by omega, by show (s * 256 + (9 - rest.length)) % 256 = _; omega, ?_⟩
    show T.dec 16 1 0 (lowbits n a ++ R) = some ((s * 256 + (9 - rest.length)) / 256, _)
    rw [show (s * 256 + (9 - rest.length)) / 256 = s from by omega]
    rw [← et, ← List.append_assoc, List.take_append_drop] at hap
    rw [hap]
    congr 2
    rw [← List.append_assoc]
    congr 1
    rw [← et] at h3
    have hlen : ((lowbits n a).take 8).length = 8 := by rw [List.length_take, length_lowbits]; omega
    generalize rest.length = r at h1 h2 h3 ⊢
    rw [h3, lowbits_drop n 8 a hn, ← lowbits_drop n (8 - r) a (by omega)]
    conv => rhs; rw [← List.take_append_drop 8 (lowbits n a)]
    rw [List.drop_append_of_le_length (by rw [hlen]; omega), lowbits_drop n 8 a hn]
theorem Tab.lut_miss (T : Tab) (c : Nat) (h : T.lut c = 0) : T.dec 8 1 0 (lowbits 8 c) = none := by
  unfold Tab.lut at h
  split at h
  · rename_i s rest hd
    obtain ⟨h1, _, _⟩ := T.dec_length _ _ _ _ _ _ hd
    rw [length_lowbits] at h1
    omega
  · assumption
end Go.Proofs.YtdjilplpbaackaaDoor
