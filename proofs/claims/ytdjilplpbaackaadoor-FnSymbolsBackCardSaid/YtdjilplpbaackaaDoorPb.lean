/-
  Plain laws on codes that are written and read back: no program in sight. No conditions.
-/
import Derived.Test.YtdjilplpbaackaaDoorPa
namespace Go.Proofs.YtdjilplpbaackaaDoor

/-- The code number c of length l is that of the k-th symbol. -/
structure Tab.Has (T : Tab) (k l c : Nat) : Prop where
  pos : 1 ≤ l
  le : l ≤ 16
  lo : T.idx l ≤ k
  hi : k < T.idx l + T.cnt l
  code : c = T.fst l + (k - T.idx l)

/-- No code consists of ones alone. -/
def Tab.Strict (T : Tab) : Prop := ∀ j, 1 ≤ j → j ≤ 16 → T.fst j + T.cnt j + 1 ≤ 2 ^ j

theorem Tab.fst_mul (T : Tab) (j l : Nat) (hj : 1 ≤ j) (h : j < l) : 2 ^ (l - j) * (T.fst j + T.cnt j) ≤ T.fst l := by
  obtain ⟨m, rfl⟩ : ∃ m, l = j + 1 + m := ⟨l - (j + 1), by omega⟩
  clear h
  induction m with
  | zero =>
    rw [show j + 1 + 0 - j = 1 from by omega, Nat.add_zero, T.fst_succ j (by omega)]; omega
  | succ m ih =>
    rw [show j + 1 + (m + 1) = j + 1 + m + 1 from by omega, T.fst_succ _ (by omega), show j + 1 + m + 1 - j = (j + 1 + m - j) + 1 from by omega, Nat.pow_succ, Nat.mul_right_comm]
    have := Nat.mul_le_mul_right 2 ih
    omega

theorem Tab.dec_code (T : Tab) (l c : Nat) (R : List Bool) (h16 : l ≤ 16) (hlo : T.fst l ≤ c) (hhi : c < T.fst l + T.cnt l) :
    ∀ (f j : Nat), f + j = 17 → 1 ≤ j → j ≤ l → T.dec f j (c / 2 ^ (l - j + 1)) (lowbits (l - j + 1) c ++ R) = some (T.sym.getD (T.idx l + c - T.fst l) 0, R) := by
  intro f
  induction f with
  | zero => intro j h1 h2 h3; omega
  | succ f ih =>
    intro j h1 h2 h3
    have ec : 2 * (c / 2 ^ (l - j + 1)) + (c.testBit (l - j)).toNat = c / 2 ^ (l - j) := by
      rw [Nat.testBit_eq_decide_div_mod_eq, Nat.pow_succ, ← Nat.div_div_eq_div_mul]
      have := Nat.mod_two_eq_zero_or_one (c / 2 ^ (l - j))
      rcases this with h | h <;> simp [h] <;> omega
    rw [lowbits_succ, List.cons_append, Tab.dec, ec]
    by_cases hjl : j = l
    · subst hjl
      rw [Nat.sub_self, Nat.pow_zero, Nat.div_one, if_pos hhi]
      rfl
    · have hm := T.fst_mul j l h2 (by omega)
      have hge : T.fst j + T.cnt j ≤ c / 2 ^ (l - j) := by
        rw [Nat.le_div_iff_mul_le (Nat.pow_pos (by decide)), Nat.mul_comm]; omega
      rw [if_neg (by omega)]
      have := ih (j + 1) (by omega) (by omega) (by omega)
      rw [show l - (j + 1) + 1 = l - j from by omega] at this
      exact this

theorem Tab.fst_lt (T : Tab) (hS : T.Strict) {k l c : Nat} (h : T.Has k l c) : c + 1 < 2 ^ l := by
  have := hS l h.pos h.le
  have h1 := h.code; have h2 := h.lo; have h3 := h.hi
  omega

/-- A code is read back. -/
theorem Tab.decode_code (T : Tab) (hS : T.Strict) {k l c : Nat} (h : T.Has k l c) (R : List Bool) : T.decode (lowbits l c ++ R) = some (T.sym.getD k 0, R) := by
  have h1 := h.code; have h2 := h.lo; have h3 := h.hi; have h0 := h.pos
  have hd := T.dec_code l c R h.le (by omega) (by omega) 16 1 rfl (by omega) h.pos
  rw [show l - 1 + 1 = l from by omega, Nat.div_eq_of_lt (by have := T.fst_lt hS h; omega)] at hd
  rw [Tab.decode, hd]
  congr 3
  omega

theorem Tab.dec_ones (T : Tab) (hS : T.Strict) : ∀ (f j n : Nat), f + j = 17 → 1 ≤ j → T.dec f j (2 ^ (j - 1) - 1) (List.replicate n true) = none := by
  intro f
  induction f with
  | zero => intros; rfl
  | succ f ih =>
    intro j n h1 h2
    cases n with
    | zero => rfl
    | succ n =>
      rw [List.replicate_succ, Tab.dec]
      have hp : 2 * (2 ^ (j - 1) - 1) + true.toNat = 2 ^ j - 1 := by
        have e : 2 ^ j = 2 * 2 ^ (j - 1) := by rw [show j = (j - 1) + 1 from by omega, Nat.pow_succ]; simp; omega
        have : 0 < 2 ^ (j - 1) := Nat.pow_pos (by decide)
        rw [e]; simp; omega
      rw [hp, if_neg (by have := hS j h2 (by omega); omega)]
      have := ih (j + 1) n (by omega) (by omega)
      rw [Nat.add_sub_cancel] at this
      exact this
/-- Nothing is read from ones. -/
theorem Tab.decode_ones (T : Tab) (hS : T.Strict) (n : Nat) : T.decode (List.replicate n true) = none := T.dec_ones hS 16 1 n rfl (by omega)

/-- A symbol, its code's length, its code's number. -/
structure Word where
  s : Nat
  n : Nat
  v : Nat
def Word.Ok (T : Tab) (q : Word) : Prop := ∃ k, T.Has k q.n q.v ∧ T.sym.getD k 0 = q.s
/-- The bits that are written. -/
def wbits (Q : List Word) : List Bool := Q.flatMap fun q => lowbits q.n q.v

theorem Tab.has_unique (T : Tab) {k l c l' c' : Nat} (h : T.Has k l c) (h' : T.Has k l' c') : l = l' ∧ c = c' := by
  have key : ∀ {l l' : Nat}, 1 ≤ l → l < l' → T.idx l + T.cnt l ≤ T.idx l' := by
    intro l l' h1 h2
    have := T.idx_mono (show l + 1 ≤ l' from h2)
    rw [T.idx_succ l (by omega)] at this
    exact this
  have e : l = l' := by
    rcases Nat.lt_trichotomy l l' with hl | hl | hl
    · have := key h.pos hl; have := h.hi; have := h'.lo; omega
    · exact hl
    · have := key h'.pos hl; have := h'.hi; have := h.lo; omega
  subst e
  exact ⟨rfl, by rw [h.code, h'.code]⟩

/-- A number that is stuffed: a byte 00 behind each byte ff. -/
def stuff : List Nat → List UInt8
  | [] => []
  | b :: D => if b = 255 then 255 :: 0 :: stuff D else UInt8.ofNat b :: stuff D
theorem stuff_append (D E : List Nat) : stuff (D ++ E) = stuff D ++ stuff E := by
  induction D with
  | nil => rfl
  | cons b D ih =>
    rw [List.cons_append, stuff, stuff]
    split <;> simp [ih]
theorem stuff_length (D : List Nat) : (stuff D).length ≤ 2 * D.length := by
  induction D with
  | nil => exact Nat.le_refl _
  | cons b D ih =>
    rw [stuff]
    split <;> simp only [List.length_cons] <;> omega
theorem bitsFrom_stuff : ∀ (D : List Nat) (pre : List UInt8), (∀ b ∈ D, b < 256) → bitsFrom (pre ++ stuff D) pre.length = D.flatMap (lowbits 8) := by
  intro D
  induction D with
  | nil =>
    intro pre _
    rw [stuff, List.append_nil, bitsFrom_none]; rfl
    unfold stuffed
    rw [List.getElem?_eq_none (Nat.le_refl _)]
  | cons b D ih =>
    intro pre hD
    have hb : b < 256 := hD b (by simp)
    have hD' : ∀ x ∈ D, x < 256 := fun x hx => hD x (by simp [hx])
    rw [List.flatMap_cons, stuff]
    by_cases h255 : b = 255
    · subst h255
      rw [if_pos rfl]
      have e : pre ++ 255 :: 0 :: stuff D = (pre ++ [255, 0]) ++ stuff D := by simp
      rw [bitsFrom_some (q' := pre.length + 2) (u := 255) (by unfold stuffed; simp), e]
      have := ih (pre ++ [255, 0]) hD'
      rw [List.length_append] at this
      exact congrArg _ this
    · rw [if_neg h255]
      have hne : UInt8.ofNat b ≠ 255 := by
        intro h
        have := congrArg UInt8.toNat h
        rw [UInt8.toNat_ofNat_of_lt' (by exact hb)] at this
        exact h255 this
      have e : pre ++ UInt8.ofNat b :: stuff D = (pre ++ [UInt8.ofNat b]) ++ stuff D := by simp
      rw [bitsFrom_some (q' := pre.length + 1) (u := UInt8.ofNat b) (by unfold stuffed; simp [hne]), e, UInt8.toNat_ofNat_of_lt' (by exact hb)]
      have := ih (pre ++ [UInt8.ofNat b]) hD'
      rw [List.length_append] at this
      exact congrArg _ this
theorem bits_of_stuff (D : List Nat) (hD : ∀ b ∈ D, b < 256) : bitsFrom (stuff D) 0 = D.flatMap (lowbits 8) := bitsFrom_stuff D [] hD

/-- What is left over of seven ones. -/
theorem ones_left {X Y P : List Bool} (h : Y ++ P = X ++ List.replicate 7 true) (hP : P.length < 8) : ∃ j, Y = X ++ List.replicate j true := by
  have hl := congrArg List.length h
  simp only [List.length_append, List.length_replicate] at hl
  refine ⟨Y.length - X.length, ?_⟩
  have e := congrArg (List.take Y.length) h
  rw [List.take_left, List.take_append, List.take_of_length_le (by omega), List.take_replicate, Nat.min_eq_left (by omega)] at e
  exact e
theorem lowbits_ones : lowbits 7 127 = List.replicate 7 true := by decide
end Go.Proofs.YtdjilplpbaackaaDoor
