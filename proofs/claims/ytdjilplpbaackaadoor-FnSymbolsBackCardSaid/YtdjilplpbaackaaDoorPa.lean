/-
  Plain laws on segments of tables (B.2.4.2): no program in sight. No conditions.
-/
import Derived.Test.YtdjilplpbaackaaDoorPl
namespace Go.Proofs.YtdjilplpbaackaaDoor

/-- The byte at a place. -/
def byteAt (src : List UInt8) (k : Nat) : Nat := (src.getD k 0).toNat
theorem byteAt_lt (src : List UInt8) (k : Nat) : byteAt src k < 256 := UInt8.toNat_lt _
/-- How many codes the table at place q has. -/
def totalAt (src : List UInt8) (q : Nat) : Nat := (Tab.mk (fun i => byteAt src (q + i)) []).idx 17
/-- The table at place q of a segment. -/
def tabAt (src : List UInt8) (q : Nat) : Tab := { cnt := fun i => byteAt src (q + i), sym := ((src.drop (q + 17)).take (totalAt src q)).map (·.toNat) }

theorem Tab.idx_congr {T U : Tab} (h : ∀ i, T.cnt i = U.cnt i) (l : Nat) : T.idx l = U.idx l := by
  induction l with
  | zero => rfl
  | succ l ih => rw [Tab.idx, Tab.idx, ih, h]
theorem Tab.idx_mono (T : Tab) {a b : Nat} (h : a ≤ b) : T.idx a ≤ T.idx b := by
  induction b with
  | zero => have : a = 0 := by omega
            subst this; exact Nat.le_refl _
  | succ b ih =>
    by_cases e : a = b + 1
    · subst e; exact Nat.le_refl _
    · have := ih (by omega); rw [Tab.idx]; omega
theorem Tab.idx_le (T : Tab) (h : ∀ i, T.cnt i ≤ 255) (l : Nat) : T.idx l ≤ 255 * l := by
  induction l with
  | zero => exact Nat.le_refl _
  | succ l ih => rw [Tab.idx]; have := h l; split <;> omega
theorem tabAt_total (src : List UInt8) (q : Nat) : (tabAt src q).idx 17 = totalAt src q := Tab.idx_congr (fun _ => rfl) 17
theorem tabAt_cnt (src : List UInt8) (q i : Nat) : (tabAt src q).cnt i ≤ 255 := by have := byteAt_lt src (q + i); show byteAt src (q + i) ≤ 255; omega
theorem tabAt_length (src : List UInt8) (q : Nat) (h : q + 17 + totalAt src q ≤ src.length) : (tabAt src q).sym.length = totalAt src q := by
  show (((src.drop (q + 17)).take (totalAt src q)).map (·.toNat)).length = _
  rw [List.length_map, List.length_take, List.length_drop]; omega
theorem tabAt_sym (src : List UInt8) (q k : Nat) (h : q + 17 + totalAt src q ≤ src.length) (hk : k < totalAt src q) : (tabAt src q).sym.getD k 0 = byteAt src (q + 17 + k) := by
  show (((src.drop (q + 17)).take (totalAt src q)).map (·.toNat)).getD k 0 = _
  unfold byteAt
  rw [List.getD_eq_getElem?_getD, List.getD_eq_getElem?_getD, List.getElem?_map, List.getElem?_take, if_pos hk, List.getElem?_drop, List.getElem?_eq_getElem (by omega)]
  rfl
theorem tabAt_byte (src : List UInt8) (q k : Nat) : (tabAt src q).sym.getD k 0 < 256 := by
  show (((src.drop (q + 17)).take (totalAt src q)).map (·.toNat)).getD k 0 < 256
  rw [List.getD_eq_getElem?_getD, List.getElem?_map]
  cases ((src.drop (q + 17)).take (totalAt src q))[k]? with
  | none => simp
  | some u => exact u.toNat_lt

/-- What the decoder asks of the table at place q. -/
structure DhtOk (src : List UInt8) (q : Nat) : Prop where
  cls : byteAt src q / 16 ≤ 1
  dst : byteAt src q % 16 ≤ 3
  kraft : ∀ i, i < 16 → (tabAt src q).fst (i + 1) + (tabAt src q).cnt (i + 1) ≤ 2 ^ (i + 1)
  pos : 0 < totalAt src q
  le : totalAt src q ≤ 256
  len : q + 17 + totalAt src q ≤ src.length

/-- Which tables of a segment are those of the classes and numbers, from place q on. -/
inductive Segs (src : List UInt8) : Nat → (Nat → Nat → Option Nat) → (Nat → Nat → Option Nat) → Prop
  | done (m : Nat → Nat → Option Nat) : Segs src src.length m m
  | more {q : Nat} {m m' : Nat → Nat → Option Nat} (h : DhtOk src q)
      (hr : Segs src (q + 17 + totalAt src q) (fun c d => if c = byteAt src q / 16 ∧ d = byteAt src q % 16 then some q else m c d) m') : Segs src q m m'
theorem Segs.le {src : List UInt8} {q : Nat} {m m' : Nat → Nat → Option Nat} (h : Segs src q m m') : q ≤ src.length := by
  cases h with
  | done => exact Nat.le_refl _
  | more h _ => have := h.len; omega
end Go.Proofs.YtdjilplpbaackaaDoor
