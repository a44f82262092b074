/-
  The standard's side: the decoder's block with its tables; what a store of a whole table does to it. No conditions.
-/
import Derived.Test.YtdjilplpbaackaaDoorVb
namespace Go.Proofs.YtdjilplpbaackaaDoor
open Go.RowKit

theorem Only.setCells {S : List Nat} {a : World} {b : Nat} : ∀ (vs : List Value) (o : Nat) (w : World), Only S a w → (b ∈ S ∨ a.heap.size ≤ b) → Only S a (w.setCells b o vs)
  | [], _, _, h, _ => h
  | v :: r, o, w, h, hb => by
    rw [World.setCells]
    exact Only.setCells r (o + 1) _ (h.setCell hb v) hb

/-- Where the standard's table lies. -/
def soff (c e : Nat) : Nat := 264 + c * 72 + e * 18

/-- Block d is the standard's decoder, with the tables m. -/
structure SpD (d : Nat) (src : List UInt8) (m : Nat → Nat → Option Nat) (w : World) : Prop where
  there : ∀ j, j < 602 → (w.cell? ⟨d, j, none⟩).isSome = true ∧ w.frozen? ⟨d, j, none⟩ = false
  proc : w.cell? ⟨d, 6, none⟩ = some (.int .i64 0)
  tabs : ∀ c e q, c ≤ 1 → e ≤ 3 → m c e = some q → SpT [] d (soff c e) (tabAt src q) w ∧ ∀ va n cap, w.cell? ⟨d, soff c e + 17, none⟩ = some (.slice (some ⟨va, 0, none⟩) n cap) → va ≠ d
  empty : ∀ c e, c ≤ 1 → e ≤ 3 → m c e = none → w.cell? ⟨d, soff c e + 17, none⟩ = some (.slice none 0 0)

section
variable {d : Nat} {src : List UInt8} {m : Nat → Nat → Option Nat} {w w' : World}
theorem SpD.lt (h : SpD d src m w) : d < w.heap.size := World.block_lt_of_cell? _ _ h.proc
theorem SpD.only (h : SpD d src m w) {U : List Nat} (k : Only U w w') (hU : ∀ x, x ∈ U → w.heap.size ≤ x) : SpD d src m w' := by
  have hl := h.lt
  have hd : d ∉ U := fun hm => by have := hU d hm; omega
  exact { there := fun j hj => by rw [k.cell hl hd, k.frozen hl hd]; exact h.there j hj
          proc := by rw [k.cell hl hd]; exact h.proc
          tabs := fun c e q h1 h2 h3 => ⟨(h.tabs c e q h1 h2 h3).1.only k (fun x hx => .inr (hU x hx)), by rw [k.cell hl hd]; exact (h.tabs c e q h1 h2 h3).2⟩
          empty := fun c e h1 h2 h3 => by rw [k.cell hl hd]; exact h.empty c e h1 h2 h3 }

/-- A table in a block that a store of cells of that block does not touch. -/
theorem SpT.apart {o o' : Nat} {T : Tab} {vs : List Value} (h : SpT [] d o T w) (hva : ∀ va cap, w.cell? ⟨d, o + 17, none⟩ = some (.slice (some ⟨va, 0, none⟩) T.sym.length cap) → va ≠ d) (hap : o + 18 ≤ o' ∨ o' + vs.length ≤ o) : SpT [] d o T (w.setCells d o' vs) := by
  have keep : ∀ k, k < 18 → (w.setCells d o' vs).cell? ⟨d, o + k, none⟩ = w.cell? ⟨d, o + k, none⟩ := fun k hk =>
    World.cell?_setCells_out d vs o' w ⟨d, o + k, none⟩ (fun _ _ => by rcases hap with hap | hap; · left; show o + k < o'; omega
                                                                       · right; show o' + vs.length ≤ o + k; omega)
  obtain ⟨va, cap, h1, h2, h3⟩ := h.vals
  exact { cnt := fun i h1 h2 => by rw [keep i (by omega)]; exact h.cnt i h1 h2
          vals := ⟨va, cap, by rw [keep 17 (by omega)]; exact h1, h2, fun k hk => by
            rw [World.cell?_setCells_out d vs o' w ⟨va, k, none⟩ (fun hb _ => absurd hb (hva va cap h1))]; exact h3 k hk⟩
          pos := h.pos, nd := h.nd, sum := h.sum, small := h.small, byte := h.byte }

theorem SpD.put (h : SpD d src m w) {C D q g cap tot o : Nat} {cs : List Value} (hC : C ≤ 1) (hD : D ≤ 3) (ho : o = soff C D) (hcs : cs.length = 18) (hcnt : ∀ i, 0 < i → i < 17 → cs[i]? = some (.int .i64 (byteAt src (q + i)))) (hv : cs[17]? = some (.slice (some ⟨g, 0, none⟩) tot cap))
    (htot : tot = totalAt src q) (hlen : q + 17 + tot ≤ src.length) (hpos : 0 < tot) (hg : g ≠ d) (hcells : ∀ k, k < tot → w.cell? ⟨g, k, none⟩ = some (.int .i64 (byteAt src (q + 17 + k)))) :
    SpD d src (fun c e => if c = C ∧ e = D then some q else m c e) (w.setCells d o cs) := by
  subst ho
  have hin : ∀ j v, cs[j]? = some v → (w.setCells d (soff C D) cs).cell? ⟨d, soff C D + j, none⟩ = some v := by
    intro j v hj
    have hjl := (List.getElem?_eq_some_iff.1 hj).1
    rw [World.cell?_setCells_in d cs (soff C D) w (fun i hi => (h.there (soff C D + i) (by unfold soff; omega)).1) j hjl, ← hj, List.getElem?_eq_getElem hjl]
  have hout : ∀ x, x < soff C D ∨ soff C D + 18 ≤ x → (w.setCells d (soff C D) cs).cell? ⟨d, x, none⟩ = w.cell? ⟨d, x, none⟩ := fun x hx =>
    World.cell?_setCells_out d cs (soff C D) w ⟨d, x, none⟩ (fun _ _ => by rw [hcs]; exact hx)
  have hother : ∀ b k, b ≠ d → (w.setCells d (soff C D) cs).cell? ⟨b, k, none⟩ = w.cell? ⟨b, k, none⟩ := fun b k hb =>
    World.cell?_setCells_out d cs (soff C D) w ⟨b, k, none⟩ (fun e _ => absurd e hb)
  have hsl : (tabAt src q).sym.length = tot := by rw [tabAt_length src q (by omega), htot]
  refine { there := fun j hj => ⟨World.isSome_setCells d cs _ w _ (h.there j hj).1, by rw [World.frozen?_setCells]; exact (h.there j hj).2⟩, proc := by rw [hout 6 (by unfold soff; omega)]; exact h.proc, tabs := fun c e q' h1 h2 h3 => ?_, empty := fun c e h1 h2 h3 => ?_ }
  · have h4 : (if c = C ∧ e = D then some q else m c e) = some q' := h3
    clear h3
    rename _ = some q' => h3
    by_cases hce : c = C ∧ e = D
    · rw [if_pos hce] at h3
      obtain ⟨rfl, rfl⟩ := hce
      have hqq := Option.some.inj h3
      subst hqq
      refine ⟨{ cnt := fun i h1 h2 => hin i _ (hcnt i h1 (by omega)), vals := ⟨g, cap, by rw [hsl]; exact hin 17 _ hv, by simp, fun k hk => ?_⟩, pos := by rw [hsl]; exact hpos, nd := by simp, sum := fun i hi => ?_, small := fun i => tabAt_cnt src q i, byte := fun k => tabAt_byte src q k }, fun va n cap' hh => ?_⟩
      · rw [hsl] at hk
        rw [hother g k hg, hcells k hk, tabAt_sym src q k (by omega) (by omega)]
      · rw [← Tab.idx_succ _ (i + 1) (by omega), hsl, htot, ← tabAt_total]
        exact Tab.idx_mono _ (by omega)
      · rw [hin 17 _ hv] at hh
        cases hh; exact hg
    · rw [if_neg hce] at h3
      obtain ⟨t1, t2⟩ := h.tabs c e q' h1 h2 h3
      have hdis : soff c e + 18 ≤ soff C D ∨ soff C D + 18 ≤ soff c e := by unfold soff; omega
      refine ⟨t1.apart (fun va cap hh => t2 va _ cap hh) (by rw [hcs]; exact hdis), ?_⟩
      rw [hout _ (by omega)]; exact t2
  · have h3 : (if c = C ∧ e = D then some q else m c e) = none := h3
    by_cases hce : c = C ∧ e = D
    · rw [if_pos hce] at h3; cases h3
    · rw [if_neg hce] at h3
      have hdis : soff c e + 18 ≤ soff C D ∨ soff C D + 18 ≤ soff c e := by unfold soff; omega
      rw [hout _ (by omega)]; exact h.empty c e h1 h2 h3

/-- As many as there are bytes. -/
theorem nodup_le : ∀ (n : Nat) (l : List Nat), l.Nodup → (∀ x ∈ l, x < n) → l.length ≤ n := by
  intro n
  induction n with
  | zero =>
    intro l _ h
    cases l with
    | nil => exact Nat.le_refl _
    | cons a r => exact absurd (h a (by simp)) (Nat.not_lt_zero _)
  | succ n ih =>
    intro l hn h
    have h1 := ih (l.erase n) (hn.erase n) (fun x hx => by
      have h2 := (hn.mem_erase_iff).1 hx
      have := h x h2.2
      have := h2.1
      omega)
    have h3 := List.length_erase (l := l) (a := n)
    split at h3 <;> omega
end
end Go.Proofs.YtdjilplpbaackaaDoor
