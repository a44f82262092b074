/-
  ZZEmit and impl.Emit: words are written and seven ones. Conditions: the two slices' cells lie in memory; each number fits its length, at most 16 bits.
-/
import Derived.Test.YtdjilplpbaackaaDoorEm
import Derived.Deep.WholeRow
namespace Go.Proofs.YtdjilplpbaackaaDoor
open Go.RowKit

/-- The numbers lie in memory. -/
def NumAt (sa : Option Addr) (xs : List Nat) (w : World) : Prop :=
  ∀ (k x : Nat), xs[k]? = some x → ∃ ad, sa = some ad ∧ w.cell? (ad.add k) = some (.int .u32 x)

theorem length_flat8 (D : List Nat) : (D.flatMap (lowbits 8)).length = 8 * D.length := by
  induction D with
  | nil => rfl
  | cons b D ih => rw [List.flatMap_cons, List.length_append, ih, length_lowbits, List.length_cons]; omega
theorem length_wbits (Q : List Word) (h : ∀ q ∈ Q, q.n ≤ 16) : (wbits Q).length ≤ 16 * Q.length := by
  induction Q with
  | nil => exact Nat.le_refl _
  | cons q Q ih =>
    have h1 := h q (by simp)
    have h2 := ih (fun x hx => h x (by simp [hx]))
    unfold wbits at h2 ⊢
    rw [List.flatMap_cons, List.length_append, length_lowbits, List.length_cons]; omega

theorem size130 : (Tryd.prog.info? 130).map (·.size) = some 152 := by kernel_rfl
theorem one130 (v : Addr) : (Tryd.zeroCells130.setIfInBounds 0 (.iface 123 (.agg #[.pointer (some v)]))).all (·.oneCell') = true := by kernel_rfl
theorem z130_1 : Tryd.zeroCells130[1]? = some .nilIface := by kernel_rfl
theorem z130_18 : Tryd.zeroCells130[18]? = some (.int .u32 0) := by kernel_rfl
theorem z130_19 : Tryd.zeroCells130[19]? = some (.int .u32 0) := by kernel_rfl
/-- What ZZEmit answers. -/
def EzEnd (Q : List Word) (w : World) (e : Ending) (w' : World) : Prop :=
  ∃ v D j, e = .returned v ∧ j ≤ 7 ∧ (∀ x ∈ D, x < 256) ∧ w'.ownsRow w.heap.size 5 1 v (stuff D).length (Lib.byteCells (stuff D)) ∧ D.flatMap (lowbits 8) = wbits Q ++ List.replicate j true ∧ Only [] w w'

section
variable {ba la : Option Addr} {bcap lcap : Nat} {Q : List Word} {w : World}

set_option maxRecDepth 100000 in
set_option maxHeartbeats 4000000 in
theorem zz_emit (hb : NumAt ba (Q.map (·.v)) w) (hl : NumAt la (Q.map (·.n)) w) (hq : ∀ q ∈ Q, q.n ≤ 16 ∧ q.v < 2 ^ q.n) (hN : Q.length ≤ 4000000000) (hbc : Q.length ≤ bcap) (hlc : Q.length ≤ lcap) :
    Calls Tryd.prog 17 #[.slice ba Q.length bcap, .slice la Q.length lcap] w (EzEnd Q w) := by
  have HB := Lib.hid hb; clear hb
  have HL := Lib.hid hl; clear hl
  have HQ := Lib.hid hq; clear hq
  obtain ⟨N, hNN⟩ : ∃ N, N = Q.length := ⟨_, rfl⟩
  rw [← hNN] at hN hbc hlc
  rw [← hNN]
  have HN := Lib.hid hNN; clear hNN
  have hst := run_storeCells_new (P := Tryd.prog) (w.alloc (.cells #[.slice none 0 0, .int .i64 0, .int .i8 0] 120)) 130 Tryd.zeroCells130 (Tryd.zeroCells130.setIfInBounds 0 (.iface 123 (.agg #[.pointer (some ⟨w.heap.size, 0, none⟩)])))
    (by rw [size130, Array.size_setIfInBounds, Tryd.zeroCells130_size]) (by rw [Array.size_setIfInBounds]) (one130 _)
  have hsz : (w.alloc (.cells #[.slice none 0 0, .int .i64 0, .int .i8 0] 120)).heap.size = w.heap.size + 1 := by simp
  rw [hsz, Array.toList_setIfInBounds] at hst
  clear hsz
  go_enter Tryd.func17, Tryd.ntmps17
  go_wp2_with (fail)
  clear hst
  generalize hw1 : World.alloc _ _ = w1
  obtain ⟨g, hg⟩ : ∃ g, g = w.heap.size := ⟨_, rfl⟩
  have hE0 : EncD (g + 1) g g [] 0 0 w1 := by
    subst hg
    have hrow : w1.heap[w.heap.size + 1]? = some (.cells (Tryd.zeroCells130.setIfInBounds 0 (.iface 123 (.agg #[.pointer (some ⟨w.heap.size, 0, none⟩)]))) 130 (0, 0)) := by
      rw [← hw1]; exact heap_alloc2_new w _ _
    have hbuf : Lib.IsBuffer 120 5 w.heap.size w.heap.size [] w1 := by
      rw [← hw1]; exact (Lib.fresh_isBuffer 120 5 w).alloc _
    have hcell : ∀ k, k ≠ 0 → w1.cell? ⟨w.heap.size + 1, k, none⟩ = Tryd.zeroCells130[k]? := fun k hk => by
      rw [cell_of_row _ _ k _ _ _ hrow, Array.getElem?_setIfInBounds_ne (by omega)]
    refine ⟨⟨hbuf, ?_, ?_, ?_, ?_, ⟨_, hrow⟩, by omega, ?_, by intro v hv; simp [stuff, Lib.byteCells] at hv⟩, by omega, by decide, by intro x hx; simp at hx⟩
    · rw [cell_of_row _ _ 0 _ _ _ hrow, Array.getElem?_setIfInBounds_self_of_lt (by rw [Tryd.zeroCells130_size]; decide)]
    · rw [hcell 1 (by decide)]; exact z130_1
    · rw [hcell 18 (by decide), z130_18]; simp
    · rw [hcell 19 (by decide), z130_19]; rfl
    · rw [← hw1]; simp; omega
  have hB1 : Below g w w1 := by rw [← hw1, hg]; exact ((Below.refl _ _).alloc (Nat.le_refl _) _).alloc (by simp) _
  rw [← hg]
  have HG := Lib.hid hg; clear hg hw1
  go_loopw [14] (fun v14 wr => ∃ (i : Nat) (D : List Nat) (a p : Nat), i ≤ N ∧ v14 = .int .i64 i ∧ EncD (g + 1) g g D a p wr ∧ D.flatMap (lowbits 8) ++ lowbits p a = wbits (Q.take i) ∧ Below g w wr) (fun v14 _ => N - (intOf v14).toNat)
  case atStart => exact ⟨0, [], 0, 0, by omega, rfl, hE0, by simp [wbits, lowbits_zero], hB1⟩
  case round =>
    obtain ⟨i, D, a, p, hi, rfl, hE, hbits, hbel⟩ := hrel
    have hwb : (wbits (Q.take i)).length ≤ 16 * i := Nat.le_trans (length_wbits _ (fun q hq => (HQ.out q (List.mem_of_mem_take hq)).1)) (Nat.mul_le_mul_left _ (by rw [List.length_take]; exact Nat.min_le_left _ _))
    have hDl : D.length ≤ 10000000000 := by
      have := congrArg List.length hbits
      rw [List.length_append, length_flat8] at this
      omega
    have HE := Lib.hid hE; clear hE
    have HBITS := Lib.hid hbits; clear hbits
    have HBEL := Lib.hid hbel; clear hbel
    clear hwb
    by_cases hiN : i < N
    · have hiQ : i < Q.length := by rw [← HN.out]; exact hiN
      obtain ⟨q, hqi⟩ : ∃ q, q = Q[i] := ⟨_, rfl⟩
      have hQi : Q[i]? = some q := by rw [List.getElem?_eq_getElem hiQ, hqi]
      obtain ⟨hq1, hq2⟩ := HQ.out q (by rw [hqi]; exact List.getElem_mem _)
      obtain ⟨ad, rfl, hc1⟩ := HB.out i q.v (by rw [List.getElem?_map, hQi]; rfl)
      obtain ⟨ad2, rfl, hc2⟩ := HL.out i q.n (by rw [List.getElem?_map, hQi]; rfl)
      have hlt1 := World.block_lt_of_cell? _ _ hc1
      have hlt2 := World.block_lt_of_cell? _ _ hc2
      have hc1' := (HBEL.out.cell (by rw [HG.out]; exact hlt1)).trans hc1
      have hc2' := (HBEL.out.cell (by rw [HG.out]; exact hlt2)).trans hc2
      have f1 : decide ((i : Int) < (N : Int)) = true := decide_eq_true (by omega)
      have f2 : (0 : Int) ≤ (i : Int) := by omega
      have f3 : (i : Int).toNat = i := by omega
      have f4 : (i : Int) < (N : Int) := by omega
      have f5 : IntKind.i64.wrap ((i : Int) + 1) = ((i + 1 : Nat) : Int) := IntWalk.i64_in _ (by omega)
      clear hqi hc1 hc2 hlt1 hlt2
      have HQI := Lib.hid hQi; clear hQi
      go_wp2_with (fail)
      refine (emit_ HE.out q.v q.n hq2 hq1 hDl).mono ?_
      rintro e w2 ⟨rfl, D2, a2, p2, hE2, hb2, hbel2⟩
      have HE2 := Lib.hid hE2; clear hE2
      have HB2 := Lib.hid hb2; clear hb2
      have HBEL2 := Lib.hid hbel2; clear hbel2
      go_wp2
      go_roundw
      case measure => simp [intOf]; omega
      case rel =>
        refine ⟨i + 1, D2, a2, p2, by omega, rfl, HE2.out, ?_, HBEL.out.trans HBEL2.out⟩
        rw [HB2.out, HBITS.out, List.take_add_one, HQI.out]
        simp [wbits]
    · obtain rfl : i = N := by omega
      have f1 : decide ((i : Int) < (i : Int)) = false := decide_eq_false (by omega)
      have hall : wbits (Q.take i) = wbits Q := by rw [HN.out, List.take_length]
      have HALL := Lib.hid hall; clear hall
      go_wp2_with (fail)
      refine (emit_ HE.out 127 7 (by decide) (by decide) hDl).mono ?_
      rintro e w2 ⟨rfl, D2, a2, p2, hE2, hb2, hbel2⟩
      have HE2 := Lib.hid hE2; clear hE2
      have HB2 := Lib.hid hb2; clear hb2
      have HBEL2 := Lib.hid hbel2; clear hbel2
      go_wp2_with (fail)
      refine (buffer_Bytes g g _ w2 HE2.out.enc.buf).mono ?_
      rintro e w3 ⟨v3, rfl, hown, n3, rfl⟩
      have HOWN := Lib.hid hown; clear hown
      go_wp2
      go_ret
      obtain ⟨j, hj⟩ := ones_left (X := wbits Q) (Y := D2.flatMap (lowbits 8)) (P := lowbits p2 a2) (by rw [HB2.out, HBITS.out, HALL.out, lowbits_ones]) (by rw [length_lowbits]; exact HE2.out.p8)
      have hown := HOWN.out
      rw [Lib.byteCells_length] at hown
      have hj7 : j ≤ 7 := by
        have e1 := congrArg List.length hj
        have e2 := congrArg List.length (HB2.out.trans (congrArg (· ++ lowbits 7 127) (HBITS.out.trans HALL.out)))
        simp only [List.length_append, List.length_replicate, length_lowbits] at e1 e2
        omega
      have hbw := HBEL.out.trans HBEL2.out
      refine ⟨v3, D2, j, rfl, hj7, HE2.out.byte, by rw [← HG.out]; exact hown, hj, ⟨hbw.os, hbw.tape, hbw.output, hbw.size, fun k hk _ => hbw.block k (by rw [HG.out]; exact hk)⟩⟩

set_option maxRecDepth 100000 in
theorem impl_emit (hb : NumAt ba (Q.map (·.v)) w) (hl : NumAt la (Q.map (·.n)) w) (hq : ∀ q ∈ Q, q.n ≤ 16 ∧ q.v < 2 ^ q.n) (hN : Q.length ≤ 4000000000) (hbc : Q.length ≤ bcap) (hlc : Q.length ≤ lcap) :
    Calls Tryd.prog 11 #[.slice ba Q.length bcap, .slice la Q.length lcap] w (EzEnd Q w) := by
  have HZ := Lib.hid (zz_emit hb hl hq hN hbc hlc)
  clear hb hl hq hN hbc hlc
  go_enter Tryd.func11, Tryd.ntmps11
  go_wp2_with (fail)
  refine HZ.out.mono ?_
  rintro e w2 ⟨v, D, j, rfl, h0, h1, h2, h3, h4⟩
  have H := Lib.hid (And.intro h1 (And.intro h2 (And.intro h3 (And.intro h4 h0))))
  clear h0 h1 h2 h3 h4
  go_wp2
  go_ret
  exact ⟨v, D, j, rfl, H.out.2.2.2.2, H.out.1, H.out.2.1, H.out.2.2.1, H.out.2.2.2.1⟩
end
end Go.Proofs.YtdjilplpbaackaaDoor
