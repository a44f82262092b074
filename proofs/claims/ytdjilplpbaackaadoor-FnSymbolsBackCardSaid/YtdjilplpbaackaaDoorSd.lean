/-
  The standard's side: spec.Codes. Conditions: the symbols lie in memory; the counts are sixteen bytes.
-/
import Derived.Test.YtdjilplpbaackaaDoorSc
import Derived.OwnWalk
namespace Go.Proofs.YtdjilplpbaackaaDoor
open Go.RowKit

/-- The segment of a table: its class and number 1, the counts, the symbols. -/
def seg (cs ss : List UInt8) : List UInt8 := 17 :: (cs ++ ss)
/-- What spec.Codes answers. -/
def ScEnd (cs ss : List UInt8) (w : World) (e : Ending) (w' : World) : Prop :=
  ∃ (A : Array Value) (ok : Bool), e = .returned (.tuple #[.agg A, .bool ok]) ∧ A.size = 512 ∧ One A ∧ Only [] w w' ∧
    (ok = true → (tabAt (seg cs ss) 0).Strict ∧ (tabAt (seg cs ss) 0).idx 17 = ss.length ∧ 0 < ss.length ∧
      (∀ j, j < ss.length → ∃ l : Nat, 1 ≤ l ∧ A[byteAt ss j * 2]? = some (.int .i64 l)) ∧ ∀ i j, i < j → j < ss.length → byteAt ss i ≠ byteAt ss j)
theorem one35 : One Tryd.zeroCells35 := One.of_all (by kernel_rfl)
theorem z35 : Tryd.zeroCells35 = Array.replicate 512 (.int .i64 0) := by kernel_rfl

theorem seg_cnt {cs ss : List UInt8} {i : Nat} {u : UInt8} (h : cs[i]? = some u) : (tabAt (seg cs ss) 0).cnt (i + 1) = u.toNat := by
  show byteAt (17 :: (cs ++ ss)) (0 + (i + 1)) = _
  have hi : i < cs.length := (List.getElem?_eq_some_iff.1 h).1
  unfold byteAt
  rw [List.getD_eq_getElem?_getD, Nat.zero_add, List.getElem?_cons_succ, List.getElem?_append_left hi, h]; rfl
theorem run_index16 {C : Array Value} {i n : Nat} (hi : i < 16) (h : C[i]? = some (.int .u8 (n : Int))) (w : World) : (Instr.index 30 (.agg C) (.int .i64 (i : Int))).run Tryd.prog w = .ok (.int .u8 (n : Int)) w := by
  have h1 : (0 : Int) ≤ (i : Int) ∧ (i : Int) < 16 := by omega
  simp [Instr.index, run_underlying Tryd.underlying30, asIntOf, go_sem, h1, h]
  intro h; omega
theorem SrcAt.fresh {S : List Nat} {ca : Option Addr} {src : List UInt8} {w w' : World} (h : SrcAt [] ca src w) (hO : Only [] w w') (hS : ∀ x, x ∈ S → w.heap.size ≤ x) : SrcAt S ca src w' := by
  intro k u hu
  obtain ⟨ad, h1, _, h3⟩ := h k u hu
  have hlt := World.block_lt_of_cell? _ _ h3
  rw [Addr.block_add] at hlt
  exact ⟨ad, h1, fun hm => by have := hS _ hm; omega, (hO.cell (by rw [Addr.block_add]; exact hlt) (by simp)).trans h3⟩
section
variable {sa : Option Addr} {cs ss : List UInt8} {C : Array Value} {cap : Nat} {w : World}
set_option maxRecDepth 100000 in
set_option maxHeartbeats 8000000 in
theorem spec_codes_ (hS : SrcAt [] sa ss w) (hlen : ss.length ≤ 4000000000) (hC : C.size = 16) (h16 : cs.length = 16) (hCc : ∀ (j : Nat) (u : UInt8), j < 16 → cs[j]? = some u → C[j]? = some (.int .u8 u.toNat)) :
    Calls Tryd.prog 9 #[.agg C, .slice sa ss.length cap] w (ScEnd cs ss w) := by
  have HS := Lib.hid hS; clear hS
  have HCS := Lib.hid hC; clear hC
  have HCC := Lib.hid hCc; clear hCc
  go_enter Tryd.func9, Tryd.ntmps9
  go_upto_region 3 with (fail)
  generalize hw1 : World.alloc _ _ = w1
  obtain ⟨g, hg⟩ : ∃ g, g = w.heap.size := ⟨_, rfl⟩
  rw [← hg]
  have hBx : w1.heap[g]? = some (.cells C 30 (0, 0)) := by rw [← hw1, hg, heap_alloc_old _ _ (by simp; omega)]; exact heap_alloc2_old w _ _
  have hR1 : ArrS (g + 1) w1 := ⟨_, by rw [← hw1, hg, heap_alloc_old _ _ (by simp)]; exact heap_alloc2_new w _ _, Tryd.zeroCells35_size, one35⟩
  have hO1 : OutS (g + 1 + 1) ss 0 w1 := ⟨_, by rw [← hw1, hg, show w.heap.size + 1 + 1 = ((w.alloc (.cells C 30)).alloc (.cells Tryd.zeroCells35 35)).heap.size from by simp]; exact heap_alloc_new _ _, Tryd.zeroCells35_size, one35,
    fun x hx _ => by rw [z35, Array.getElem?_replicate, if_pos (by omega)], fun j hj => by omega, fun i j _ hj => by omega⟩
  have hOn : Only [] w w1 := by rw [← hw1]; exact (((Only.refl _ _).alloc _).alloc _).alloc _
  have hgw : w.heap.size ≤ g := by omega
  have hgs : g + 1 + 1 < w1.heap.size := by rw [← hw1, hg]; simp
  clear hw1 hg
  obtain ⟨T, hT⟩ : ∃ T, T = tabAt (seg cs ss) 0 := ⟨_, rfl⟩
  have HON := Lib.hid hOn; clear hOn
  have HBX := Lib.hid hBx
  go_upto_block 0 with (first | (with_reducible show wpList _ _ _ (_ :: _) _ _; refine wpList_load_row rfl 30 (.tmp 2) rfl g rfl 30 C (0, 0) _ hBx Tryd.underlying30 rfl (by rw [size30, HCS.out]) ?_))
  clear hBx
  have HT := Lib.hid hT; clear hT
  have HR1 := Lib.hid hR1; clear hR1
  have HO1 := Lib.hid hO1; clear hO1
  refine wp_block ?_
  go_loopw [7, 8, 13] (fun v7 v8 v13 wr => ∃ i : Nat, i ≤ 16 ∧ v7 = .int .i64 ((T.fst (i + 1) : Nat) : Int) ∧ v8 = .int .i64 ((T.idx (i + 1) : Nat) : Int) ∧ v13 = .int .i64 i ∧ OutS (g + 1 + 1) ss (T.idx (i + 1)) wr ∧ T.idx (i + 1) ≤ ss.length ∧
    (∀ j, 1 ≤ j → j ≤ i → T.fst j + T.cnt j + 1 ≤ 2 ^ j) ∧ T.fst (i + 1) + 1 ≤ 2 ^ (i + 1) ∧ Only [g + 1 + 1] w1 wr) (fun _ _ v13 _ => 16 - (intOf v13).toNat)
  case atStart => exact ⟨0, by omega, rfl, rfl, rfl, HO1.out, by show 0 ≤ _; omega, fun j h1 h2 => by omega, by show 0 + 1 ≤ 2 ^ (0 + 1); decide, Only.refl _ _⟩
  case round =>
    obtain ⟨i, hi, rfl, rfl, rfl, hO, hidx, hk, hf, hOn⟩ := hrel
    obtain ⟨F, hF⟩ : ∃ F, F = T.fst (i + 1) := ⟨_, rfl⟩
    obtain ⟨X, hX⟩ : ∃ X, X = T.idx (i + 1) := ⟨_, rfl⟩
    rw [← hF] at hf ⊢
    rw [← hX] at hO hidx ⊢
    have HF := Lib.hid hF; clear hF
    have HX := Lib.hid hX; clear hX
    have HO := Lib.hid hO; clear hO
    have HK := Lib.hid hk; clear hk
    have HFP := Lib.hid hf; clear hf
    have HOn := Lib.hid hOn; clear hOn
    by_cases hi16 : i < 16
    · obtain ⟨u, hu⟩ : ∃ u, cs[i]? = some u := ⟨_, List.getElem?_eq_getElem (by omega)⟩
      obtain ⟨n, hn⟩ : ∃ n, n = u.toNat := ⟨_, rfl⟩
      have hCi := HCC.out i u hi16 hu
      rw [← hn] at hCi
      have hn255 : n ≤ 255 := by have := u.toNat_lt; omega
      have f1 : decide ((i : Int) < 16) = true := decide_eq_true (by omega)
      have f2 : (0 : Int) ≤ (i : Int) := by omega
      have f3 : (i : Int).toNat = i := by omega
      have f4 : (i : Int) < 16 := by omega
      have hix := run_index16 hi16 hCi
      have HU := Lib.hid hu; clear hu
      have HN := Lib.hid hn; clear hn
      go_upto_block 2 with (fail)
      have hOw : Only [] w wr := HON.out.andThen HOn.out (by simp; omega)
      have hsz := HOn.out.size
      refine scLoop (O := g + 1 + 1) (R := g + 1) (F := F) (X := X) (L := i + 1) (n := n) (HS.out.fresh hOw (by simp; omega)) hlen HO.out (HR1.out.only HOn.out (by simp)) (by omega) (by omega) (by omega) hn255 hidx HFP.out _ ?_ ?_
      · intro tmps w' h4 h5 hA hO'
        obtain ⟨A, hA1, hA2, hA3⟩ := hA
        exact ret_cell (P := Tryd.prog) (fn := Tryd.f9) (R := ScEnd cs ss w) rfl h4 h5 hA1 Tryd.underlying35 rfl (by rw [size35, hA2]) rfl ⟨A, false, rfl, hA2, hA3, hOw.andThen hO' (by simp; omega), fun h => by cases h⟩
      · intro z5 z21 z22 z23 z24 z25 z26 z27 z28 z29 z30 z31 z32 z33 z34 z35 z36 z37 z38 z39 z40 z41 z42 z43 z44 z45 z46 z47 z48 z49 z50 z51 z52 z53 z54 z55 z56 w' hO2 hX2 hF2 hOn2
        have HO2 := Lib.hid hO2; clear hO2
        have hOn3 : Only [g + 1 + 1] w1 w' := HOn.out.trans hOn2
        have HOn3 := Lib.hid hOn3; clear hOn3 hOn2
        have hp : 2 ^ (i + 1) ≤ 65536 := by have := Nat.pow_le_pow_right (show 0 < 2 by decide) (show i + 1 ≤ 16 by omega); simpa using this
        obtain ⟨F', hF'⟩ : ∃ F', F' = F + n := ⟨_, rfl⟩
        obtain ⟨X', hX'⟩ : ∃ X', X' = X + n := ⟨_, rfl⟩
        rw [← hF'] at hF2 ⊢
        rw [← hX'] at hX2 ⊢
        have hF65 : F' ≤ 65536 := by omega
        have HF2 := Lib.hid hF2; clear hF2 hp
        have HX' := Lib.hid hX'; clear hX'
        have HF' := Lib.hid hF'; clear hF'
        clear hix hCi f1 f2 f3
        go_wp2
        have hcnt : T.cnt (i + 1) = n := by rw [HT.out, seg_cnt HU.out, HN.out]
        have e1 : T.fst (i + 1 + 1) = 2 * F' := by rw [T.fst_succ _ (by omega), hcnt, ← HF.out, HF'.out]
        have e2 : T.idx (i + 1 + 1) = X' := by rw [T.idx_succ _ (by omega), hcnt, ← HX.out, HX'.out]
        have hF2 := HF2.out
        refine ⟨⟨i + 1, by omega, congrArg _ (by rw [e1]; omega), by rw [e2], rfl, by rw [e2, HX'.out]; exact HO2.out, by rw [e2]; exact hX2, ?_, by rw [e1, Nat.pow_succ]; omega, HOn3.out⟩, by simp [intOf]; omega⟩
        intro j h1 h2
        by_cases hj : j = i + 1
        · subst hj
          rw [hcnt, ← HF.out, ← HF'.out]; exact hF2
        · exact HK.out j h1 (by omega)
    · obtain rfl : i = 16 := by omega
      obtain ⟨A, hA1, hA2, hA3, _, hset, hnd⟩ := HO.out
      obtain ⟨old, hold, hosz, _⟩ := HR1.out.only HOn.out (by simp)
      have hOw : Only [] w (wr.setRow (g + 1) A) := (HON.out.andThen HOn.out (by simp; omega)).setRow (.inr (by omega)) A
      have f1 : decide (((16 : Nat) : Int) < 16) = false := by decide
      have HA := Lib.hid (And.intro hset hnd); clear hset hnd
      by_cases hXL : X = ss.length
      · have f2 : ((X : Int) == (ss.length : Int)) = true := by simp; omega
        have HXL := Lib.hid hXL
        by_cases hX0 : 0 < X
        · have f3 : decide (0 < (X : Int)) = true := decide_eq_true (by omega)
          clear hXL
          go_wp2_with (first | (with_reducible show wpList _ _ _ (_ :: _) _ _; refine wpList_load_row rfl 35 (.tmp 6) rfl (g + 1 + 1) rfl 35 A (0, 0) _ hA1 Tryd.underlying35 rfl (by rw [size35, hA2]) ?_) | (with_reducible show wpList _ _ _ (_ :: _) _ _; refine wpList_store_row rfl 35 (.tmp 4) (.tmp 60) rfl (g + 1) 35 old A rfl rfl hold (by rw [size35, hA2]) (by rw [hosz, hA2]) hA3.all ?_))
          refine ret_cell (P := Tryd.prog) (fn := Tryd.f9) (R := ScEnd cs ss w) rfl rfl rfl (heap_setRow hold) Tryd.underlying35 rfl (by rw [size35, hA2]) rfl ⟨A, true, rfl, hA2, hA3, hOw, fun _ => ?_⟩
          refine ⟨by rw [← HT.out]; exact fun j h1 h2 => HK.out j h1 h2, by rw [← HT.out, ← HX.out]; exact HXL.out, by rw [← HXL.out]; exact hX0, ?_, ?_⟩
          · rw [← HXL.out]; exact HA.out.1
          · rw [← HXL.out]; exact HA.out.2
        · have f3 : decide (0 < (X : Int)) = false := decide_eq_false (by omega)
          clear hXL
          go_wp2_with (first | (with_reducible show wpList _ _ _ (_ :: _) _ _; refine wpList_load_row rfl 35 (.tmp 6) rfl (g + 1 + 1) rfl 35 A (0, 0) _ hA1 Tryd.underlying35 rfl (by rw [size35, hA2]) ?_) | (with_reducible show wpList _ _ _ (_ :: _) _ _; refine wpList_store_row rfl 35 (.tmp 4) (.tmp 60) rfl (g + 1) 35 old A rfl rfl hold (by rw [size35, hA2]) (by rw [hosz, hA2]) hA3.all ?_))
          exact ret_cell (P := Tryd.prog) (fn := Tryd.f9) (R := ScEnd cs ss w) rfl rfl rfl (heap_setRow hold) Tryd.underlying35 rfl (by rw [size35, hA2]) rfl ⟨A, false, rfl, hA2, hA3, hOw, fun h => by cases h⟩
      · have f2 : ((X : Int) == (ss.length : Int)) = false := by simp; omega
        clear hXL
        go_wp2_with (first | (with_reducible show wpList _ _ _ (_ :: _) _ _; refine wpList_load_row rfl 35 (.tmp 6) rfl (g + 1 + 1) rfl 35 A (0, 0) _ hA1 Tryd.underlying35 rfl (by rw [size35, hA2]) ?_) | (with_reducible show wpList _ _ _ (_ :: _) _ _; refine wpList_store_row rfl 35 (.tmp 4) (.tmp 60) rfl (g + 1) 35 old A rfl rfl hold (by rw [size35, hA2]) (by rw [hosz, hA2]) hA3.all ?_))
        exact ret_cell (P := Tryd.prog) (fn := Tryd.f9) (R := ScEnd cs ss w) rfl rfl rfl (heap_setRow hold) Tryd.underlying35 rfl (by rw [size35, hA2]) rfl ⟨A, false, rfl, hA2, hA3, hOw, fun h => by cases h⟩
end
end Go.Proofs.YtdjilplpbaackaaDoor
