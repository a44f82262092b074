/-
  laws.FnSymbolsBack answers true. Conditions: the three slices' cells lie in memory; the three cells of the library's variables.
-/
import Derived.Test.YtdjilplpbaackaaDoorZc
import Derived.Test.YtdjilplpbaackaaDoorEz
import Derived.Test.YtdjilplpbaackaaDoorCt
import Derived.Test.YtdjilplpbaackaaDoorRe
import Derived.Deep.AppendLies
namespace Go.Proofs.YtdjilplpbaackaaDoor
open Go.RowKit

theorem decAll_words (T : Tab) (hS : T.Strict) (j : Nat) : ∀ (Q : List Word), (∀ q ∈ Q, q.Ok T) → decAll T (Q.length + 1) (wbits Q ++ List.replicate j true) = (Q.map (·.s), false) := by
  intro Q
  induction Q with
  | nil =>
    intro _
    show decAll T (0 + 1) (List.replicate j true) = _
    rw [decAll_none (T.decode_ones hS j)]; rfl
  | cons q Q ih =>
    intro hQ
    obtain ⟨k, h1, h2⟩ := hQ q (by simp)
    have e : wbits (q :: Q) ++ List.replicate j true = lowbits q.n q.v ++ (wbits Q ++ List.replicate j true) := by simp [wbits]
    rw [List.length_cons, e, decAll_some (T.decode_code hS h1 _), ih (fun x hx => hQ x (by simp [hx])), h2]
    rfl

/-- As many as there are bytes. -/
theorem nodup_few : ∀ (n : Nat) (l : List Nat), l.Nodup → (∀ x ∈ l, x < n) → l.length ≤ n := by
  intro n
  induction n with
  | zero =>
    intro l _ h
    cases l with
    | nil => exact Nat.le_refl _
    | cons a r => exact absurd (h a (by simp)) (Nat.not_lt_zero _)
  | succ n ih =>
    intro l hn h
    have h1 := ih (l.erase n) (hn.erase n) (fun x hx => by
      have h2 := (hn.mem_erase_iff).1 hx
      have := h x h2.2
      have := h2.1
      omega)
    have h3 := List.length_erase (l := l) (a := n)
    split at h3 <;> omega
/-- The segment is well formed. -/
theorem seg_ok {cs ss : List UInt8} (h16 : cs.length = 16) (hK : (tabAt (seg cs ss) 0).Strict) (hidx : (tabAt (seg cs ss) 0).idx 17 = ss.length) (hpos : 0 < ss.length) (hnd : ∀ i j, i < j → j < ss.length → byteAt ss i ≠ byteAt ss j) :
    ∃ m, Segs (seg cs ss) 0 (fun _ _ => none) m ∧ m 1 1 = some 0 := by
  have htot : totalAt (seg cs ss) 0 = ss.length := by rw [← tabAt_total, hidx]
  have hb : byteAt (seg cs ss) 0 = 17 := rfl
  have hlen : (seg cs ss).length = 0 + 17 + totalAt (seg cs ss) 0 := by rw [htot]; simp [seg, h16]; omega
  have hle : ss.length ≤ 256 := by
    have hn : (List.map (fun i => byteAt ss i) (List.range ss.length)).Nodup := by
      rw [List.Nodup, List.pairwise_map]
      exact List.pairwise_lt_range.imp_of_mem (fun {a b} ha hb hab => hnd a b hab (List.mem_range.1 hb))
    have := nodup_few 256 _ hn (fun x hx => by obtain ⟨k, _, rfl⟩ := List.mem_map.1 hx; exact byteAt_lt _ _)
    simpa using this
  have hok : DhtOk (seg cs ss) 0 := { cls := by rw [hb]; decide, dst := by rw [hb]; decide, kraft := fun i hi => by have := hK (i + 1) (by omega) (by omega); omega, pos := by rw [htot]; exact hpos, le := by rw [htot]; exact hle, len := by rw [hlen]; exact Nat.le_refl _ }
  exact ⟨_, Segs.more hok (by rw [← hlen]; exact Segs.done _), by rw [hb]; rfl⟩
theorem seg_sym {cs ss : List UInt8} (h16 : cs.length = 16) (hidx : (tabAt (seg cs ss) 0).idx 17 = ss.length) (k : Nat) (hk : k < ss.length) : (tabAt (seg cs ss) 0).sym.getD k 0 = byteAt ss k := by
  have htot : totalAt (seg cs ss) 0 = ss.length := by rw [← tabAt_total, hidx]
  have hlen : (seg cs ss).length = 0 + 17 + totalAt (seg cs ss) 0 := by rw [htot]; simp [seg, h16]; omega
  rw [tabAt_sym _ _ _ (by rw [hlen]; exact Nat.le_refl _) (by rw [htot]; exact hk)]
  unfold byteAt seg
  rw [List.getD_eq_getElem?_getD, List.getD_eq_getElem?_getD, show 0 + 17 + k = (16 + k) + 1 from by omega, List.getElem?_cons_succ, List.getElem?_append_right (by omega), show 16 + k - cs.length = k from by omega]

/-- A row of the call's own, by its cells. -/
theorem own_num {w : World} {base : Nat} {v : Value} {xs : List Nat} (h : w.ownsRow base 40 1 v xs.length (xs.map fun x => Value.int .u32 (x : Nat))) : ∃ sa cap, v = .slice sa xs.length cap ∧ xs.length ≤ cap ∧ NumAt sa xs w := by
  rcases h.2 with ⟨rfl, h0⟩ | ⟨g, cap, cur, rfl, hb, hg, h1, h2, h3, h4⟩
  · have : xs = [] := List.length_eq_zero_iff.1 h0
    subst this
    exact ⟨none, 0, rfl, Nat.le_refl _, fun k x hx => by simp at hx⟩
  · refine ⟨_, cap, rfl, h1, fun k x hx => ⟨_, rfl, ?_⟩⟩
    have hk : k < xs.length := (List.getElem?_eq_some_iff.1 hx).1
    have := h.cellAt k (by omega)
    rw [Addr.add_lit, Nat.zero_add, this, List.getElem?_map, hx]; rfl
theorem own_src {w : World} {base : Nat} {v : Value} {l : List UInt8} (h : w.ownsRow base 5 1 v l.length (Lib.byteCells l)) : ∃ sa cap, v = .slice sa l.length cap ∧ l.length ≤ cap ∧ SrcAt [] sa l w := by
  rcases h.2 with ⟨rfl, h0⟩ | ⟨g, cap, cur, rfl, hb, hg, h1, h2, h3, h4⟩
  · have : l = [] := List.length_eq_zero_iff.1 h0
    subst this
    exact ⟨none, 0, rfl, Nat.le_refl _, fun k x hx => by simp at hx⟩
  · refine ⟨_, cap, rfl, h1, fun k x hx => ⟨_, rfl, by simp, ?_⟩⟩
    have hk : k < l.length := (List.getElem?_eq_some_iff.1 hx).1
    have := h.cellAt k (by omega)
    rw [Addr.add_lit, Nat.zero_add, this, Lib.byteCells, List.getElem?_map, hx]; rfl
theorem own_slice {w : World} {base e size n : Nat} {v : Value} {xs : List Value} (h : w.ownsRow base e size v n xs) : ∃ sa cap, v = .slice sa n cap ∧ n ≤ cap := by
  rcases h.2 with ⟨rfl, h0⟩ | ⟨g, cap, cur, rfl, hb, hg, h1, h2, h3, h4⟩
  · subst h0
    exact ⟨none, 0, rfl, Nat.le_refl _⟩
  · exact ⟨_, cap, rfl, h1⟩
theorem rem_idx (p : Int) (L : Nat) (h0 : 0 < L) (h1 : L ≤ 2147483647) : ∃ x : Nat, x < L ∧ (wrap64 (p.tmod (L : Int) + (L : Int))).tmod (L : Int) = (x : Int) := by
  have a1 := Int.tmod_lt_of_pos p (show (0 : Int) < (L : Int) by omega)
  have a2 := Int.lt_tmod_of_pos p (show (0 : Int) < (L : Int) by omega)
  generalize p.tmod (L : Int) = r at a1 a2 ⊢
  rw [IntWalk.wrap64_in _ (by omega)]
  have b1 := Int.tmod_lt_of_pos (r + (L : Int)) (show (0 : Int) < (L : Int) by omega)
  have b2 := Int.tmod_nonneg (a := r + (L : Int)) (L : Int) (by omega)
  generalize (r + (L : Int)).tmod (L : Int) = y at b1 b2 ⊢
  exact ⟨y.toNat, by omega, by omega⟩
theorem sep_of {v u : Value} (h : ∀ k, v.ownBlock = some k → u.ownBlock ≠ some k) : u.ownBlock = none ∨ u.ownBlock ≠ v.ownBlock := by
  cases hu : u.ownBlock with
  | none => exact .inl rfl
  | some k => exact .inr fun e => h k e.symm hu
theorem new_one (w : World) (v : Value) (t : TypeId) : ∀ (j : Nat) (x : Value), [v][j]? = some x → (w.alloc (.cells #[v] t)).cell? ((⟨w.heap.size, 0, none⟩ : Addr).add j) = some x := by
  intro j x hj
  have hj0 : j < 1 := (List.getElem?_eq_some_iff.1 hj).1
  obtain rfl : j = 0 := by omega
  cases hj
  rw [Addr.add_lit, Nat.zero_add, cell_of_row _ _ 0 _ _ _ (heap_alloc_new w _)]; rfl
theorem new_one2 (w : World) (v u : Value) (t : TypeId) : ∀ (j : Nat) (x : Value), [v][j]? = some x → ((w.alloc (.cells #[v] t)).alloc (.cells #[u] t)).cell? ((⟨w.heap.size, 0, none⟩ : Addr).add j) = some x := by
  intro j x hj
  have hj0 : j < 1 := (List.getElem?_eq_some_iff.1 hj).1
  obtain rfl : j = 0 := by omega
  cases hj
  rw [Addr.add_lit, Nat.zero_add, cell_of_row _ _ 0 _ _ _ (heap_alloc2_old w _ _)]; rfl
theorem new_one3 (w : World) (v u : Value) (t : TypeId) : ∀ (j : Nat) (x : Value), [v][j]? = some x → ((w.alloc (.cells #[u] t)).alloc (.cells #[v] t)).cell? ((⟨w.heap.size + 1, 0, none⟩ : Addr).add j) = some x := by
  intro j x hj
  have hj0 : j < 1 := (List.getElem?_eq_some_iff.1 hj).1
  obtain rfl : j = 0 := by omega
  cases hj
  rw [Addr.add_lit, Nat.zero_add, cell_of_row _ _ 0 _ _ _ (heap_alloc2_new w _ _)]; rfl
theorem far_news {w w' : World} {row : Option Nat} {g : Nat} {v : Value} (hg : w.grownBy w' row) (hlt : g < w.heap.size) (hne : some g ≠ row) (h : ∀ (j : Nat) (x : Value), [v][j]? = some x → w.cell? ((⟨g, 0, none⟩ : Addr).add j) = some x) :
    ∀ (j : Nat) (x : Value), [v][j]? = some x → w'.cell? ((⟨g, 0, none⟩ : Addr).add j) = some x := fun j x hj => by
  rw [hg.cell_far _ (by rw [Addr.block_add]; exact hlt) (by rw [Addr.block_add]; exact hne)]; exact h j x hj
theorem row_keep {w w' : World} {base e size n : Nat} {v : Value} {xs : List Value} {S : List Nat} (h : w.ownsRow base e size v n xs) (hO : Only S w w') (hne : ∀ k, v.ownBlock = some k → k ∉ S) : w'.ownsRow base e size v n xs := by
  refine ⟨h.1, ?_⟩
  rcases h.2 with h0 | ⟨g, cap, cur, rfl, hb, hg, r⟩
  · exact .inl h0
  · exact .inr ⟨g, cap, cur, rfl, hb, by rw [hO.block g (Lib.lt_of_heap hg) (hne g rfl)]; exact hg, r⟩
/-- Integers that came in. -/
def IntAt (sa : Option Addr) (xs : List Int) (w : World) : Prop :=
  ∀ (k : Nat) (x : Int), xs[k]? = some x → ∃ ad, sa = some ad ∧ w.cell? (ad.add k) = some (.int .i64 x) ∧ -9223372036854775808 ≤ x ∧ x ≤ 9223372036854775807

section
variable {a1 a2 a3 : Option Addr} {cs ss : List UInt8} {ps : List Int} {k1 k2 k3 : Nat} {e1 e2 : Addr} {w : World}
set_option maxRecDepth 100000 in
set_option maxHeartbeats 8000000 in
theorem fn_back (hg : w.cell? ⟨0, 0, none⟩ = some (.iface 158 (.agg #[.pointer (some ⟨4, 65, none⟩)])))
    (h1 : w.cell? ⟨1, 0, none⟩ = some (.iface 175 (.pointer (some e1)))) (h2 : w.cell? ⟨2, 0, none⟩ = some (.iface 175 (.pointer (some e2))))
    (hc : SrcAt [] a1 cs w) (hs : SrcAt [] a2 ss w) (hp : IntAt a3 ps w) (hk1 : cs.length ≤ k1) (hk2 : ss.length ≤ k2) :
    Calls Tryd.prog 4 #[.slice a1 cs.length k1, .slice a2 ss.length k2, .slice a3 ps.length k3] w fun e w' => e = .returned (.bool true) ∧ Only [] w w' := by
  have HG := Lib.hid hg; clear hg
  have H1 := Lib.hid h1; clear h1
  have H2 := Lib.hid h2; clear h2
  have HC := Lib.hid hc; clear hc
  have HS := Lib.hid hs; clear hs
  have HP := Lib.hid hp; clear hp
  have HK1 := Lib.hid hk1; clear hk1
  have HK2 := Lib.hid hk2; clear hk2
  obtain ⟨L1, hL1⟩ : ∃ L, L = cs.length := ⟨_, rfl⟩
  obtain ⟨L2, hL2⟩ : ∃ L, L = ss.length := ⟨_, rfl⟩
  obtain ⟨L3, hL3⟩ : ∃ L, L = ps.length := ⟨_, rfl⟩
  rw [← hL1, ← hL2, ← hL3]
  have HL1 := Lib.hid hL1; clear hL1
  have HL2 := Lib.hid hL2; clear hL2
  have HL3 := Lib.hid hL3; clear hL3
  by_cases hA : (2147483647 : Int) < (L1 : Int)
  · have hA' : decide ((2147483647 : Int) < (L1 : Int)) = true := decide_eq_true hA
    go_enter Tryd.func4, Tryd.ntmps4
    go_wp2
    go_ret
    exact ⟨rfl, Only.refl _ _⟩
  have hA' : decide ((2147483647 : Int) < (L1 : Int)) = false := decide_eq_false hA
  by_cases hB : (2147483647 : Int) < (L2 : Int)
  · have hB' : decide ((2147483647 : Int) < (L2 : Int)) = true := decide_eq_true hB
    go_enter Tryd.func4, Tryd.ntmps4
    go_wp2
    go_ret
    exact ⟨rfl, Only.refl _ _⟩
  have hB' : decide ((2147483647 : Int) < (L2 : Int)) = false := decide_eq_false hB
  by_cases hD : (2147483647 : Int) < (L3 : Int)
  · have hD' : decide ((2147483647 : Int) < (L3 : Int)) = true := decide_eq_true hD
    go_enter Tryd.func4, Tryd.ntmps4
    go_wp2
    go_ret
    exact ⟨rfl, Only.refl _ _⟩
  have hD' : decide ((2147483647 : Int) < (L3 : Int)) = false := decide_eq_false hD
  have hct := counted_ (cap := k1) HC.out (by have := HL1.out; omega)
  rw [← HL1.out] at hct
  go_enter Tryd.func4, Tryd.ntmps4
  go_wp2_with (fail)
  refine hct.mono ?_
  rintro e w1 ⟨C, rfl, hC1, hone, hC2, hO1⟩
  rw [← HL1.out]
  have hL1b : L1 ≤ 2147483647 := by omega
  have hL2b : L2 ≤ 2147483647 := by omega
  have hL3b : L3 ≤ 2147483647 := by omega
  clear hct hA hB hD hA' hB' hD'
  have HC1 := Lib.hid hC1; clear hC1
  have HC2 := Lib.hid hC2; clear hC2
  have HO1 := Lib.hid hO1; clear hO1
  have HONE := Lib.hid hone; clear hone
  obtain ⟨g, hgg⟩ : ∃ g, g = w1.heap.size := ⟨_, rfl⟩
  have hO2 : Only [] w (w1.alloc (.cells C 30)) := HO1.out.alloc _
  have hB2 : (w1.alloc (.cells C 30)).heap[g]? = some (.cells C 30 (0, 0)) := by rw [hgg]; exact heap_alloc_new _ _
  by_cases h16 : L1 = 16
  · by_cases h0 : L2 = 0
    · have f1 : ((L1 : Int) == 16) = true := by simp; omega
      have f2 : ((L2 : Int) == 0) = true := by simp; omega
      clear h16 h0
      go_wp2_with (first | (with_reducible show wpList _ _ _ (_ :: _) _ _; refine wpList_store_row rfl 30 (.tmp 7) (.tmp 35) rfl w1.heap.size 30 _ C rfl rfl (heap_alloc_new w1 _) (by rw [size30, HC1.out]) (HC1.out.symm ▸ rfl) HONE.out.all ?_) | fail)
      go_ret
      exact ⟨rfl, by rw [World.setRow_alloc_new]; exact hO2⟩
    · have f1 : ((L1 : Int) == 16) = true := by simp; omega
      have f2 : ((L2 : Int) == 0) = false := by simp; omega
      have h16' := Lib.hid h16
      clear h16
      go_upto_region 6 with (first | (with_reducible show wpList _ _ _ (_ :: _) _ _; refine wpList_store_row rfl 30 (.tmp 7) (.tmp 35) rfl w1.heap.size 30 _ C rfl rfl (heap_alloc_new w1 _) (by rw [size30, HC1.out]) (HC1.out.symm ▸ rfl) HONE.out.all ?_) | fail)
      rw [World.setRow_alloc_new, ← hgg]
      obtain ⟨w2, hw2⟩ : ∃ w2, w2 = w1.alloc (.cells C 30) := ⟨_, rfl⟩
      rw [← hw2] at hO2 hB2 ⊢
      have hgw : w.heap.size ≤ g := by have := HO1.out.size; omega
      clear hw2 hgg
      have HO2 := Lib.hid hO2; clear hO2
      have hcc : ∀ (j : Nat) (u : UInt8), j < 16 → cs[j]? = some u → C[j]? = some (.int .u8 u.toNat) := HC2.out
      have hsc := spec_codes_ (sa := a2) (ss := ss) (cs := cs) (C := C) (cap := k2) (w := w2) (HS.out.only HO2.out (by simp)) (by rw [← HL2.out]; omega) HC1.out (by rw [← HL1.out, h16'.out]) hcc
      rw [← HL2.out] at hsc
      have HSC := Lib.hid hsc; clear hsc hcc
      go_wp2_with (first | (with_reducible show wpList _ _ _ (_ :: _) _ _; refine wpList_load_row rfl 30 (.tmp 7) rfl g rfl 30 C (0, 0) _ hB2 Tryd.underlying30 rfl (by rw [size30, HC1.out]) ?_) | fail)
      refine HSC.out.mono ?_
      rintro e w3 ⟨A, ok, rfl, hA1, hA2, hO3, hok⟩
      have hB3 : w3.heap[g]? = some (.cells C 30 (0, 0)) := by rw [hO3.block g (Lib.lt_of_heap hB2) (by simp)]; exact hB2
      have hO03 := HO2.out.trans hO3
      obtain ⟨t, htt⟩ : ∃ t, t = w3.heap.size := ⟨_, rfl⟩
      have hgt : g < t := by have := Lib.lt_of_heap hB3; omega
      have hB4 : (w3.alloc (.cells A 35)).heap[t]? = some (.cells A 35 (0, 0)) := by rw [htt]; exact heap_alloc_new _ _
      have hB4' : (w3.alloc (.cells A 35)).heap[g]? = some (.cells C 30 (0, 0)) := by rw [heap_alloc_old _ _ (Lib.lt_of_heap hB3)]; exact hB3
      have hO04 : Only [] w (w3.alloc (.cells A 35)) := hO03.alloc _
      have HA1 := Lib.hid hA1; clear hA1
      have HA2 := Lib.hid hA2; clear hA2
      have HOK := Lib.hid hok; clear hok
      clear hB2 hO3 hO03 hB3
      cases ok with
      | false =>
        go_wp2_with (first | (with_reducible show wpList _ _ _ (_ :: _) _ _; refine wpList_store_row rfl 35 (.tmp 9) (.tmp 48) rfl w3.heap.size 35 _ A rfl rfl (heap_alloc_new w3 _) (by rw [size35, HA1.out]) (Tryd.zeroCells35_size.trans HA1.out.symm) HA2.out.all ?_) | fail)
        go_ret
        exact ⟨rfl, by rw [World.setRow_alloc_new]; exact hO04⟩
      | true =>
        go_upto_region 9 with (first | (with_reducible show wpList _ _ _ (_ :: _) _ _; refine wpList_store_row rfl 35 (.tmp 9) (.tmp 48) rfl w3.heap.size 35 _ A rfl rfl (heap_alloc_new w3 _) (by rw [size35, HA1.out]) (Tryd.zeroCells35_size.trans HA1.out.symm) HA2.out.all ?_) | fail)
        rw [World.setRow_alloc_new, ← htt]
        obtain ⟨w4, hw4⟩ : ∃ w4, w4 = w3.alloc (.cells A 35) := ⟨_, rfl⟩
        rw [← hw4] at hO04 hB4 hB4' ⊢
        clear hw4 htt
        obtain ⟨T, hT⟩ : ∃ T, T = tabAt (seg cs ss) 0 := ⟨_, rfl⟩
        have hok := HOK.out trivial
        rw [← hT] at hok
        obtain ⟨q1, q2, q3, q4, q5⟩ := hok
        have hTc : ∀ i, i < 16 → C[i]? = some (.int .u8 (T.cnt (i + 1) : Int)) := fun i hi => by
          have hi' : i < cs.length := by rw [← HL1.out, h16'.out]; exact hi
          rw [hT, seg_cnt (List.getElem?_eq_getElem hi')]
          exact HC2.out i _ hi (List.getElem?_eq_getElem hi')
        have hic := impl_codes (T := T) (cap := k2) (HS.out.only hO04 (by simp)) (by rw [← HL2.out]; omega) HC1.out hTc (fun i hi => by rw [hT]; exact tabAt_cnt _ _ _) q1 q2 q5
        rw [← HL2.out] at hic
        have HIC := Lib.hid hic; clear hic hTc
        have HTT := Lib.hid hT; clear hT
        have HQ := Lib.hid (And.intro q1 (And.intro q2 (And.intro q3 (And.intro q4 q5)))); clear q1 q2 q3 q4 q5
        have HO4 := Lib.hid hO04; clear hO04
        have HB4 := Lib.hid hB4; clear hB4
        go_wp2_with (first | (with_reducible show wpList _ _ _ (_ :: _) _ _; refine wpList_load_row rfl 30 (.tmp 7) rfl g rfl 30 C (0, 0) _ hB4' Tryd.underlying30 rfl (by rw [size30, HC1.out]) ?_) | fail)
        refine HIC.out.mono ?_
        rintro e w5 ⟨hb, M, rfl, m1, m2, m3, m4, hO5⟩
        have hB5 : w5.heap[t]? = some (.cells A 35 (0, 0)) := by rw [hO5.block t (Lib.lt_of_heap HB4.out) (by simp)]; exact HB4.out
        have HO5 := Lib.hid (HO4.out.trans hO5)
        have HB5 := Lib.hid hB5; clear hB5
        have HM3 := Lib.hid m3; clear m3
        have HLUT := Lib.hid m4; clear m4
        have hsz4 := HO4.out.size
        clear hO5 hB4'
        go_upto_block 0 with (fail)
        obtain ⟨b5, hb5⟩ : ∃ b5, b5 = w5.heap.size := ⟨_, rfl⟩
        have ht5 : t < b5 := by rw [hb5]; exact Lib.lt_of_heap HB5.out
        have hhb5 : hb < b5 := by rw [hb5]; obtain ⟨cc, hcc, _⟩ := HLUT.out; exact Lib.lt_of_heap hcc
        have hw5 : w.heap.size ≤ b5 := by rw [hb5]; exact HO5.out.size
        have HB5E := Lib.hid hb5; clear hb5
        refine wp_block ?_
        go_loopw [11, 12, 13, 57] (fun v11 v12 v13 v57 wr => ∃ (i : Nat) (Q : List Word), i ≤ L3 ∧ v57 = .int .i64 i ∧ Q.length = i ∧ wr.ownsRow b5 5 1 v11 i (scells (Q.map (·.s))) ∧ wr.ownsRow b5 40 1 v12 i (Q.map fun q => Value.int .u32 (q.v : Nat)) ∧ wr.ownsRow b5 40 1 v13 i (Q.map fun q => Value.int .u32 (q.n : Nat)) ∧
          (∀ k, v11.ownBlock = some k → v12.ownBlock ≠ some k ∧ v13.ownBlock ≠ some k) ∧ (∀ k, v12.ownBlock = some k → v13.ownBlock ≠ some k) ∧ (∀ q ∈ Q, q.Ok T ∧ q.s < 256) ∧ Only [] w5 wr) (fun _ _ _ v57 _ => L3 - (intOf v57).toNat)
        case atStart => exact ⟨0, [], by omega, rfl, rfl, World.ownsRow_nil _ _ _ _, World.ownsRow_nil _ _ _ _, World.ownsRow_nil _ _ _ _, fun k h => (by cases h), fun k h => (by cases h), fun q hq => (by simp at hq), Only.refl _ _⟩
        case round =>
          obtain ⟨i, Q, hi, rfl, hQl, hown1, hown2, hown3, hd1, hd2, hQ, hO⟩ := hrel
          have HO1 := Lib.hid hown1; clear hown1
          have HO2 := Lib.hid hown2; clear hown2
          have HO3 := Lib.hid hown3; clear hown3
          have HD1 := Lib.hid hd1; clear hd1
          have HD2 := Lib.hid hd2; clear hd2
          have HQQ := Lib.hid hQ; clear hQ
          have HQL := Lib.hid hQl; clear hQl
          have hszr := hO.size
          have HOR := Lib.hid hO; clear hO
          by_cases hiL : i < L3
          · have f3 : decide ((i : Int) < (L3 : Int)) = true := decide_eq_true (by omega)
            obtain ⟨p, hp⟩ : ∃ p, ps[i]? = some p := ⟨_, List.getElem?_eq_getElem (by rw [← HL3.out]; omega)⟩
            obtain ⟨ad, rfl, hcp, hpl, hpu⟩ := HP.out i p hp
            have hcp' := ((HO5.out.trans HOR.out).cell (World.block_lt_of_cell? _ _ hcp) (by simp)).trans hcp
            clear hcp hp
            have g1 : (0 : Int) ≤ (i : Int) := by omega
            have g2 : (i : Int).toNat = i := by omega
            have g3 : (i : Int) < (L3 : Int) := by omega
            obtain ⟨x, hxL, hx⟩ := rem_idx p L2 (by omega) hL2b
            have hxs : x < ss.length := by rw [← HL2.out]; exact hxL
            obtain ⟨u, hu⟩ : ∃ u, ss[x]? = some u := ⟨_, List.getElem?_eq_getElem hxs⟩
            obtain ⟨ad2, rfl, _, hcu⟩ := HS.out x u hu
            have hcu' := ((HO5.out.trans HOR.out).cell (World.block_lt_of_cell? _ _ hcu) (by simp)).trans hcu
            obtain ⟨sy, hsy⟩ : ∃ sy, sy = byteAt ss x := ⟨_, rfl⟩
            have hus : u.toNat = sy := by rw [hsy]; unfold byteAt; rw [List.getD_eq_getElem?_getD, hu]; rfl
            rw [hus] at hcu'
            have hs256 : sy < 256 := by rw [hsy]; exact byteAt_lt _ _
            have hsM : sy ≤ M := by rw [hsy]; exact HM3.out x hxs
            obtain ⟨l, hl1, hl2⟩ := HQ.out.2.2.2.1 x hxs
            rw [← hsy] at hl2
            have hB5r : wr.heap[t]? = some (.cells A 35 (0, 0)) := by rw [HOR.out.block t (by have := HB5E.out; omega) (by simp)]; exact HB5.out
            have hcA : wr.cell? ⟨t, sy * 2, none⟩ = some (.int .i64 l) := by rw [cell_of_row _ _ _ _ _ _ hB5r]; exact hl2
            obtain ⟨lut, hr1, hr2, hr3⟩ := HLUT.out
            obtain ⟨n, v, hhas, hlv⟩ := hr3 x hxs
            rw [← hsy] at hlv
            have hr1' : wr.heap[hb]? = some (.cells lut 40 (0, 0)) := by rw [HOR.out.block hb (by have := HB5E.out; omega) (by simp)]; exact hr1
            have hcL : wr.cell? ⟨hb, sy, none⟩ = some (.int .u32 ((n * 16777216 + v : Nat) : Int)) := by rw [cell_of_row _ _ _ _ _ _ hr1']; exact hlv
            have hn16 := hhas.le
            have hv16 : v < 65536 := by
              have := T.fst_lt HQ.out.1 hhas
              have hp : 2 ^ n ≤ 65536 := by have := Nat.pow_le_pow_right (show 0 < 2 by decide) hn16; simpa using this
              omega
            have hsym : T.sym.getD x 0 = sy := by rw [HTT.out, seg_sym (by rw [← HL1.out, h16'.out]) (by rw [← HTT.out]; exact HQ.out.2.1) x hxs, hsy]
            have HWORD : Hid (Word.Ok T ⟨sy, n, v⟩ ∧ sy < 256) := Lib.hid ⟨⟨x, hhas, hsym⟩, hs256⟩
            obtain ⟨E, hE⟩ : ∃ E, E = n * 16777216 + v := ⟨_, rfl⟩
            rw [← hE] at hcL
            have HE := Lib.hid hE; clear hE hhas hsym hlv hr1 hr2 hr3 hr1' hl2 hB5r hus hu hcu
            have HSY := Lib.hid hsy; clear hsy
            have HHX := Lib.hid hx
            have g4 : (0 : Int) ≤ (x : Int) := by omega
            have g5 : (x : Int).toNat = x := by omega
            have g6 : (x : Int) < (L2 : Int) := by omega
            have g7 : decide ((M : Int) + 1 ≤ (sy : Int)) = false := decide_eq_false (by omega)
            have g8 : ((l : Int) == 0) = false := by simp; omega
            have g9 : (0 : Int) ≤ (sy : Int) := by omega
            have g10 : (sy : Int).toNat = sy := by omega
            have g11 : (sy : Int) < 256 := by omega
            have g12 : (sy : Int) < (M : Int) + 1 := by omega
            go_upto_region 18 with (fail)
            clear hx
            obtain ⟨i0, hi0, hz0, hz1, hz2⟩ := info_parts info5
            have hbr : b5 ≤ wr.heap.size := by have := HB5E.out; omega
            go_upto_region 19 with (at_builtin; refine wpList_append_own_at _ rfl _ _ 22 rfl b5 5 i0 (.int .u8 0) 1 1 Tryd.underlying22 hi0 hz0 hz1 hz2 rfl (by decide) _ _ _ rfl (HO1.out.alloc _) ⟨wr.heap.size, 0, none⟩ 1 1 [.int .u8 sy] rfl rfl ?c1 ?c2 ?c3 ?c4 ?c5 ?_)
            case c1 =>
              intro j x hj
              match j, hj with
              | 0, hj => simp at hj; subst hj; simp [Addr.add]
            case c2 => intro x hx; simp at hx; subst hx; rfl
            case c3 => unfold maxLen; omega
            case c4 => omega
            case c5 => simp; omega
            intro v' w6 hown6 hgrow _ hblk
            have hk6 : w6.ownsRow b5 40 1 u12 i (Q.map fun q => Value.int .u32 (q.v : Nat)) := (HO2.out.alloc _).kept hgrow (sep_of fun k hk => (HD1.out k hk).1)
            have hk7 : w6.ownsRow b5 40 1 u13 i (Q.map fun q => Value.int .u32 (q.n : Nat)) := (HO3.out.alloc _).kept hgrow (sep_of fun k hk => (HD1.out k hk).2)
            have hlt1 := HO1.out.lt
            have hO6 : Only [] w5 w6 := (HOR.out.alloc _).grown hgrow (fun k hk => .inr (by have := (hlt1 k hk).1; have := HB5E.out; omega))
            have hc6 : w6.cell? ⟨hb, sy, none⟩ = some (.int .u32 E) := by
              have hr6 := World.block_lt_of_cell? _ _ hcL
              have hne : some hb ≠ u11.ownBlock := fun e => by have := (hlt1 hb e.symm).1; omega
              rw [hgrow.cell_far _ (by simp; omega) hne, World.cell?_alloc_past _ _ _ hr6]; exact hcL
            have HK6 := Lib.hid hk6; clear hk6
            have HK7 := Lib.hid hk7; clear hk7
            have HO6 := Lib.hid hO6; clear hO6
            have HOWN6 := Lib.hid hown6; clear hown6
            have HGROW := Lib.hid hgrow; clear hgrow hlt1
            have HBLK := Lib.hid hblk; clear hblk
            have hbr6 : b5 ≤ w6.heap.size := by have := HO6.out.size; have := HB5E.out; omega
            have hand : bits .and .u32 (E : Int) 16777215 = (v : Int) := by
              have he := HE.out
              have e1 := u32_and_nat E 16777215 (by omega) (by decide)
              rw [show (16777215 : Nat) = 2 ^ 24 - 1 from rfl, Nat.and_two_pow_sub_one_eq_mod] at e1
              have e2 : E % 2 ^ 24 = v := by omega
              rw [e2] at e1
              exact e1
            have hshr : (E : Int) / 16777216 = (n : Int) := by have := HE.out; omega
            obtain ⟨i1, hy0, hy1, hy2, hy3⟩ := info_parts info40
            have hL6 : hb < w6.heap.size := World.block_lt_of_cell? _ _ hc6
            clear hcL hcp' hcu' hcA
            go_upto_region 19 with (fail)
            have HSEP : Hid (u13.ownBlock = none ∨ u13.ownBlock ≠ u12.ownBlock) := Lib.hid (sep_of HD2.out)
            have HFAR : Hid (∀ k, w6.heap.size ≤ k → some k ≠ u12.ownBlock) := Lib.hid (fun k hk e => by have := (HK6.out.lt k e.symm).2; omega)
            have HNB2 : Hid (some hb ≠ u12.ownBlock) := Lib.hid (fun e => by have := (HK6.out.lt hb e.symm).1; omega)
            have HNB3 : Hid (some hb ≠ u13.ownBlock) := Lib.hid (fun e => by have := (HK7.out.lt hb e.symm).1; omega)
            have hsv : ∀ k, v'.ownBlock = some k → u12.ownBlock ≠ some k ∧ u13.ownBlock ≠ some k := by
              intro k hk
              rcases HBLK.out with hb | hb
              · rw [hk] at hb; exact HD1.out k hb.symm
              · rw [hk] at hb
                have hkk : k = wr.heap.size + 1 := by simpa using hb
                refine ⟨fun e => ?_, fun e => ?_⟩
                · have := (HO2.out.lt k e).2; omega
                · have := (HO3.out.lt k e).2; omega
            have HSV := Lib.hid hsv; clear hsv
            go_region_held3 (fun w' => w'.cell? ⟨hb, sy, none⟩ = some (.int .u32 E)) (first | go_keep | (refine (hgrow7.cell_far ⟨hb, sy, none⟩ (by simp; omega) HNB2.out).trans ?_; go_keep) | (refine (hgrow8.cell_far ⟨hb, sy, none⟩ (by have h7 := hgrow7.size; simp at h7 ⊢; omega) HNB3.out).trans ?_; first | go_keep | (refine (World.cell?_alloc_past _ _ _ (by have h7 := hgrow7.size; simp at h7 ⊢; omega)).trans ?_; refine (hgrow7.cell_far ⟨hb, sy, none⟩ (by simp; omega) HNB2.out).trans ?_; go_keep) | (refine (hgrow7.cell_far ⟨hb, sy, none⟩ (by simp; omega) HNB2.out).trans ?_; go_keep)) | (refine (World.cell?_alloc_past _ _ _ (by have h7 := hgrow7.size; simp at h7 ⊢; omega)).trans ?_; refine (hgrow7.cell_far ⟨hb, sy, none⟩ (by simp; omega) HNB2.out).trans ?_; go_keep)) (first | (refine step_append_lies _ (by rfl) (.tmp 90) (.tmp 96) 38 (by rfl) b5 40 i1 (.int .u32 0) 1 4 Tryd.underlying38 hy0 hy1 hy2 hy3 rfl (by decide) u12 i _ (by rfl) (HK6.out.drew.alloc _) ⟨w6.heap.size, 0, none⟩ 1 1 [.int .u32 (v : Int)] (by rfl) rfl (new_one _ _ _) (fun x hx => by simp at hx; subst hx; rfl) (by decide) (by unfold maxLen; omega) (by omega) (by first | (have h7 := hgrow7.size; simp at h7; first | omega | (simp; omega)) | (simp; omega) | omega) _ rfl ?_; intro g7 cap7 w7 hown7 hgrow7 hat7 hlt7) | (refine step_append_lies _ (by rfl) (.tmp 90) (.tmp 96) 38 (by rfl) b5 40 i1 (.int .u32 0) 1 4 Tryd.underlying38 hy0 hy1 hy2 hy3 rfl (by decide) u12 i _ (by rfl) ((HK6.out.drew.alloc _).alloc _) ⟨w6.heap.size, 0, none⟩ 1 1 [.int .u32 (v : Int)] (by rfl) rfl (new_one2 _ _ _ _) (fun x hx => by simp at hx; subst hx; rfl) (by decide) (by unfold maxLen; omega) (by omega) (by first | (have h7 := hgrow7.size; simp at h7; first | omega | (simp; omega)) | (simp; omega) | omega) _ rfl ?_; intro g7 cap7 w7 hown7 hgrow7 hat7 hlt7) | (refine step_append_lies _ (by rfl) (.tmp 90) (.tmp 96) 38 (by rfl) b5 40 i1 (.int .u32 0) 1 4 Tryd.underlying38 hy0 hy1 hy2 hy3 rfl (by decide) u12 i _ (by rfl) ((HK6.out.drew.alloc _).alloc _) ⟨w6.heap.size + 1, 0, none⟩ 1 1 [.int .u32 (v : Int)] (by rfl) rfl (new_one3 _ _ _ _) (fun x hx => by simp at hx; subst hx; rfl) (by decide) (by unfold maxLen; omega) (by omega) (by first | (have h7 := hgrow7.size; simp at h7; first | omega | (simp; omega)) | (simp; omega) | omega) _ rfl ?_; intro g7 cap7 w7 hown7 hgrow7 hat7 hlt7) | (refine step_append_lies _ (by rfl) (.tmp 98) (.tmp 104) 38 (by rfl) b5 40 i1 (.int .u32 0) 1 4 Tryd.underlying38 hy0 hy1 hy2 hy3 rfl (by decide) u13 i _ (by rfl) (((HK7.out.drew.alloc _).alloc _).kept hgrow7 HSEP.out) ⟨w6.heap.size + 1, 0, none⟩ 1 1 [.int .u32 (n : Int)] (by rfl) rfl (far_news hgrow7 (by simp) (HFAR.out _ (by omega)) (new_one3 _ _ _ _)) (fun x hx => by simp at hx; subst hx; rfl) (by decide) (by unfold maxLen; omega) (by omega) (by first | (have h7 := hgrow7.size; simp at h7; first | omega | (simp; omega)) | (simp; omega) | omega) _ rfl ?_; intro g8 cap8 w8 hown8 hgrow8 hat8 hlt8) | (refine step_append_lies _ (by rfl) (.tmp 98) (.tmp 104) 38 (by rfl) b5 40 i1 (.int .u32 0) 1 4 Tryd.underlying38 hy0 hy1 hy2 hy3 rfl (by decide) u13 i _ (by rfl) (((HK7.out.drew.alloc _).alloc _).kept hgrow7 HSEP.out) ⟨w6.heap.size, 0, none⟩ 1 1 [.int .u32 (n : Int)] (by rfl) rfl (far_news hgrow7 (by simp; omega) (HFAR.out _ (by omega)) (new_one2 _ _ _ _)) (fun x hx => by simp at hx; subst hx; rfl) (by decide) (by unfold maxLen; omega) (by omega) (by first | (have h7 := hgrow7.size; simp at h7; first | omega | (simp; omega)) | (simp; omega) | omega) _ rfl ?_; intro g8 cap8 w8 hown8 hgrow8 hat8 hlt8) | (refine step_append_lies _ (by rfl) (.tmp 98) (.tmp 104) 38 (by rfl) b5 40 i1 (.int .u32 0) 1 4 Tryd.underlying38 hy0 hy1 hy2 hy3 rfl (by decide) u13 i _ (by rfl) (((HK7.out.drew.alloc _).kept hgrow7 HSEP.out).alloc _) ⟨w7.heap.size, 0, none⟩ 1 1 [.int .u32 (n : Int)] (by rfl) rfl (new_one _ _ _) (fun x hx => by simp at hx; subst hx; rfl) (by decide) (by unfold maxLen; omega) (by omega) (by first | (have h7 := hgrow7.size; simp at h7; first | omega | (simp; omega)) | (simp; omega) | omega) _ rfl ?_; intro g8 cap8 w8 hown8 hgrow8 hat8 hlt8))
            all_goals have k12 := HK6.out.lt
            all_goals have k13 := HK7.out.lt
            all_goals have kv := HOWN6.out.lt
            all_goals have hs7 := hgrow7.size
            all_goals have hs8 := hgrow8.size
            all_goals (try simp at hs7)
            all_goals (try simp at hs8)
            all_goals have HF := Lib.hid (And.intro hown7 (And.intro hgrow7 (And.intro hat7 (And.intro hown8 (And.intro hgrow8 hat8)))))
            all_goals clear hown7 hgrow7 hat7 hown8 hgrow8 hat8
            all_goals go_wp2
            all_goals obtain ⟨hown7, hgrow7, hat7, hown8, hgrow8, hat8⟩ := HF.out
            all_goals have hO67 : Only u12.ownBlock.toList w6 w7 := by first | exact Only.grown ((Only.refl _ _).alloc _).drew hgrow7 (fun k hk => .inl (by simp [hk])) | exact Only.grown (((Only.refl _ _).alloc _).alloc _).drew hgrow7 (fun k hk => .inl (by simp [hk]))
            all_goals have hO78 : Only u13.ownBlock.toList w7 w8 := by first | exact Only.grown (Only.refl _ _) hgrow8 (fun k hk => .inl (by simp [hk])) | exact Only.grown ((Only.refl _ _).alloc _) hgrow8 (fun k hk => .inl (by simp [hk]))
            all_goals have hg7 : u12.ownBlock = some g7 ∨ w6.heap.size ≤ g7 := hat7.imp id (fun h => by first | omega | (simp at h; omega))
            all_goals have hg8 : u13.ownBlock = some g8 ∨ w7.heap.size ≤ g8 := hat8.imp id (fun h => by first | omega | (simp at h; omega))
            all_goals have hs67 := hO67.size
            all_goals have hb7 : g7 < w7.heap.size := (hown7.lt g7 rfl).2
            all_goals refine ⟨⟨i + 1, Q ++ [⟨sy, n, v⟩], by omega, rfl, by simp [HQL.out], ?_, ?_, ?_, ?_, ?_, ?_, ?_⟩, by simp [intOf]; omega⟩
            all_goals have hb5' := HB5E.out
            all_goals first
              | (have h := row_keep (row_keep HOWN6.out hO67 (fun k hk hm => (HSV.out k hk).1 (by simpa using hm))) hO78 (fun k hk hm => (HSV.out k hk).2 (by simpa using hm)); simpa [scells] using h; done)
              | (have h := row_keep hown7 hO78 (fun k hk hm => (by have e : u13.ownBlock = some k := (by simpa using hm); have e2 : g7 = k := (by simpa [Value.ownBlock] using hk); subst e2; rcases hg7 with h7 | h7; exact HD2.out g7 h7 e; have := (k13 g7 e).2; omega)); simpa using h; done)
              | (simpa using hown8; done)
              | (intro k hk; refine ⟨fun e => ?_, fun e => ?_⟩; (have e2 : g7 = k := (by simpa [Value.ownBlock] using e); subst e2; rcases hg7 with h7 | h7; exact (HSV.out g7 hk).1 h7; have := (kv g7 hk).2; omega); (have e2 : g8 = k := (by simpa [Value.ownBlock] using e); subst e2; rcases hg8 with h8 | h8; exact (HSV.out g8 hk).2 h8; have := (kv g8 hk).2; omega); done)
              | (intro k hk e; have e2 : g7 = k := (by simpa [Value.ownBlock] using hk); have e3 : g8 = k := (by simpa [Value.ownBlock] using e); subst e2; rcases hg7 with h7 | h7; (rcases hg8 with h8 | h8; exact HD2.out g7 h7 (e3 ▸ h8); have := (k12 g7 h7).2; omega); (rcases hg8 with h8 | h8; have := (k13 g8 h8).2; omega; omega); done)
              | (intro q hq; rcases List.mem_append.1 hq with hq | hq; exact HQQ.out q hq; simp at hq; subst hq; exact HWORD.out; done)
              | (refine (HO6.out.andThen hO67 (fun x hx => .inr ?_)).andThen hO78 (fun x hx => .inr ?_); (have e : u12.ownBlock = some x := (by simpa using hx); have := (k12 x e).1; omega); (have e : u13.ownBlock = some x := (by simpa using hx); have := (k13 x e).1; omega); done)
          · obtain rfl : i = L3 := by omega
            have f3 : decide ((i : Int) < (i : Int)) = false := decide_eq_false (by omega)
            obtain ⟨i0, hi0, hz0, hz1, hz2⟩ := info_parts info5
            have hbr : b5 ≤ wr.heap.size := by have := HB5E.out; omega
            have hcn : 0 < cs.length := by rw [← HL1.out, h16'.out]; decide
            obtain ⟨ad1, rfl, _, _⟩ := HC.out 0 _ (List.getElem?_eq_getElem hcn)
            have hsn : 0 < ss.length := HQ.out.2.2.1
            obtain ⟨ad2, rfl, _, _⟩ := HS.out 0 _ (List.getElem?_eq_getElem hsn)
            have hOwr : Only [] w wr := HO5.out.trans HOR.out
            have HOWR := Lib.hid hOwr; clear hOwr
            have hseg1 : (wr.alloc (.cells #[.int .u8 17] 5)).ownsRow b5 5 1 (.slice (some ⟨wr.heap.size, 0, none⟩) 1 1) 1 [.int .u8 17] := World.ownsRow_lit wr #[.int .u8 17] 1 hbr (by decide) rfl
            have hcells1 : ∀ (j : Nat) (x : Value), (cs.map fun u => Value.int .u8 (u.toNat : Int))[j]? = some x → (wr.alloc (.cells #[.int .u8 17] 5)).cell? (ad1.add j) = some x := fun j x hj => by
              rw [List.getElem?_map, Option.map_eq_some_iff] at hj
              obtain ⟨u, hu, rfl⟩ := hj
              obtain ⟨ad, e, _, h3⟩ := HC.out j u hu
              cases e
              exact (((HOWR.out.alloc _).cell (World.block_lt_of_cell? _ _ h3) (by simp)).trans h3)
            have HCE1 := Lib.hid hcells1; clear hcells1
            have HSEG1 := Lib.hid hseg1; clear hseg1
            have hL16 : L1 = 16 := h16'.out
            go_upto_region 22 with (at_builtin; refine wpList_append_own_at _ rfl (.tmp 108) (.tmp 109) 22 rfl b5 5 i0 (.int .u8 0) 1 1 Tryd.underlying22 hi0 hz0 hz1 hz2 rfl (by decide) _ _ _ rfl HSEG1.out ad1 L1 k1 _ rfl (by rw [HL1.out]; simp) HCE1.out (by intro x hx; obtain ⟨u, _, rfl⟩ := List.mem_map.1 hx; rfl) (by unfold maxLen; omega) (by omega) (by simp; omega) ?_)
            intro vA wA hownA hgrowA _ hblkA
            have hvA : ∀ k, vA.ownBlock = some k → wr.heap.size ≤ k := by
              intro k hk
              rcases hblkA with hb | hb
              · rw [hk] at hb; have e : k = wr.heap.size := (by simpa [Value.ownBlock] using hb); omega
              · rw [hk] at hb; have e : k = wr.heap.size + 1 := (by simpa using hb); omega
            have HVA := Lib.hid hvA; clear hvA hblkA
            have hwrw := HOWR.out.size
            have hOA : Only [] w wA := (HOWR.out.alloc _).grown hgrowA (fun k hk => .inr (by have e : wr.heap.size = k := (by simpa [Value.ownBlock] using hk); omega))
            have hcells2 : ∀ (j : Nat) (x : Value), (ss.map fun u => Value.int .u8 (u.toNat : Int))[j]? = some x → wA.cell? (ad2.add j) = some x := fun j x hj => by
              rw [List.getElem?_map, Option.map_eq_some_iff] at hj
              obtain ⟨u, hu, rfl⟩ := hj
              obtain ⟨ad, e, _, h3⟩ := HS.out j u hu
              cases e
              exact ((hOA.cell (World.block_lt_of_cell? _ _ h3) (by simp)).trans h3)
            have hbA : b5 ≤ wA.heap.size := by have := hgrowA.size; simp at this; omega
            have HCE2 := Lib.hid hcells2; clear hcells2
            have HOWA := Lib.hid hownA; clear hownA
            have HOA := Lib.hid hOA; clear hOA
            have HGA := Lib.hid hgrowA; clear hgrowA
            go_upto_region 22 with (at_builtin; refine wpList_append_own_at _ rfl (.tmp 110) (.tmp 111) 22 rfl b5 5 i0 (.int .u8 0) 1 1 Tryd.underlying22 hi0 hz0 hz1 hz2 rfl (by decide) _ _ _ rfl HOWA.out ad2 L2 k2 _ rfl (by rw [HL2.out]; simp) HCE2.out (by intro x hx; obtain ⟨u, _, rfl⟩ := List.mem_map.1 hx; rfl) (by unfold maxLen; omega) (by omega) hbA ?_)
            intro vB wB hownB hgrowB _ _
            have hkA := HOWA.out.lt
            have hOAB : Only vA.ownBlock.toList wA wB := (Only.refl _ _).grown hgrowB (fun k hk => .inl (by simp [hk]))
            have hOrA : Only [] wr wA := ((Only.refl [] wr).alloc _).grown HGA.out (fun k hk => .inr (by have e : wr.heap.size = k := (by simpa [Value.ownBlock] using hk); omega))
            have hOrB : Only [] wr wB := hOrA.andThen hOAB (fun x hx => .inr (HVA.out x (by simpa using hx)))
            have hr1 := row_keep HO1.out hOrB (by simp)
            have hr2 := row_keep HO2.out hOrB (by simp)
            have hr3 := row_keep HO3.out hOrB (by simp)
            have HR1 := Lib.hid hr1; clear hr1
            have HOB := Lib.hid (HOWR.out.trans hOrB)
            have HOWB := Lib.hid hownB; clear hownB hOrB hOAB hgrowB hOrA hkA
            obtain ⟨sa2, cap2, e2', hc2, hn2⟩ := own_num (xs := Q.map (·.v)) (by rw [List.length_map, List.map_map, HQL.out]; exact hr2)
            obtain ⟨sa3, cap3, e3', hc3, hn3⟩ := own_num (xs := Q.map (·.n)) (by rw [List.length_map, List.map_map, HQL.out]; exact hr3)
            obtain ⟨sa1, cap1, e1', hc1⟩ := own_slice HR1.out
            rw [List.length_map, HQL.out] at hc2 hc3 e2' e3'
            clear hr2 hr3 HO1 HO2 HO3 HD1 HD2
            subst e1' e2' e3'
            have hQn : ∀ q ∈ Q, q.n ≤ 16 ∧ q.v < 2 ^ q.n := fun q hq => by
              obtain ⟨k, hk, _⟩ := (HQQ.out q hq).1
              exact ⟨hk.le, by have := T.fst_lt HQ.out.1 hk; omega⟩
            have hem := impl_emit hn2 hn3 hQn (by rw [HQL.out]; omega) (by rw [HQL.out]; exact hc2) (by rw [HQL.out]; exact hc3)
            rw [HQL.out] at hem
            have HEM := Lib.hid hem
            clear hem hn2 hn3 hQn HCE1 HCE2 HSEG1 HOWA HGA HSC HIC
            obtain ⟨sB, capB, eB, hcB⟩ := own_slice HOWB.out
            subst eB
            have f5 : IntKind.i64.wrap ((i : Int) + 1) = ((i + 1 : Nat) : Int) := IntWalk.i64_in _ (by omega)
            go_upto_region 22 with (fail)
            refine HEM.out.mono ?_
            rintro e w6 ⟨vE, D, j, rfl, hj7, hD, hownE, hbits, hOE⟩
            clear HEM
            have hO6 := HOB.out.trans hOE
            have hcell6 : ∀ a x, w.cell? a = some x → w6.cell? a = some x := fun a x h => (hO6.cell (World.block_lt_of_cell? _ _ h) (by simp)).trans h
            have hsl : (seg cs ss).length = 17 + L2 := by rw [HL2.out]; simp [seg]; rw [← HL1.out]; omega
            have hT6 : SrcAt [] sB (seg cs ss) w6 := by
              have h := row_keep HOWB.out hOE (by simp)
              rw [← hsl] at h
              obtain ⟨sa, cap, e, _, r⟩ := own_src (l := seg cs ss) (by simpa [Lib.byteCells, seg] using h)
              obtain ⟨e1, _, _⟩ := Value.slice.inj e
              rw [e1]; exact r
            obtain ⟨sE, capE, eE, hcE, hC6⟩ := own_src hownE
            subst eE
            have hbs : bitsFrom (stuff D) 0 = wbits Q ++ List.replicate j true := (bits_of_stuff D hD).trans hbits
            have hDl : (stuff D).length ≤ 1000000000000 := by
              have h1 := stuff_length D
              have h2 := congrArg List.length hbits
              have h3 := length_wbits Q (fun q hq => by obtain ⟨k, hk, _⟩ := (HQQ.out q hq).1; exact hk.le)
              rw [length_flat8, List.length_append, List.length_replicate] at h2
              have := HQL.out
              omega
            obtain ⟨m, hm1, hm2⟩ := seg_ok (by rw [← HL1.out, h16'.out]) (HTT.out ▸ HQ.out.1) (HTT.out ▸ HQ.out.2.1) hsn HQ.out.2.2.2.2
            have his := impl_symbols (hcell6 _ _ HG.out) hT6 hC6 (tcap := capB) (ccap := capE) (by rw [hsl]; exact hcB) hcE (by rw [hsl]; omega) hDl (hcell6 _ _ H1.out) (hcell6 _ _ H2.out) hm1 1 1 (i + 1) 0 (by decide) (by decide) hm2 (by omega)
            have hdec := decAll_words T HQ.out.1 j Q (fun q hq => (HQQ.out q hq).1)
            rw [HQL.out] at hdec
            rw [hbs, ← HTT.out, hdec, hsl, show ((i + 1 : Nat) : Int) = (i : Int) + 1 from rfl] at his
            have HIS := Lib.hid his; clear his
            have HO6 := Lib.hid hO6; clear hO6
            have HOE := Lib.hid hOE; clear hOE
            clear hcell6 hsl hT6 hC6 hbs hDl hm1 hm2 hdec hownE hbits hD hj7
            generalize (stuff D).length = LE at *
            go_upto_region 22 with (fail)
            refine HIS.out.mono ?_
            rintro e w7 ⟨v7, he, hown7, hO7⟩
            have he' : e = .returned (.tuple #[v7, .int .i64 1]) := he
            subst he'
            clear he HIS
            have hO07 := HO6.out.trans hO7
            have hcell7 : ∀ a x, w.cell? a = some x → w7.cell? a = some x := fun a x h => (hO07.cell (World.block_lt_of_cell? _ _ h) (by simp)).trans h
            have hcv2 := conv_own hown7
            have hcv1 := conv_own (l := Q.map (·.s)) (by rw [List.length_map, HQL.out]; exact row_keep HR1.out (HOE.out.trans hO7) (by simp))
            have hre := reads_true (hcell7 _ _ HG.out) (hcell7 _ _ H1.out) (hcell7 _ _ H2.out)
            have HRE := Lib.hid hre; clear hre
            have HO07 := Lib.hid hO07; clear hO07 hO7 hcell7 hown7
            generalize strOf (Q.map (·.s)) = str at *
            go_wp2_with (fail)
            refine HRE.out.mono ?_
            rintro e w8 ⟨rfl, hO8⟩
            go_wp2
            go_ret
            exact ⟨rfl, HO07.out.trans hO8⟩
  · have f1 : ((L1 : Int) == 16) = false := by simp; omega
    clear h16
    go_wp2_with (first | (with_reducible show wpList _ _ _ (_ :: _) _ _; refine wpList_store_row rfl 30 (.tmp 7) (.tmp 35) rfl w1.heap.size 30 _ C rfl rfl (heap_alloc_new w1 _) (by rw [size30, HC1.out]) (HC1.out.symm ▸ rfl) HONE.out.all ?_) | fail)
    go_ret
    exact ⟨rfl, by rw [World.setRow_alloc_new]; exact hO2⟩
end
end Go.Proofs.YtdjilplpbaackaaDoor
