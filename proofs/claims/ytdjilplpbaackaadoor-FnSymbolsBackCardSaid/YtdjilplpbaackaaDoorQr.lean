/-
  FnSymbolsBack: the row and its tied card: whatever the input, the law answers true and the input reads as it did. Conditions: none beyond the row's own (the listed variables read as the program's text lays them).
-/
import Derived.Test.YtdjilplpbaackaaDoorFb
import Derived.Test.YtdjilplpbaackaaDoorGv
import Derived.Test.YtdjilplpbaackaaDoorTie
import Derived.Test.YtdjilplpbaackaaDoorCards
import Derived.SevenTiedAt
namespace Go.Proofs.YtdjilplpbaackaaDoor
open Go.ChangeShapes Go.WideShapes Go.ChangeAt Go.RowKit

theorem below_of_nothing {w w' : World} (h : Only [] w w') : Below w.heap.size w w' := ⟨h.os, h.tape, h.output, h.size, fun k hk => h.block k hk (by simp)⟩

/-- A slice of integers that came in. -/
theorem ints_of_trod {W : World} {H : Type} {enc : TypeId × Value → H} {a : Option Addr} {len cap : Nat} {d : DataW H} {p : List MemPlace} (h : DataW.Trod enc Tryd.prog W 0 (fun _ => true) true 29 (.slice a len cap) d p) :
    ∃ xs : List Int, xs.length = len ∧ len ≤ cap ∧ IntAt a xs W := by
  obtain ⟨fuel, hf⟩ := h
  rcases open_ints Tryd.underlying29 Tryd.underlying3 (by kernel_rfl) hf with ⟨hcs, _⟩ | ⟨x, l, c, zs, hcs, _, hl, hm, hz, _, hcell, hwz⟩
  · simp [Value.cells] at hcs
    obtain ⟨rfl, rfl, rfl⟩ := hcs
    exact ⟨[], rfl, Nat.le_refl _, fun k u hk => by simp at hk⟩
  · simp [Value.cells] at hcs
    obtain ⟨rfl, rfl, rfl⟩ := hcs
    have hz' : zs.length = cap := by simpa using hz
    refine ⟨zs.take len, by rw [List.length_take, hz']; exact Nat.min_eq_left hl, hl, ?_⟩
    intro k n hn
    have hkl : k < len := by
      have := (List.getElem?_eq_some_iff.1 hn).1
      simp at this; omega
    rw [List.getElem?_take, if_pos hkl] at hn
    have hkz : k < zs.length := (List.getElem?_eq_some_iff.1 hn).1
    have hmem : n ∈ zs := by have := (List.getElem?_eq_some_iff.1 hn).2; rw [← this]; exact List.getElem_mem _
    have hw := hwz n hmem
    have hr : -9223372036854775808 ≤ n ∧ n ≤ 9223372036854775807 := by
      simp [Lit.wf] at hw
      have a0 : IntKind.i64.min = -9223372036854775808 := by decide
      have a1 : IntKind.i64.max = 9223372036854775807 := by decide
      omega
    refine ⟨_, rfl, ?_, hr.1, hr.2⟩
    rw [hcell k hkz, List.getD_eq_getElem?_getD, hn]
    rfl

set_option maxRecDepth 100000 in
theorem fnSymbolsBack_lifted (os : Os) (started : os.Started) (H : Type) (enc : TypeId × Value → H) :
    ReturnsInHanded {} Tryd.checked os 4 .any (fun w args => (Rows.fnSymbolsBackSpec.pre enc Tryd.prog Tryd.f4 [] false w args ∧ laidMetH Tryd.prog laid3 w) ∧ sizedMet enc Tryd.prog Tryd.f4 (OpenSpec.ofChange Rows.fnSymbolsBackSpec) false w args)
      (Rows.fnSymbolsBackSpec.post enc Tryd.prog Tryd.f4 false true false false) := by
  refine returnsInHanded_of_change_and (C := Tryd.checked) (X := fun w _ => laidMetH Tryd.prog laid3 w) (fun _ _ _ hh h => h.of_heap hh) own started (by kernel_rfl) Tryd.func4
    (ChangeSpec.witness_at (enc := enc) (C := Tryd.checked) (os := os) (X := fun w _ => laidMetH Tryd.prog laid3 w) false (laidWorld os) #[.slice none 0 0, .slice none 0 0, .slice none 0 0] 8 rfl (by kernel_rfl) (by kernel_rfl) (by kernel_rfl) (by kernel_rfl) (by kernel_rfl) (laidWorld_met os _)) ?_
  intro W base args ds gs before hval0 hW _ _ hL _
  have hval : ∀ (j : Nat) t v, Tryd.f4.params[j]? = some t → args[j]? = some v → Value.okWide Tryd.prog W .any base t v := hval0
  have hW' := hW
  obtain ⟨p, q, hA0, hV0, rfl, hfz, hnd⟩ := hW
  have hA : DataW.TrodAll enc Tryd.prog W 0 (fun _ => true) true Tryd.f4.params.toList args.toList ds p := hA0
  have hV : DataW.TrodVars enc Tryd.prog W (fun _ => true) [] gs q := hV0
  rw [Tryd.params4] at hA hval
  obtain ⟨v0, vs0, d0, ds0, p0, q0, hargs, rfl, rfl, h0, r0⟩ := trodAll_cons hA
  obtain ⟨v1, vs1, d1, ds1, p1, q1, rfl, rfl, rfl, h1, r1⟩ := trodAll_cons r0
  obtain ⟨v2, vs2, d2, ds2, p2, q2, rfl, rfl, rfl, h2, r2⟩ := trodAll_cons r1
  obtain ⟨rfl, rfl, rfl⟩ := trodAll_nil r2
  obtain rfl : args = #[v0, v1, v2] := by cases args; simp_all
  obtain ⟨rfl, rfl⟩ : gs = [] ∧ q = [] := by
    cases gs with
    | nil => exact ⟨rfl, hV⟩
    | cons g r => exact absurd hV (by intro h; cases h)
  obtain ⟨a0, len0, cap0, rfl⟩ := okWide_slice Tryd.underlying22 (hval 0 22 v0 rfl rfl)
  have k0 := h0
  have lt0 : ∀ x ∈ p0, x.block < W.heap.size := by obtain ⟨m, hm⟩ := k0; exact DataW.trod_lt m _ _ _ hm
  obtain ⟨tsrc, rfl, hc0, hs0⟩ := src_of_ints h0
  obtain ⟨a1, len1, cap1, rfl⟩ := okWide_slice Tryd.underlying22 (hval 1 22 v1 rfl rfl)
  have k1 := h1
  have lt1 : ∀ x ∈ p1, x.block < W.heap.size := by obtain ⟨m, hm⟩ := k1; exact DataW.trod_lt m _ _ _ hm
  obtain ⟨ssrc, rfl, hc1, hs1⟩ := src_of_ints h1
  obtain ⟨a2, len2, cap2, rfl⟩ := okWide_slice Tryd.underlying29 (hval 2 29 v2 rfl rfl)
  have k2 := h2
  have lt2 : ∀ x ∈ p2, x.block < W.heap.size := by obtain ⟨m, hm⟩ := k2; exact DataW.trod_lt m _ _ _ hm
  obtain ⟨ps, rfl, hc2, hs2⟩ := ints_of_trod h2
  obtain ⟨hg, e1, e2, hg1, hg2⟩ := globals_of_laid hL
  clear hA0 hval0
  refine (fn_back hg hg1 hg2 hs0 hs1 hs2 hc0 hc1).mono fun e W' ⟨he, hO⟩ => ?_
  have bel := below_of_nothing hO
  subst he
  exact ⟨_, rfl, _, _, _, [], _, [], hW', trodAll_mk1 (shut_bool Tryd.underlying4 _),
    (trodAll_cons_mk (Below.trod laidOut (by kernel_rfl) (of_decide_eq_true (by kernel_rfl)) k0 bel lt0) (trodAll_cons_mk (Below.trod laidOut (by kernel_rfl) (of_decide_eq_true (by kernel_rfl)) k1 bel lt1)
      (trodAll_cons_mk (Below.trod laidOut (by kernel_rfl) (of_decide_eq_true (by kernel_rfl)) k2 bel lt2) trodAll_mk0))),
    rfl, bel.frame _, fun h => by cases h⟩

theorem fnSymbolsBack_holds : Rows.FnSymbolsBackSaid :=
  OpenClaim.holds_of_wide 4 Tryd.f4 rfl rfl rfl rfl rfl rfl rfl ⟨rfl, rfl, rfl, rfl, rfl⟩ rfl rfl rfl rfl rfl (by kernel_rfl) Tryd.func4 (by kernel_rfl)
    (of_decide_eq_true (by kernel_rfl)) (by unfold Func.isWrapper; rw [if_neg (of_decide_eq_false (by kernel_rfl))]; exact ⟨rfl, rfl⟩)
    (fun os started H enc _ => fnSymbolsBack_lifted os started H enc)

theorem fnSymbolsBack_card : Rows.FnSymbolsBackCardSaid :=
  Claim7.holds_tied_plain_at .later [] [.handle, .sentinel, .sentinel] true (true, "8bcdec333fd406b6dc1bed759c4e0228f65f79dc27b4caca4a251624b860347a") true
    fnSymbolsBack_holds (fun _ h => by cases h) (by kernel_rfl) (fun _ h => by cases h) fnSymbolsBack_row_tie rfl ⟨rfl, rfl⟩ (by kernel_rfl) rfl
    (fun f fn hf hfn => by
      obtain rfl : f = 4 := Option.some.inj ((show Tryd.prog.funcNamed "jpegcodec/laws.FnSymbolsBack" = some 4 by kernel_rfl).symm.trans hf) |>.symm
      obtain rfl : fn = Tryd.f4 := (Option.some.inj (Tryd.func4.symm.trans hfn)).symm
      exact ⟨by kernel_rfl, fun j t ht => by
        rw [Tryd.params4] at ht
        have hm : t ∈ [22, 22, 29] := by simpa using Array.mem_of_getElem? ht
        have hall : ([22, 22, 29].all fun u => !Tryd.prog.wantsStandIn u) = true := by kernel_rfl
        exact (show Tryd.prog.wantsStandIn t = false by simpa using List.all_eq_true.1 hall t hm)⟩)
    (by kernel_rfl)
#print axioms fnSymbolsBack_card
end Go.Proofs.YtdjilplpbaackaaDoor
