/-
  spec.Symbols. Conditions: the two slices' cells lie in memory.
-/
import Derived.Test.YtdjilplpbaackaaDoorCo
import Derived.OwnWalk
import Derived.Test.YtdjilplpbaackaaDoorZs
namespace Go.Proofs.YtdjilplpbaackaaDoor
open Go.RowKit

/-- What spec.Symbols answers. -/
def SsEnd (tsrc csrc : List UInt8) (cl nu : Int) (n : Nat) (w : World) (e : Ending) (w' : World) : Prop :=
  ∃ (v : Value) (whole valid : Bool), e = .returned (.tuple #[v, .bool whole, .bool valid]) ∧ Only [] w w' ∧
    (valid = true → ∃ (m : Nat → Nat → Option Nat) (c k q : Nat), cl = c ∧ nu = k ∧ c ≤ 1 ∧ k ≤ 3 ∧ Segs tsrc 0 (fun _ _ => none) m ∧ m c k = some q ∧
      whole = (decAll (tabAt tsrc q) n (bitsFrom csrc 0)).2 ∧ w'.ownsRow w.heap.size 5 1 v (decAll (tabAt tsrc q) n (bitsFrom csrc 0)).1.length (scells (decAll (tabAt tsrc q) n (bitsFrom csrc 0)).1))

theorem z57_00 : Tryd.zeroCells57[281]? = some (.slice none 0 0) := by kernel_rfl
theorem z57_01 : Tryd.zeroCells57[299]? = some (.slice none 0 0) := by kernel_rfl
theorem z57_02 : Tryd.zeroCells57[317]? = some (.slice none 0 0) := by kernel_rfl
theorem z57_03 : Tryd.zeroCells57[335]? = some (.slice none 0 0) := by kernel_rfl
theorem z57_10 : Tryd.zeroCells57[353]? = some (.slice none 0 0) := by kernel_rfl
theorem z57_11 : Tryd.zeroCells57[371]? = some (.slice none 0 0) := by kernel_rfl
theorem z57_12 : Tryd.zeroCells57[389]? = some (.slice none 0 0) := by kernel_rfl
theorem z57_13 : Tryd.zeroCells57[407]? = some (.slice none 0 0) := by kernel_rfl
theorem z57_proc : Tryd.zeroCells57[6]? = some (.int .i64 0) := by kernel_rfl
theorem spd_new (w : World) (src : List UInt8) : SpD w.heap.size src (fun _ _ => none) (w.alloc (.cells Tryd.zeroCells57 57)) := by
  have hsz : Tryd.zeroCells57.size = 602 := Tryd.zeroCells57_size
  have hcell : ∀ k, (w.alloc (.cells Tryd.zeroCells57 57)).cell? ⟨w.heap.size, k, none⟩ = Tryd.zeroCells57[k]? := fun k => cell_of_row _ _ k _ _ _ (heap_alloc_new w _)
  refine { there := fun j hj => ⟨by rw [hcell, Array.getElem?_eq_getElem (by omega)]; rfl, frozen_of_row _ _ j _ _ (heap_alloc_new w _)⟩, proc := by rw [hcell]; exact z57_proc, tabs := (fun _ _ _ _ _ h => nomatch h), empty := fun c e hc he _ => ?_ }
  rw [hcell]
  have hc' : c = 0 ∨ c = 1 := by omega
  have he' : e = 0 ∨ e = 1 ∨ e = 2 ∨ e = 3 := by omega
  rcases hc' with rfl | rfl <;> rcases he' with rfl | rfl | rfl | rfl
  · exact z57_00
  · exact z57_01
  · exact z57_02
  · exact z57_03
  · exact z57_10
  · exact z57_11
  · exact z57_12
  · exact z57_13
theorem SpT.push {d o g : Nat} {T : Tab} {w w' : World} (h : SpT [] d o T w) (hg : w.heap.size ≤ g) (hO : Only [] w w') : SpT [g] d o T w' := by
  have h' := h.only hO (by simp)
  obtain ⟨va, cap, h1, h2, h3⟩ := h.vals
  obtain ⟨va', cap', h1', h2', h3'⟩ := h'.vals
  have hdl : d < w.heap.size := World.block_lt_of_cell? _ _ h1
  have e := (hO.cell hdl (by simp)).trans h1
  rw [h1'] at e
  cases e
  have hvl : va < w.heap.size := World.block_lt_of_cell? _ _ (h3 0 h.pos)
  exact { cnt := h'.cnt, vals := ⟨va, cap, h1', by simp; omega, h3'⟩, pos := h.pos, nd := by simp; omega, sum := h.sum, small := h.small, byte := h.byte }

theorem Tab.decode_byte (T : Tab) (hs : ∀ k, T.sym.getD k 0 < 256) {R R' : List Bool} {s : Nat} (h : T.decode R = some (s, R')) : s < 256 := by
  have h1 : ∀ (f l code : Nat) (R R' : List Bool) (s : Nat), T.dec f l code R = some (s, R') → s < 256 := by
    intro f
    induction f with
    | zero => intro l code R R' s h; cases h
    | succ f ih =>
      intro l code R R' s h
      cases R with
      | nil => cases h
      | cons b R =>
        rw [Tab.dec] at h
        split at h
        · cases h; exact hs _
        · exact ih _ _ _ _ _ h
  exact h1 _ _ _ _ _ _ h

section
variable {ta ca : Option Addr} {tsrc csrc : List UInt8} {tcap ccap : Nat} {w : World}

set_option maxRecDepth 100000 in
set_option maxHeartbeats 4000000 in
theorem spec_symbols (ht : SrcAt [] ta tsrc w) (hc : SrcAt [] ca csrc w) (htc : tsrc.length ≤ tcap) (htl : tsrc.length ≤ 4000000000) (hcl : csrc.length ≤ 4000000000) (cl nu : Int) (n : Nat) (hn : n ≤ 65536) :
    Calls Tryd.prog 5 #[.slice ta tsrc.length tcap, .int .i64 cl, .int .i64 nu, .slice ca csrc.length ccap, .int .i64 n] w (SsEnd tsrc csrc cl nu n w) := by
  have HTS := Lib.hid ht; clear ht
  have HCS := Lib.hid hc; clear hc
  by_cases hbad : cl < 0 ∨ 1 < cl ∨ nu < 0 ∨ 3 < nu
  · have HB := Lib.hid hbad
    go_enter Tryd.func5, Tryd.ntmps5
    go_wp2_with (fail)
    all_goals try (go_ret3; exact ⟨_, _, _, rfl, (Only.refl _ _).alloc _, fun h => by cases h⟩)
    all_goals (exfalso; have := HB.out; omega)
  · obtain ⟨c, rfl⟩ : ∃ c : Nat, cl = c := ⟨cl.toNat, by omega⟩
    obtain ⟨k, rfl⟩ : ∃ k : Nat, nu = k := ⟨nu.toNat, by omega⟩
    have hc1 : c ≤ 1 := by omega
    have hk3 : k ≤ 3 := by omega
    clear hbad
    have a1 : decide ((c : Int) < 0) = false := by simp
    have a2 : decide (1 < (c : Int)) = false := by simp; omega
    have a3 : decide ((k : Int) < 0) = false := by simp
    have a4 : decide (3 < (k : Int)) = false := by simp; omega
    go_enter Tryd.func5, Tryd.ntmps5
    go_wp2_with (fail)
    obtain ⟨d, hd⟩ : ∃ d, d = w.heap.size := ⟨_, rfl⟩
    rw [← hd]
    have hO0 : Only [] w (w.alloc (.cells Tryd.zeroCells57 57)) := (Only.refl _ _).alloc _
    have hS0 : SrcAt [d] ta tsrc (w.alloc (.cells Tryd.zeroCells57 57)) := HTS.out.kept hO0 (by simp; omega)
    refine (spec_codes hS0 htl htc (by rw [hd]; exact spd_new w tsrc)).mono ?_
    rintro e w2 ⟨v, rfl, hO2, hv⟩
    have hO02 : Only [] w w2 := hO0.andThen hO2 (by simp; omega)
    have hsz2 := hO2.size
    have hdw : d < w2.heap.size := by simp at hsz2; omega
    have HO2 := Lib.hid hO02
    have hd1 : w.heap.size ≤ d := by omega
    have HD := Lib.hid hd
    clear hd hO0 hS0 hO2 hO02
    cases v with
    | false =>
      go_wp2_with (fail)
      go_ret3
      exact ⟨_, _, _, rfl, HO2.out, fun h => by cases h⟩
    | true =>
      obtain ⟨m, hseg, hD⟩ := hv rfl
      have HSEG := Lib.hid hseg
      have HDD := Lib.hid hD
      clear hv hseg hD
      cases hm : m c k with
      | none =>
        have hcell := HDD.out.empty c k hc1 hk3 hm
        unfold soff at hcell
        go_wp2_with (fail)
        go_ret3
        exact ⟨_, _, _, rfl, HO2.out, fun h => by cases h⟩
      | some q =>
        have HM := Lib.hid hm; clear hm
        obtain ⟨hT, hva⟩ := HDD.out.tabs c k q hc1 hk3 HM.out
        clear hva
        obtain ⟨T, hTT⟩ : ∃ T, T = tabAt tsrc q := ⟨_, rfl⟩
        rw [← hTT] at hT
        obtain ⟨va, vcap, hv1, hv2, hv3⟩ := hT.vals
        have hpos := hT.pos
        obtain ⟨N, hN⟩ : ∃ N, N = T.sym.length := ⟨_, rfl⟩
        rw [← hN] at hv1 hpos
        have hne : ((N : Int) == 0) = false := by simp only [beq_eq_false_iff_ne]; omega
        unfold soff at hv1
        have HT := Lib.hid hT; clear hT
        have HTT := Lib.hid hTT; clear hTT
        have HN := Lib.hid hN; clear hN hv2 hv3
        go_wp2_with (fail)
        generalize hw3 : World.alloc _ _ = w3
        obtain ⟨g, hg⟩ : ∃ g, g = w2.heap.size := ⟨_, rfl⟩
        rw [← hg]
        have hB3 : BtR g ca ccap csrc false (bitsFrom csrc 0) w3 := by
          rw [← hw3, hg]; exact ⟨0, 0, heap_alloc_new w2 _, by omega, fun h => absurd rfl h, fun _ => rfl⟩
        have hO3 : Only [] w2 w3 := by rw [← hw3]; exact (Only.refl _ _).alloc _
        have hO03 := HO2.out.trans hO3
        have hg3 : g < w3.heap.size := by rw [← hw3, hg]; simp
        have hgw : w.heap.size ≤ g := by have := HO2.out.size; omega
        have hdg : d < g := by omega
        have hg2 : w2.heap.size ≤ g := by omega
        clear hw3 hne hv1 hpos hsz2 hdw
        have HGE := Lib.hid hg; clear hg
        obtain ⟨R0, hR0⟩ : ∃ R0, R0 = bitsFrom csrc 0 := ⟨_, rfl⟩
        rw [← hR0] at hB3
        have HR0 := Lib.hid hR0; clear hR0
        go_loopg [10, 55] n (fun mm v10 v55 wr => ∃ (i : Nat) (acc : List Nat) (R1 : List Bool), i ≤ n ∧ mm = n - i ∧ v55 = .int .i64 i ∧ acc.length = i ∧ wr.ownsRow (g + 1) 5 1 v10 acc.length (scells acc) ∧ g < wr.heap.size ∧
          BtR g ca ccap csrc false R1 wr ∧ Only [] w2 wr ∧ Only [] w wr ∧ decAll T n R0 = (acc ++ (decAll T (n - i) R1).1, (decAll T (n - i) R1).2))
        case atStart => exact ⟨0, [], R0, by omega, rfl, rfl, rfl, World.ownsRow_nil _ _ _ _, hg3, hB3, hO3, hO03, by simp⟩
        case round =>
          obtain ⟨i, acc, R1, hi, hmm, rfl, hacc, hown, hgr, hB, hO2r, hO, hd'⟩ := hrel
          have HB := Lib.hid hB; clear hB
          have HT' := Lib.hid (HT.out.push hg2 hO2r)
          have HO2R := Lib.hid hO2r; clear hO2r
          have HO := Lib.hid hO; clear hO
          have HOW := Lib.hid hown; clear hown
          have HD' := Lib.hid hd'; clear hd'
          by_cases hin : i < n
          · go_wp2_with (fail)
            refine (symbol (HCS.out.kept HO.out (by simp; omega)) hcl HB.out HT'.out).mono ?_
            rintro e w5 ⟨v5, rfl, hO5, hP⟩
            have hO05 := HO.out.andThen hO5 (by simp; omega)
            have hown5 := own_only HOW.out hO5 (by simp)
            have hO25 := HO2R.out.andThen hO5 (by simp; omega)
            have HO5 := Lib.hid hO05
            have hsz5 := hO5.size
            have HOW5 := Lib.hid hown5; clear hown5
            have HO25 := Lib.hid hO25; clear hO25
            clear hO5 hO05
            cases hdec : T.decode R1 with
            | none =>
              rw [hdec] at hP
              have hsh := hP.cShort
              have HDEC := Lib.hid hdec; clear hdec hP
              go_wp2_with (fail)
              go_ret3
              have hda : decAll T n R0 = (acc, false) := by
                rw [HD'.out, show n - i = (n - i - 1) + 1 from by omega, decAll_none HDEC.out]; simp
              rw [HTT.out, HR0.out] at hda
              refine ⟨_, _, _, rfl, HO5.out, fun _ => ⟨m, c, k, q, rfl, rfl, hc1, hk3, HSEG.out, HM.out, by rw [hda], ?_⟩⟩
              rw [hda]
              exact own_mono HOW5.out (by omega)
            | some sr =>
              obtain ⟨sy, R'⟩ := sr
              rw [hdec] at hP
              obtain ⟨rfl, hB5⟩ := hP
              have hsh := hB5.cShort
              have hsy := T.decode_byte HT.out.byte hdec
              have hw8 : IntKind.u8.wrap (sy : Int) = (sy : Int) := IntWalk.u8_in _ (by omega)
              have HDEC := Lib.hid hdec; clear hdec
              have HB5 := Lib.hid hB5; clear hB5
              obtain ⟨i0, hi0, hz0, hz1, hz2⟩ := info_parts info5
              go_wp2_with (at_builtin; refine wpList_append_own_at _ rfl _ _ 22 rfl (g + 1) 5 i0 (.int .u8 0) 1 1 Tryd.underlying22 hi0 hz0 hz1 hz2 rfl (by decide) _ _ _ rfl (HOW5.out.alloc _) ⟨w5.heap.size, 0, none⟩ 1 1 [.int .u8 sy] rfl rfl ?c1 ?c2 ?c3 ?c4 ?c5 ?_)
              case c1 =>
                intro j x hj
                match j, hj with
                | 0, hj => simp at hj; subst hj; simp [Addr.add]
              case c2 => intro x hx; simp at hx; subst hx; rfl
              case c3 => unfold maxLen; omega
              case c4 => omega
              case c5 => simp; omega
              intro v' w6 hown6 hgrow _ _
              have hlt5 := HOW5.out.lt
              have hO6 : Only [] w w6 := (HO5.out.alloc _).grown hgrow (fun k hk => .inr (by have := (hlt5 k hk).1; omega))
              have hOg : Only u10.ownBlock.toList w5 w6 := ((Only.refl _ _).alloc _).grown hgrow (fun k hk => .inl (by simp [hk]))
              have hgn : g ∉ u10.ownBlock.toList := fun hm => by have := (hlt5 g (by simpa using hm)).1; omega
              have hB6 := HB5.out.only hOg hgn
              have hO26 : Only [] w2 w6 := (HO25.out.alloc _).grown hgrow (fun k hk => .inr (by have := (hlt5 k hk).1; omega))
              have HO6 := Lib.hid hO6
              have HB6 := Lib.hid hB6
              have HO26 := Lib.hid hO26
              have HOW6 := Lib.hid hown6
              have hg6 : g < w6.heap.size := by have := hOg.size; omega
              clear hown6 hgrow hlt5 hO6 hOg hgn hB6 hO26
              go_wp2
              go_roundg (n - (i + 1))
              case measure => omega
              case rel =>
                refine ⟨i + 1, acc ++ [sy], R', by omega, rfl, by simp, by simp [hacc], ?_, hg6, HB6.out, HO26.out, HO6.out, ?_⟩
                · have e1 : (acc ++ [sy]).length = acc.length + 1 := by simp
                  have e2 : scells (acc ++ [sy]) = scells acc ++ [.int .u8 sy] := by simp [scells]
                  rw [e1, e2, hacc]; exact HOW6.out
                · rw [HD'.out, show n - i = (n - (i + 1)) + 1 from by omega, decAll_some HDEC.out, List.append_assoc]; rfl
          · obtain rfl : i = n := by omega
            go_wp2
            go_ret3
            have hda : decAll T i R0 = (acc, true) := by
              rw [HD'.out, Nat.sub_self]; simp [decAll]
            rw [HTT.out, HR0.out] at hda
            refine ⟨_, _, _, rfl, HO.out, fun _ => ⟨m, c, k, q, rfl, rfl, hc1, hk3, HSEG.out, HM.out, by rw [hda], ?_⟩⟩
            rw [hda]
            exact own_mono HOW.out (by omega)
end
end Go.Proofs.YtdjilplpbaackaaDoor
