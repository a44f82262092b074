/-
  The standard's side: the loop over a table's values. Conditions: the values lie in memory; the table's block and the block of what was seen are new.
-/
import Derived.Test.YtdjilplpbaackaaDoorCn
import Derived.Test.YtdjilplpbaackaaDoorZs
import Derived.Deep.AppendLies
namespace Go.Proofs.YtdjilplpbaackaaDoor
open Go.RowKit

/-- Block sb says which bytes were seen. -/
def SbS (sb : Nat) (f : Nat → Bool) (w : World) : Prop :=
  ∃ C : Array Value, w.heap[sb]? = some (.cells C 69 (0, 0)) ∧ C.size = 256 ∧ ∀ k, k < 256 → C[k]? = some (.bool (f k))
namespace SbS
variable {sb : Nat} {f : Nat → Bool} {w : World}
theorem lt (h : SbS sb f w) : sb < w.heap.size := by
  obtain ⟨C, hC, _⟩ := h
  exact (Array.getElem?_eq_some_iff.1 hC).1
theorem cell (h : SbS sb f w) (k : Nat) (hk : k < 256) : w.cell? ⟨sb, k, none⟩ = some (.bool (f k)) := by
  obtain ⟨C, hC, _, hk'⟩ := h
  rw [cell_of_row w sb k C 69 (0, 0) hC]; exact hk' k hk
theorem frozen (h : SbS sb f w) (k : Nat) : w.frozen? ⟨sb, k, none⟩ = false := by
  obtain ⟨C, hC, _⟩ := h
  exact frozen_of_row w sb k C 69 hC
theorem only (h : SbS sb f w) {S : List Nat} {w' : World} (k : Only S w w') (hs : sb ∉ S) : SbS sb f w' := by
  have hl := h.lt
  obtain ⟨C, hC, r⟩ := h
  exact ⟨C, by rw [k.block sb hl hs]; exact hC, r⟩
theorem set (h : SbS sb f w) (o : Nat) (b : Bool) : SbS sb (fun k => if k = o then b else f k) (w.setCell ⟨sb, o, none⟩ (.bool b)) := by
  obtain ⟨C, hC, hn, hk'⟩ := h
  refine ⟨C.setIfInBounds o (.bool b), by rw [heap_setCell_same w sb o C 69 _ hC], by simpa using hn, fun k hk => ?_⟩
  rw [Array.getElem?_setIfInBounds]
  by_cases e : o = k
  · subst e; rw [if_pos rfl, if_pos (by omega)]; simp
  · rw [if_neg e, hk' k hk]; simp only [if_neg (show ¬ k = o from fun e' => e (by omega))]
end SbS

/-- The first k values. -/
def firsts (vs : Nat → Nat) (k : Nat) : List Nat := (List.range k).map vs
theorem firsts_succ (vs : Nat → Nat) (k : Nat) : firsts vs (k + 1) = firsts vs k ++ [vs k] := by unfold firsts; rw [List.range_succ, List.map_append]; rfl
theorem firsts_length (vs : Nat → Nat) (k : Nat) : (firsts vs k).length = k := by simp [firsts]
/-- Cells of numbers. -/
def icells (l : List Nat) : List Value := l.map fun x => .int .i64 (x : Nat)
theorem icells_append (l m : List Nat) : icells (l ++ m) = icells l ++ icells m := List.map_append
theorem info3 : (Tryd.prog.info? 3).map (fun i => (i.zero, i.size, i.bytes)) = some (some (.int .i64 0), 1, 8) := by kernel_rfl

section
variable {d tb sb tot cc C B : Nat} {P : Addr} {w : World} {f : Nat → Nat}
set_option maxRecDepth 100000 in
set_option maxHeartbeats 8000000 in
theorem valuesBlock {x1 x2 x3 x4 x6 x8 x9 x10 x12 x13 x14 x15 x16 x17 x18 x19 x20 x21 x22 x23 x24 x25 x26 x27 x28 x29 x30 x31 x32 x33 x34 x35 x36 x37 x38 x39 x40 x41 x42 x43 x44 x45 x46 x47 x48 x49 x50 x51 x52 x53 x54 x55 x56 x57 x58 x59 x60 x61 x62 x63 x64 x65 x66 x67 x68 x69 x70 x71 x72 x73 x74 x75 x76 x77 x78 x79 x80 x81 x82 x83 x84 x88 x89 x90 x91 x92 x93 x94 x95 x96 x97 x98 x99 x100 x101 x102 x103 x104 x105 x106 x107 x108 x109 x110 x111 x112 x113 x114 x115 x116 x117 x118 x119 x120 x121 x122 x123 x124 x125 x126 x127 x128 x129 x130 x131 x132 x133 x134 x135 : Value} (vs : Nat → Nat) (hvs : ∀ k, vs k < 256) (hcell : ∀ k, k < tot → w.cell? (P.add k) = some (.int .u8 (vs k))) (htot : tot ≤ 4000000000) (hP : P.block ≠ tb ∧ P.block ≠ sb ∧ P.block < B) (hts : tb ≠ sb) (hB : tb < B ∧ sb < B ∧ B = w.heap.size)
    (hT : TbS tb f (.slice none 0 0) w) (hS : SbS sb (fun _ => false) w) (hC1 : C ≤ 1) (Q : Exit → Act → World → Prop)
    (hF : ∀ (tmps : Array Value) (w' : World), tmps.getD 4 undef = .bool false → Only [tb, sb] w w' → Q .ret { tmps := tmps, defers := [] } w')
    (hQ : ∀ (u4 u13 u88 u89 u90 u91 u92 u93 u94 u95 u96 u97 u98 u99 u100 u101 u102 u103 u104 u105 u106 u107 u108 u109 u110 u111 u112 u113 u114 u115 u116 u117 u118 u119 u120 : Value) (v : Value) (w' : World), TbS tb f v w' → w'.ownsRow B 3 1 v tot (icells (firsts vs tot)) → (firsts vs tot).Nodup → Only [tb, sb] w w' → Q .normal { tmps := #[.pointer (some ⟨d, 0, none⟩), x1, x2, x3, u4, .int .i64 C, x6, .pointer (some ⟨tb, 0, none⟩), x8, x9, x10, .pointer (some ⟨sb, 0, none⟩), x12, u13, x14, x15, x16, x17, x18, x19, x20, x21, x22, x23, x24, x25, x26, x27, x28, x29, x30, x31, x32, x33, x34, x35, x36, x37, x38, x39, x40, x41, x42, x43, x44, x45, x46, x47, x48, x49, x50, x51, x52, x53, x54, x55, x56, x57, x58, x59, x60, x61, x62, x63, x64, x65, x66, x67, x68, x69, x70, x71, x72, x73, x74, x75, x76, x77, x78, x79, x80, x81, x82, x83, x84, .slice (some P) tot cc, .int .i64 tot, .int .i64 tot, u88, u89, u90, u91, u92, u93, u94, u95, u96, u97, u98, u99, u100, u101, u102, u103, u104, u105, u106, u107, u108, u109, u110, u111, u112, u113, u114, u115, u116, u117, u118, u119, u120, x121, x122, x123, x124, x125, x126, x127, x128, x129, x130, x131, x132, x133, x134, x135], defers := [] } w') :
    (codesBlock 4).wp Tryd.prog Q { tmps := #[.pointer (some ⟨d, 0, none⟩), x1, x2, x3, x4, .int .i64 C, x6, .pointer (some ⟨tb, 0, none⟩), x8, x9, x10, .pointer (some ⟨sb, 0, none⟩), x12, x13, x14, x15, x16, x17, x18, x19, x20, x21, x22, x23, x24, x25, x26, x27, x28, x29, x30, x31, x32, x33, x34, x35, x36, x37, x38, x39, x40, x41, x42, x43, x44, x45, x46, x47, x48, x49, x50, x51, x52, x53, x54, x55, x56, x57, x58, x59, x60, x61, x62, x63, x64, x65, x66, x67, x68, x69, x70, x71, x72, x73, x74, x75, x76, x77, x78, x79, x80, x81, x82, x83, x84, .slice (some P) tot cc, .int .i64 tot, .int .i64 0, x88, x89, x90, x91, x92, x93, x94, x95, x96, x97, x98, x99, x100, x101, x102, x103, x104, x105, x106, x107, x108, x109, x110, x111, x112, x113, x114, x115, x116, x117, x118, x119, x120, x121, x122, x123, x124, x125, x126, x127, x128, x129, x130, x131, x132, x133, x134, x135], defers := [] } w := by
  conv => arg 2; whnf
  dsimp only
  have HQ := Lib.hid hQ; clear hQ
  have HF := Lib.hid hF; clear hF
  have HT0 := Lib.hid hT; clear hT
  have HS0 := Lib.hid hS; clear hS
  have HC := Lib.hid hcell; clear hcell
  have HVS := Lib.hid hvs; clear hvs
  obtain ⟨hP1, hP2, hP3⟩ := hP
  obtain ⟨hB1, hB2, hB3⟩ := hB
  have hBle : B ≤ w.heap.size := by omega
  have HB3 := Lib.hid hB3; clear hB3
  obtain ⟨i0, hi0, hz0, hz1, hz2⟩ := info_parts info3
  refine wp_block ?_
  go_loopg [87] tot (fun m v87 wr => ∃ (k : Nat) (v : Value), k ≤ tot ∧ m = tot - k ∧ v87 = .int .i64 k ∧ TbS tb f v wr ∧ wr.ownsRow B 3 1 v k (icells (firsts vs k)) ∧ SbS sb (fun x => decide (x ∈ firsts vs k)) wr ∧ (firsts vs k).Nodup ∧ Only [tb, sb] w wr)
  case atStart => exact ⟨0, _, by omega, rfl, rfl, HT0.out, World.ownsRow_nil _ _ _ _, by simpa [firsts] using HS0.out, by simp [firsts], Only.refl _ _⟩
  case round =>
    obtain ⟨k, v, hk, hm, rfl, hT, hown, hS, hnd, hO⟩ := hrel
    by_cases hlt : k < tot
    · have hc0 := HC.out k hlt
      have hc := hO.cell (World.block_lt_of_cell? _ _ hc0) (by rw [Addr.block_add]; simp [hP1, hP2])
      rw [hc0] at hc
      obtain ⟨u, hu⟩ : ∃ u, u = vs k := ⟨_, rfl⟩
      have hu256 := HVS.out k
      rw [← hu] at hc hu256
      have hse := hS.cell u hu256
      have hsf := hS.frozen u
      have htv := hT.val
      have hsz := hO.size
      have HU := Lib.hid hu; clear hu
      have HT := Lib.hid hT; clear hT
      have HOW := Lib.hid hown; clear hown
      have HSS := Lib.hid hS; clear hS
      have HND := Lib.hid hnd; clear hnd
      have HO := Lib.hid hO; clear hO
      have HM := Lib.hid hm; clear hm
      clear hc0
      by_cases hseen : u ∈ firsts vs k
      · have hse' : wr.cell? ⟨sb, u, none⟩ = some (.bool true) := by rw [hse]; simp [hseen]
        clear hse hseen
        go_wp2
        exact HF.out _ _ rfl HO.out
      · have hse' : wr.cell? ⟨sb, u, none⟩ = some (.bool false) := by rw [hse]; simp [hseen]
        have HSEEN := Lib.hid hseen
        clear hse hseen
        obtain ⟨mm, hmm⟩ : ∃ mm, mm = u % 16 := ⟨_, rfl⟩
        have hand : bits .and .u8 (u : Int) 15 = (mm : Int) := by rw [u8_and15 _ (by omega) (by omega)]; omega
        have HMM := Lib.hid hmm; clear hmm
        have HW1 : Hid ((wr.setCell ⟨sb, u, none⟩ (.bool true)).ownsRow B 3 1 v k (icells (firsts vs k)) ∧ TbS tb f v (wr.setCell ⟨sb, u, none⟩ (.bool true))) :=
          Lib.hid ⟨own_only HOW.out ((Only.refl [sb] _).setCell (by simp) _) (by simpa using hB2), HT.out.only ((Only.refl [sb] _).setCell (by simp) _) (by simpa using hts)⟩
        have HNEW : Hid (∀ (j : Nat) (x : Value), [Value.int .i64 (u : Int)][j]? = some x → ((wr.setCell ⟨sb, u, none⟩ (.bool true)).alloc (.cells #[.int .i64 (u : Int)] 3)).cell? ((⟨wr.heap.size, 0, none⟩ : Addr).add j) = some x) :=
          Lib.hid (fun j x hj => by have := cell_one_new (wr.setCell ⟨sb, u, none⟩ (.bool true)) (.int .i64 (u : Int)) 3 j x hj; simpa using this)
        by_cases hC0 : C = 0
        · subst hC0
          have hq0 : (((0 : Nat) : Int) == 0) = true := rfl
          have hq1 : (((0 : Nat) : Int) == 1) = false := rfl
          by_cases h11 : 11 < u
          · have h11' : decide (11 < (u : Int)) = true := by simp; omega
            go_wp2
            exact HF.out _ _ rfl HO.out
          · have h11' : decide (11 < (u : Int)) = false := by simp; omega
            go_wp2_with (at_builtin; refine wpList_append_lies _ rfl _ _ 29 rfl B 3 i0 (.int .i64 0) 1 8 Tryd.underlying29 hi0 hz0 hz1 hz2 rfl (by decide) _ _ _ rfl ((HW1.out.1).alloc _) ⟨wr.heap.size, 0, none⟩ 1 1 [.int .i64 u] rfl rfl HNEW.out ?c2 (by decide) ?c3 ?c4 ?c5 (wr.heap.size + 1) ?c6 ?_)
            case c2 => first | rfl | (intro x hx; simp at hx; subst hx; rfl)
            case c3 => unfold maxLen; omega
            case c4 => omega
            case c5 => first | omega | (simp; omega)
            intro g cap w5 hown5 hgrow hat hlt5
            have hv := HW1.out.1.lt
            have hOg : Only v.ownBlock.toList (wr.setCell ⟨sb, u, none⟩ (.bool true)) w5 := ((Only.refl _ _).alloc _).grown hgrow (fun k hk => .inl (by simp [hk]))
            have hT5 : TbS tb f v w5 := HW1.out.2.only hOg (fun hm => by have := (hv tb (by simpa using hm)).1; omega)
            have hS5 := (HSS.out.set u true).only hOg (fun hm => by have := (hv sb (by simpa using hm)).1; omega)
            have hO5 : Only [tb, sb] w w5 := (HO.out.setCell (by simp) _).andThen hOg (fun x hx => .inr (by have := (hv x (by simpa using hx)).1; have := HB3.out; omega))
            have htv5 := hT5.val
            have htf5 := hT5.frozen 17
            have HT5 := Lib.hid hT5; clear hT5
            have HS5 := Lib.hid hS5; clear hS5
            have HO5 := Lib.hid hO5; clear hO5
            have HOW5 := Lib.hid hown5; clear hown5
            clear hv hOg hgrow hat hlt5
            go_wp2
            go_roundg (tot - (k + 1))
            case measure => have := HM.out; omega
            case rel =>
              have hown6 := own_only HOW5.out ((Only.refl [tb] _).setCell (p := ⟨tb, 17, none⟩) (by simp) (.slice (some ⟨g, 0, none⟩) (k + 1) cap)) (by simpa using hB1)
              refine ⟨k + 1, _, by omega, rfl, rfl, HT5.out.setV _, ?_, ?_, ?_, HO5.out.setCell (by simp) _⟩
              · rw [firsts_succ, icells_append, ← HU.out]; exact hown6
              · have hs6 := HS5.out.only ((Only.refl [tb] _).setCell (p := ⟨tb, 17, none⟩) (by simp) (.slice (some ⟨g, 0, none⟩) (k + 1) cap)) (by simpa using fun e => hts e.symm)
                have e : (fun x => decide (x ∈ firsts vs (k + 1))) = (fun x => if x = u then true else decide (x ∈ firsts vs k)) := by
                  funext x
                  rw [firsts_succ, ← HU.out]
                  by_cases hx : x = u
                  · simp [hx]
                  · simp [hx]
                rw [e]; exact hs6
              · rw [firsts_succ, ← HU.out, List.nodup_append]
                exact ⟨HND.out, by simp, fun x hx y hy => by simp at hy; subst hy; exact fun e => HSEEN.out (e ▸ hx)⟩

        · have hC1' : C = 1 := by omega
          subst hC1'
          have hq0 : (((1 : Nat) : Int) == 0) = false := rfl
          have hq1 : (((1 : Nat) : Int) == 1) = true := rfl
          by_cases h10 : 10 < mm
          · have h10' : decide (10 < (mm : Int)) = true := by simp; omega
            go_wp2
            exact HF.out _ _ rfl HO.out
          · have h10' : decide (10 < (mm : Int)) = false := by simp; omega
            go_wp2_with (at_builtin; refine wpList_append_lies _ rfl _ _ 29 rfl B 3 i0 (.int .i64 0) 1 8 Tryd.underlying29 hi0 hz0 hz1 hz2 rfl (by decide) _ _ _ rfl ((HW1.out.1).alloc _) ⟨wr.heap.size, 0, none⟩ 1 1 [.int .i64 u] rfl rfl HNEW.out ?c2 (by decide) ?c3 ?c4 ?c5 (wr.heap.size + 1) ?c6 ?_)
            case c2 => first | rfl | (intro x hx; simp at hx; subst hx; rfl)
            case c3 => unfold maxLen; omega
            case c4 => omega
            case c5 => first | omega | (simp; omega)
            intro g cap w5 hown5 hgrow hat hlt5
            have hv := HW1.out.1.lt
            have hOg : Only v.ownBlock.toList (wr.setCell ⟨sb, u, none⟩ (.bool true)) w5 := ((Only.refl _ _).alloc _).grown hgrow (fun k hk => .inl (by simp [hk]))
            have hT5 : TbS tb f v w5 := HW1.out.2.only hOg (fun hm => by have := (hv tb (by simpa using hm)).1; omega)
            have hS5 := (HSS.out.set u true).only hOg (fun hm => by have := (hv sb (by simpa using hm)).1; omega)
            have hO5 : Only [tb, sb] w w5 := (HO.out.setCell (by simp) _).andThen hOg (fun x hx => .inr (by have := (hv x (by simpa using hx)).1; have := HB3.out; omega))
            have htv5 := hT5.val
            have htf5 := hT5.frozen 17
            have HT5 := Lib.hid hT5; clear hT5
            have HS5 := Lib.hid hS5; clear hS5
            have HO5 := Lib.hid hO5; clear hO5
            have HOW5 := Lib.hid hown5; clear hown5
            clear hv hOg hgrow hat hlt5
            go_wp2
            go_roundg (tot - (k + 1))
            case measure => have := HM.out; omega
            case rel =>
              have hown6 := own_only HOW5.out ((Only.refl [tb] _).setCell (p := ⟨tb, 17, none⟩) (by simp) (.slice (some ⟨g, 0, none⟩) (k + 1) cap)) (by simpa using hB1)
              refine ⟨k + 1, _, by omega, rfl, rfl, HT5.out.setV _, ?_, ?_, ?_, HO5.out.setCell (by simp) _⟩
              · rw [firsts_succ, icells_append, ← HU.out]; exact hown6
              · have hs6 := HS5.out.only ((Only.refl [tb] _).setCell (p := ⟨tb, 17, none⟩) (by simp) (.slice (some ⟨g, 0, none⟩) (k + 1) cap)) (by simpa using fun e => hts e.symm)
                have e : (fun x => decide (x ∈ firsts vs (k + 1))) = (fun x => if x = u then true else decide (x ∈ firsts vs k)) := by
                  funext x
                  rw [firsts_succ, ← HU.out]
                  by_cases hx : x = u
                  · simp [hx]
                  · simp [hx]
                rw [e]; exact hs6
              · rw [firsts_succ, ← HU.out, List.nodup_append]
                exact ⟨HND.out, by simp, fun x hx y hy => by simp at hy; subst hy; exact fun e => HSEEN.out (e ▸ hx)⟩

    · obtain rfl : k = tot := by omega
      have HT := Lib.hid hT; clear hT
      have HSS := Lib.hid hS; clear hS
      have HO := Lib.hid hO; clear hO
      have HOW := Lib.hid hown; clear hown
      have HND := Lib.hid hnd; clear hnd
      go_wp2
      exact HQ.out _ _ _ _ _ _ _ _ _ _ _ _ _ _ _ _ _ _ _ _ _ _ _ _ _ _ _ _ _ _ _ _ _ _ _ v _ HT.out HOW.out HND.out HO.out
end
end Go.Proofs.YtdjilplpbaackaaDoor
