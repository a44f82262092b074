/-
  The standard's side: spec.Codes, the loop over the codes of one length. Conditions: the symbols lie in memory; the table's block is new.
-/
import Derived.Test.YtdjilplpbaackaaDoorAr
import Derived.Test.YtdjilplpbaackaaDoorRd
import Derived.Test.YtdjilplpbaackaaDoorPb
import Derived.Test.YtdjilplpbaackaaDoorLk
import Derived.Deep.CutBlock
namespace Go.Proofs.YtdjilplpbaackaaDoor
open Go.RowKit

noncomputable def scBlock (n : Nat) : Code := ((Tryd.f9.body.bind (findBlock n)).getD .skip)

/-- Block O holds the codes of the first k symbols. -/
def OutS (O : Nat) (ss : List UInt8) (k : Nat) (w : World) : Prop :=
  ∃ cs : Array Value, w.heap[O]? = some (.cells cs 35 (0, 0)) ∧ cs.size = 512 ∧ One cs ∧
    (∀ x, x < 256 → (∀ j, j < k → byteAt ss j ≠ x) → cs[x * 2]? = some (.int .i64 0)) ∧
    (∀ j, j < k → ∃ l : Nat, 1 ≤ l ∧ cs[byteAt ss j * 2]? = some (.int .i64 l)) ∧ ∀ i j, i < j → j < k → byteAt ss i ≠ byteAt ss j
theorem OutS.only {O : Nat} {ss : List UInt8} {k : Nat} {w w' : World} (h : OutS O ss k w) {S : List Nat} (hO : Only S w w') (hs : O ∉ S) : OutS O ss k w' := by
  obtain ⟨cs, h1, r⟩ := h
  exact ⟨cs, by rw [hO.block O (Lib.lt_of_heap h1) hs]; exact h1, r⟩
/-- Block R is an array of codes. -/
def ArrS (R : Nat) (w : World) : Prop := ∃ cs : Array Value, w.heap[R]? = some (.cells cs 35 (0, 0)) ∧ cs.size = 512 ∧ One cs
theorem ArrS.only {R : Nat} {w w' : World} (h : ArrS R w) {S : List Nat} (hO : Only S w w') (hs : R ∉ S) : ArrS R w' := by
  obtain ⟨cs, h1, r⟩ := h
  exact ⟨cs, by rw [hO.block R (Lib.lt_of_heap h1) hs]; exact h1, r⟩

theorem pow_T {T L : Nat} (h : T = 2 ^ L) : (2 : Int) ^ L = (T : Int) := by rw [h]; simp
section
variable {O R F X L n cap : Nat} {sa : Option Addr} {ss : List UInt8} {w : World}
set_option maxRecDepth 100000 in
set_option maxHeartbeats 8000000 in
theorem scLoop {x0 x2 x3 x5 x9 x10 x12 x13 x14 x15 x16 x17 x18 x21 x22 x23 x24 x25 x26 x27 x28 x29 x30 x31 x32 x33 x34 x35 x36 x37 x38 x39 x40 x41 x42 x43 x44 x45 x46 x47 x48 x49 x50 x51 x52 x53 x54 x55 x56 x57 x58 x59 x60 x61 x62 x63 x64 x65 x66 x67 x68 : Value} (hS : SrcAt [O, R] sa ss w) (hlen : ss.length ≤ 4000000000) (hO : OutS O ss X w) (hR : ArrS R w) (hne : O ≠ R) (hL1 : 1 ≤ L) (hL2 : L ≤ 16) (hn : n ≤ 255) (hX : X ≤ ss.length) (hF : F + 1 ≤ 2 ^ L)
    (Q : Exit → Act → World → Prop)
    (hB : ∀ (tmps : Array Value) (w' : World), tmps.getD 4 undef = .pointer (some ⟨R, 0, none⟩) → tmps.getD 5 undef = .bool false → ArrS R w' → Only [O, R] w w' → Q .ret { tmps := tmps, defers := [] } w')
    (hQ : ∀ (u5 u21 u22 u23 u24 u25 u26 u27 u28 u29 u30 u31 u32 u33 u34 u35 u36 u37 u38 u39 u40 u41 u42 u43 u44 u45 u46 u47 u48 u49 u50 u51 u52 u53 u54 u55 u56 : Value) (w' : World), OutS O ss (X + n) w' → X + n ≤ ss.length → F + n + 1 ≤ 2 ^ L → Only [O] w w' → Q .normal { tmps := #[x0, .slice sa ss.length cap, x2, x3, .pointer (some ⟨R, 0, none⟩), u5, .pointer (some ⟨O, 0, none⟩), .int .i64 ((F + n : Nat) : Int), .int .i64 ((X + n : Nat) : Int), x9, x10, .int .i64 ((L : Nat) : Int), x12, x13, x14, x15, x16, x17, x18, .int .u8 ((n : Nat) : Int), .int .u8 ((n : Nat) : Int), u21, u22, u23, u24, u25, u26, u27, u28, u29, u30, u31, u32, u33, u34, u35, u36, u37, u38, u39, u40, u41, u42, u43, u44, u45, u46, u47, u48, u49, u50, u51, u52, u53, u54, u55, u56, x57, x58, x59, x60, x61, x62, x63, x64, x65, x66, x67, x68], defers := [] } w') :
    (scBlock 2).wp Tryd.prog Q { tmps := #[x0, .slice sa ss.length cap, x2, x3, .pointer (some ⟨R, 0, none⟩), x5, .pointer (some ⟨O, 0, none⟩), .int .i64 ((F : Nat) : Int), .int .i64 ((X : Nat) : Int), x9, x10, .int .i64 ((L : Nat) : Int), x12, x13, x14, x15, x16, x17, x18, .int .u8 ((n : Nat) : Int), .int .u8 0, x21, x22, x23, x24, x25, x26, x27, x28, x29, x30, x31, x32, x33, x34, x35, x36, x37, x38, x39, x40, x41, x42, x43, x44, x45, x46, x47, x48, x49, x50, x51, x52, x53, x54, x55, x56, x57, x58, x59, x60, x61, x62, x63, x64, x65, x66, x67, x68], defers := [] } w := by
  conv => arg 2; whnf
  dsimp only
  have HQ := Lib.hid hQ; clear hQ
  have HB := Lib.hid hB; clear hB
  have HS := Lib.hid hS; clear hS
  have HO0 := Lib.hid hO; clear hO
  have HR := Lib.hid hR; clear hR
  obtain ⟨sl, hsl⟩ : ∃ sl, sl = ss.length := ⟨_, rfl⟩
  rw [← hsl] at hlen hX ⊢
  have HSL := Lib.hid hsl; clear hsl
  have hp16 : 2 ^ L ≤ 65536 := by have := Nat.pow_le_pow_right (show 0 < 2 by decide) hL2; simpa using this
  obtain ⟨T, hT⟩ : ∃ T, T = 2 ^ L := ⟨_, rfl⟩
  rw [← hT] at hF hp16
  have HT := Lib.hid hT; clear hT
  refine wp_block ?_
  go_loopg [7, 8, 20] n (fun m v7 v8 v20 wr => ∃ j : Nat, j ≤ n ∧ m = n - j ∧ v7 = .int .i64 ((F + j : Nat) : Int) ∧ v8 = .int .i64 ((X + j : Nat) : Int) ∧ v20 = .int .u8 (j : Int) ∧ OutS O ss (X + j) wr ∧ X + j ≤ sl ∧ F + j + 1 ≤ T ∧ Only [O] w wr)
  case atStart => exact ⟨0, by omega, rfl, rfl, rfl, rfl, HO0.out, by omega, by omega, Only.refl _ _⟩
  case round =>
    obtain ⟨j, hj, hm, rfl, rfl, rfl, hO, hXj, hFj, hOn⟩ := hrel
    obtain ⟨c, hc⟩ : ∃ c, c = F + j := ⟨_, rfl⟩
    obtain ⟨at_, hat⟩ : ∃ a, a = X + j := ⟨_, rfl⟩
    rw [← hc] at hFj ⊢
    rw [← hat] at hO hXj ⊢
    have HC := Lib.hid hc; clear hc
    have HAT := Lib.hid hat; clear hat
    have HM := Lib.hid hm; clear hm
    have HON := Lib.hid hOn; clear hOn
    obtain ⟨cs, hrow, hsz, hone, hzero, hset, hnd⟩ := hO
    have HREST := Lib.hid (And.intro hone (And.intro hzero (And.intro hset hnd)))
    clear hone hzero hset hnd
    have HSZ := Lib.hid hsz; clear hsz
    obtain ⟨old, hold, hosz, _⟩ := HR.out.only HON.out (by simp; exact fun e => hne e.symm)
    have HOLD := Lib.hid hold; clear hold
    have HOSZ := Lib.hid hosz; clear hosz
    have HFIN : Hid (Only [O, R] w (wr.setRow R cs)) := Lib.hid ((HON.out.mono (fun x hx _ => by simp at hx; simp [hx])).setRow (.inl (by simp)) cs)
    by_cases hjn : j < n
    · have f1 : decide ((j : Int) < (n : Int)) = true := decide_eq_true (by omega)
      by_cases hA : at_ = sl
      · have f2 : ((at_ : Int) == (sl : Int)) = true := by simp; omega
        clear hA
        go_wp2_with (first | (with_reducible show wpList _ _ _ (_ :: _) _ _; refine wpList_load_row rfl 35 (.tmp 6) rfl O rfl 35 cs (0, 0) _ hrow Tryd.underlying35 rfl (by rw [size35, HSZ.out]) ?_) | (with_reducible show wpList _ _ _ (_ :: _) _ _; refine wpList_store_row rfl 35 (.tmp 4) (.tmp 43) rfl R 35 old cs rfl rfl HOLD.out (by rw [size35, HSZ.out]) (by rw [HOSZ.out, HSZ.out]) HREST.out.1.all ?_))
        exact HB.out _ _ rfl rfl ⟨cs, heap_setRow HOLD.out, HSZ.out, HREST.out.1⟩ HFIN.out
      have f2 : ((at_ : Int) == (sl : Int)) = false := by simp; omega
      have hlt : at_ < ss.length := by rw [← HSL.out]; omega
      obtain ⟨u, hu⟩ : ∃ u, ss[at_]? = some u := ⟨_, List.getElem?_eq_getElem hlt⟩
      obtain ⟨ad, rfl, hadn, hcu⟩ := HS.out at_ u hu
      have hcu' := (HON.out.cell (World.block_lt_of_cell? _ _ hcu) (by rw [Addr.block_add]; intro hm; exact hadn (by simp at hm; simp [hm]))).trans hcu
      obtain ⟨s, hs⟩ : ∃ s, s = byteAt ss at_ := ⟨_, rfl⟩
      have hus : u.toNat = s := by rw [hs]; unfold byteAt; rw [List.getD_eq_getElem?_getD, hu]; rfl
      rw [hus] at hcu'
      have hs256 : s < 256 := by rw [hs]; exact byteAt_lt _ _
      have g1 : (0 : Int) ≤ (at_ : Int) := by omega
      have g2 : (at_ : Int).toNat = at_ := by omega
      have g3 : (at_ : Int) < (sl : Int) := by omega
      have g4 : (0 : Int) ≤ (s : Int) := by omega
      have g5 : (s : Int).toNat = s := by omega
      have g6 : (s : Int) < 256 := by omega
      have HSV := Lib.hid hs; clear hs hus hcu hadn hu hlt
      by_cases hseen : ∃ i, i < at_ ∧ byteAt ss i = s
      · obtain ⟨i, hi, his⟩ := hseen
        obtain ⟨l, hl1, hl2⟩ := HREST.out.2.2.1 i hi
        rw [his] at hl2
        have hcO : wr.cell? ⟨O, s * 2, none⟩ = some (.int .i64 l) := by rw [cell_of_row _ _ _ _ _ _ hrow]; exact hl2
        have f3 : ((l : Int) == 0) = false := by simp; omega
        clear his hl2
        go_wp2_with (first | (with_reducible show wpList _ _ _ (_ :: _) _ _; refine wpList_load_row rfl 35 (.tmp 6) rfl O rfl 35 cs (0, 0) _ hrow Tryd.underlying35 rfl (by rw [size35, HSZ.out]) ?_) | (with_reducible show wpList _ _ _ (_ :: _) _ _; refine wpList_store_row rfl 35 (.tmp 4) (.tmp 43) rfl R 35 old cs rfl rfl HOLD.out (by rw [size35, HSZ.out]) (by rw [HOSZ.out, HSZ.out]) HREST.out.1.all ?_))
        exact HB.out _ _ rfl rfl ⟨cs, heap_setRow HOLD.out, HSZ.out, HREST.out.1⟩ HFIN.out
      have hcs0 := HREST.out.2.1 s hs256 (fun i hi h => hseen ⟨i, hi, h⟩)
      have hcO : wr.cell? ⟨O, s * 2, none⟩ = some (.int .i64 0) := by rw [cell_of_row _ _ _ _ _ _ hrow]; exact hcs0
      have HSEEN := Lib.hid hseen; clear hseen hcs0
      obtain ⟨T1, hT1⟩ : ∃ T1, T1 = T - 1 := ⟨_, rfl⟩
      have hT1' : T1 + 1 ≤ T ∧ T ≤ T1 + 1 := by omega
      have hw1 : wrap64 (T : Int) = (T : Int) := IntWalk.wrap64_in _ (by omega)
      have HW1 := Lib.hid hw1; clear hw1
      have hw2 : wrap64 ((T : Int) - 1) = (T1 : Int) := by
        have e : (T : Int) - 1 = (T1 : Int) := by omega
        rw [e]; exact IntWalk.wrap64_in _ (by omega)
      have HW2 := Lib.hid hw2; clear hw2
      have HT1 := Lib.hid hT1'; clear hT1 hT1'
      have hlt1 : s * 2 + 1 < cs.size := by rw [HSZ.out]; omega
      have hc1 : wr.cell? ⟨O, s * 2 + 1, none⟩ = some (cs[s * 2 + 1]'hlt1) := by rw [cell_of_row _ _ _ _ _ _ hrow]; exact Array.getElem?_eq_getElem hlt1
      generalize cs[s * 2 + 1]'hlt1 = v1 at hc1
      clear hlt1
      have hf0 := frozen_of_row _ _ (s * 2) _ _ hrow
      have hf1 := frozen_of_row _ _ (s * 2 + 1) _ _ hrow
      go_upto_region 11 with (first | (with_reducible show wpList _ _ _ (_ :: _) _ _; refine wpList_load_row rfl 35 (.tmp 6) rfl O rfl 35 cs (0, 0) _ hrow Tryd.underlying35 rfl (by rw [size35, HSZ.out]) ?_) | (with_reducible show wpList _ _ _ (_ :: _) _ _; refine wpList_store_row rfl 35 (.tmp 4) (.tmp 43) rfl R 35 old cs rfl rfl HOLD.out (by rw [size35, HSZ.out]) (by rw [HOSZ.out, HSZ.out]) HREST.out.1.all ?_))
      · exact HB.out _ _ rfl rfl ⟨cs, heap_setRow HOLD.out, HSZ.out, HREST.out.1⟩ HFIN.out
      rename_i hx _ _
      have hx2 : (c : Int) < (T1 : Int) := by
        have h : (c : Int) < wrap64 (wrap64 ((2 : Int) ^ L) - 1) := hx
        rw [pow_T HT.out, HW1.out, HW2.out] at h; exact h
      clear hx
      have hlt : c + 1 < T := by have := HT1.out; omega
      clear hx2
      generalize wrap64 (wrap64 ((2 : Int) ^ L) - 1) = W2
      generalize wrap64 ((2 : Int) ^ L) = W1
      generalize decide (W2 ≤ (c : Int)) = W3
      have HROWX := Lib.hid hrow; clear hrow
      have HLT := Lib.hid hlt; clear hlt
      go_wp2_with (fail)
      go_roundg (n - (j + 1))
      case measure => have := HM.out; omega
      case rel =>
        have hsv := HSV.out
        have hat' := HAT.out
        have hseen := HSEEN.out
        obtain ⟨hone, hzero, hset, hnd⟩ := HREST.out
        have hlt1 : s * 2 + 1 < cs.size := by rw [HSZ.out]; omega
        refine ⟨j + 1, by omega, rfl, congrArg _ (by have := HC.out; omega), congrArg _ (by omega), congrArg _ (by omega), ⟨_, Lib.heap_setCell_same (Lib.heap_setCell_same HROWX.out _) _, by simpa using HSZ.out, (hone.set _ rfl).set _ rfl, ?_, ?_, ?_⟩, by omega, by have := HLT.out; have := HC.out; omega, (HON.out.setCell (by simp) _).setCell (by simp) _⟩
        · intro x hx hxn
          have hxs : s ≠ x := by rw [hsv]; exact hxn at_ (by omega)
          rw [Array.getElem?_setIfInBounds_ne (by omega), Array.getElem?_setIfInBounds_ne (by omega)]
          exact hzero x hx (fun i hi => hxn i (by omega))
        · intro i hi
          by_cases hia : i = at_
          · subst hia
            refine ⟨L, hL1, ?_⟩
            rw [← hsv, Array.getElem?_setIfInBounds_ne (by omega), Array.getElem?_setIfInBounds_self_of_lt (by omega)]
          · have hne' : byteAt ss i ≠ s := fun h => hseen ⟨i, by omega, h⟩
            obtain ⟨l, h1, h2⟩ := hset i (by omega)
            exact ⟨l, h1, by rw [Array.getElem?_setIfInBounds_ne (by omega), Array.getElem?_setIfInBounds_ne (by omega)]; exact h2⟩
        · intro i k hik hk
          by_cases hka : k = at_
          · rw [hka, ← hsv]; exact fun h => hseen ⟨i, by omega, h⟩
          · exact hnd i k hik (by omega)
    · obtain rfl : j = n := by omega
      have f1 : decide ((j : Int) < (j : Int)) = false := decide_eq_false (by omega)
      have hO' : OutS O ss (X + j) wr := ⟨cs, hrow, HSZ.out, by rw [← HAT.out]; exact HREST.out⟩
      have HO' := Lib.hid hO'; clear hO'
      clear hrow
      rw [HC.out, HAT.out]
      go_wp2
      rw [HSL.out]
      exact HQ.out _ _ _ _ _ _ _ _ _ _ _ _ _ _ _ _ _ _ _ _ _ _ _ _ _ _ _ _ _ _ _ _ _ _ _ _ _ _ HO'.out (by rw [← HSL.out, ← HAT.out]; exact hXj) (by rw [← HC.out, ← HT.out]; exact hFj) HON.out
end
end Go.Proofs.YtdjilplpbaackaaDoor
