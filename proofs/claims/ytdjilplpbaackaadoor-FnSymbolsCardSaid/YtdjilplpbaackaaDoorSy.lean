/-
  The standard's side: one symbol, bit by bit. Conditions: the reader of bits is as BtR says; the table is as SpT says.
-/
import Derived.Test.YtdjilplpbaackaaDoorBm
namespace Go.Proofs.YtdjilplpbaackaaDoor
open Go.RowKit

/-- The standard's table at place o of block d, its values in a block of their own; neither is in S. -/
structure SpT (S : List Nat) (d o : Nat) (T : Tab) (w : World) : Prop where
  cnt : ∀ i, 0 < i → i ≤ 16 → w.cell? ⟨d, o + i, none⟩ = some (.int .i64 (T.cnt i))
  vals : ∃ va cap, w.cell? ⟨d, o + 17, none⟩ = some (.slice (some ⟨va, 0, none⟩) T.sym.length cap) ∧ va ∉ S ∧ ∀ k, k < T.sym.length → w.cell? ⟨va, k, none⟩ = some (.int .i64 (T.sym.getD k 0))
  pos : 0 < T.sym.length
  nd : d ∉ S
  sum : ∀ i, i < 16 → T.idx (i + 1) + T.cnt (i + 1) ≤ T.sym.length
  small : ∀ i, T.cnt i ≤ 255
  byte : ∀ k, T.sym.getD k 0 < 256

theorem SpT.only {S : List Nat} {d o : Nat} {T : Tab} {w w' : World} (h : SpT S d o T w) {U : List Nat} (k : Only U w w') (hs : ∀ x, x ∈ U → x ∈ S ∨ w.heap.size ≤ x) : SpT S d o T w' := by
  have keep : ∀ (p : Addr) (v : Value), p.block ∉ S → w.cell? p = some v → w'.cell? p = some v := fun p v hp hc => by
    have hlt := World.block_lt_of_cell? _ _ hc
    rw [k.cell hlt (fun hm => (hs _ hm).elim hp (fun hq => by omega))]; exact hc
  obtain ⟨va, cap, h1, h2, h3⟩ := h.vals
  exact { cnt := fun i hi hi' => keep _ _ h.nd (h.cnt i hi hi'), vals := ⟨va, cap, keep _ _ h.nd h1, h2, fun k hk => keep _ _ h2 (h3 k hk)⟩
          pos := h.pos, nd := h.nd, sum := h.sum, small := h.small, byte := h.byte }

section
variable {g cap d o : Nat} {ca : Option Addr} {src : List UInt8} {w : World} {R : List Bool} {T : Tab}

theorem bit_any {short : Bool} (hs : SrcAt [g] ca src w) (hlen : src.length ≤ 4000000000) (h : BtR g ca cap src short R w) :
    Calls Tryd.prog 18 #[.pointer (some ⟨g, 0, none⟩)] w fun e w' => ∃ (x : Nat) (sh' : Bool) (R1 : List Bool), e = .returned (.int .i64 x) ∧ x ≤ 1 ∧ BtR g ca cap src sh' R1 w' ∧ Only [g] w w' ∧
      ((sh' = true ∧ (short = true ∨ R = [])) ∨ (short = false ∧ sh' = false ∧ ∃ b : Bool, R = b :: R1 ∧ x = b.toNat)) := by
  cases short with
  | true => exact (bit_end hs hlen h (.inl rfl)).mono fun e w' ⟨he, hb, ho⟩ => ⟨0, true, [], he, by omega, hb, ho, .inl ⟨rfl, .inl rfl⟩⟩
  | false =>
    cases R with
    | nil => exact (bit_end hs hlen h (.inr rfl)).mono fun e w' ⟨he, hb, ho⟩ => ⟨0, true, [], he, by omega, hb, ho, .inl ⟨rfl, .inr rfl⟩⟩
    | cons b R1 => exact (bit_some hs hlen h).mono fun e w' ⟨he, hb, ho⟩ => ⟨b.toNat, false, R1, he, by cases b <;> decide, hb, ho, .inr ⟨rfl, rfl, b, rfl, rfl⟩⟩

theorem wraps_i64 (n : Int) (h0 : 0 ≤ n) (h1 : n < 2 ^ 62) : IntKind.i64.wrap n = n := IntWalk.i64_in _ (by omega)
theorem or_bit (c x : Nat) (hc : c < 1000000) (hx : x ≤ 1) : bits .or .i64 ((c : Int) * 2) (x : Int) = ((2 * c + x : Nat) : Int) := by
  rw [Int.mul_comm, bits_join .i64 62 (by decide) wraps_i64 1 (2 * (c : Int)) x (by omega) (by omega) (by omega) (by omega) (by omega) (by omega)]; omega

theorem Tab.dec_nil (T : Tab) (f l c : Nat) : T.dec f l c [] = none := by cases f <;> rfl

theorem BtR.any {R' : List Bool} (h : BtR g ca cap src true R w) : BtR g ca cap src true R' w := by
  obtain ⟨a, u, h1, h2, h3, _⟩ := h
  exact ⟨a, u, h1, h2, h3, fun h => by cases h⟩

/-- What symbol leaves. -/
def SymEnd (g : Nat) (ca : Option Addr) (cap : Nat) (src : List UInt8) (w : World) (r : Option (Nat × List Bool)) (e : Ending) (w' : World) : Prop :=
  ∃ v : Int, e = .returned (.int .i64 v) ∧ Only [g] w w' ∧ match r with
    | some (s, R') => v = s ∧ BtR g ca cap src false R' w'
    | none => BtR g ca cap src true [] w'

set_option maxRecDepth 100000 in
set_option maxHeartbeats 4000000 in
theorem symbol (hs : SrcAt [g] ca src w) (hlen : src.length ≤ 4000000000) (h : BtR g ca cap src false R w) (hT : SpT [g] d o T w) :
    Calls Tryd.prog 13 #[.pointer (some ⟨g, 0, none⟩), .pointer (some ⟨d, o, none⟩)] w (SymEnd g ca cap src w (T.decode R)) := by
  have HS := Lib.hid hs; clear hs
  have H := Lib.hid h; clear h
  have HT := Lib.hid hT; clear hT
  go_enter Tryd.func13, Tryd.ntmps13
  go_wp2
  go_loopw [5, 6, 7, 8] (fun v5 v6 v7 v8 wr => ∃ (l c : Nat) (sh : Bool) (R1 : List Bool), 1 ≤ l ∧ l ≤ 17 ∧ v5 = .int .i64 c ∧ v6 = .int .i64 (T.fst l) ∧ v7 = .int .i64 (T.idx l) ∧ v8 = .int .i64 l ∧ c < 2 ^ (l - 1) ∧ T.fst l ≤ 2 * c ∧
      BtR g ca cap src sh R1 wr ∧ Only [g] w wr ∧ (sh = true ∧ T.decode R = none ∨ sh = false ∧ T.dec (17 - l) l c R1 = T.decode R))
    (fun _ _ _ v8 _ => 17 - (intOf v8).toNat)
  case atStart => exact ⟨1, 0, false, R, by omega, by omega, rfl, rfl, rfl, rfl, by decide, by rw [Tab.fst_one]; omega, H.out, Only.refl _ _, .inr ⟨rfl, rfl⟩⟩
  case round =>
    obtain ⟨l, c, sh, R1, hl1, hl17, rfl, rfl, rfl, rfl, hc, hf, hB1, hO1, hd1⟩ := hrel
    have HB1 := Lib.hid hB1
    have HO1 := Lib.hid hO1
    have HD1 := Lib.hid hd1
    have f3 := hB1.frozen 3
    have c3 := hB1.cShort
    clear hB1 hO1 hd1
    by_cases hlt : l ≤ 16
    · have hpow : 2 ^ (l - 1) ≤ 2 ^ 15 := Nat.pow_le_pow_right (by omega) (by omega)
      have hsmall := HT.out.small l
      have hsum := HT.out.sum (l - 1) (by omega)
      rw [show l - 1 + 1 = l from by omega] at hsum
      have hle : T.idx l ≤ 255 * 16 := by
        have : ∀ m, T.idx m ≤ 255 * m := by
          intro m
          induction m with
          | zero => exact Nat.le_refl _
          | succ m ih => rw [Tab.idx]; have := HT.out.small m; split <;> omega
        have := this l; omega
      have HSB := Lib.hid ((HS.out.only HO1.out (fun x hx => .inl hx)))
      go_wp2_with (fail)
      refine (bit_any HSB.out hlen HB1.out).mono ?_
      rintro e w5 ⟨x, sh', R2, rfl, hx, hB5, hO5, hb5⟩
      have hO5' := HO1.out.trans hO5
      have hcnt := (HT.out.only hO5' (fun x hx => .inl hx)).cnt l (by omega) hlt
      obtain ⟨va, vcap, hv1, hv2, hv3⟩ := (HT.out.only hO5' (fun x hx => .inl hx)).vals
      have hor := or_bit c x (by omega) hx
      obtain ⟨cd, hcd⟩ : ∃ cd, cd = 2 * c + x := ⟨_, rfl⟩
      obtain ⟨q, hq⟩ : ∃ q, q = T.cnt l := ⟨_, rfl⟩
      obtain ⟨f, hff⟩ : ∃ f, f = T.fst l := ⟨_, rfl⟩
      obtain ⟨ix, hix⟩ : ∃ ix, ix = T.idx l := ⟨_, rfl⟩
      obtain ⟨N, hN⟩ : ∃ N, N = T.sym.length := ⟨_, rfl⟩
      rw [← hcd] at hor
      rw [← hq] at hcnt hsum hsmall
      rw [← hix] at hsum hle
      rw [← hN] at hsum hv1 hv3
      rw [← hff] at hf
      have hcdl : cd < 2 ^ l := by
        have e : 2 ^ l = 2 * 2 ^ (l - 1) := by
          rw [Nat.mul_comm, ← Nat.pow_succ]; congr 1; omega
        rw [e]; omega
      have hcdf : f ≤ cd := by omega
      have hcd16 : cd < 65536 := by omega
      have HCDL := Lib.hid hcdl; clear hcdl
      -- what the bit says of the code
      have hsay : (sh' = true ∧ T.decode R = none) ∨ (sh' = false ∧ (if cd < f + q then some (T.sym.getD (ix + cd - f) 0, R2) else T.dec (16 - l) (l + 1) cd R2) = T.decode R) := by
        rcases hb5 with ⟨e1, e2⟩ | ⟨e1, e2, b, e3, e4⟩
        · left
          refine ⟨e1, ?_⟩
          rcases HD1.out with ⟨_, d2⟩ | ⟨d1, d2⟩
          · exact d2
          · rcases e2 with e2 | e2
            · rw [d1] at e2; cases e2
            · rw [← d2, e2, Tab.dec_nil]
        · right
          refine ⟨e2, ?_⟩
          rcases HD1.out with ⟨d1, _⟩ | ⟨_, d2⟩
          · rw [d1] at e1; cases e1
          · rw [← d2, e3, show 17 - l = (16 - l) + 1 from by omega, Tab.dec, hcd, hq, hff, hix, e4]
      have HSAY := Lib.hid hsay; clear hsay hb5
      have HCD := Lib.hid hcd; clear hcd
      have HQ := Lib.hid hq; clear hq
      have HF := Lib.hid hff; clear hff
      have HIX := Lib.hid hix; clear hix
      have HN := Lib.hid hN; clear hN
      have HB5 := Lib.hid hB5; clear hB5
      have HO5 := Lib.hid hO5'; clear hO5 hO5'
      have HV := Lib.hid hv3; clear hv3
      have hf' := HF.out
      have hix' := HIX.out
      rw [← hf', ← hix']
      clear hf' hix' c3 f3 hv2
      by_cases hhit : cd < f + q
      · obtain ⟨k, hk⟩ : ∃ k, k = ix + cd - f := ⟨_, rfl⟩
        have hkn : k < N := by omega
        have hcell := HV.out k hkn
        have hk0 : 0 ≤ (ix : Int) + cd - f := by omega
        have hk1 : (ix : Int) + cd - f < N := by omega
        have hk2 : ((ix : Int) + cd - f).toNat = k := by omega
        have hlt' : (cd : Int) - f < q := by omega
        have HK := Lib.hid hk; clear hk
        have HH := Lib.hid hhit; clear hhit
        go_wp2
        go_ret
        refine ⟨_, rfl, HO5.out, ?_⟩
        rcases HSAY.out with ⟨e1, e2⟩ | ⟨e1, e2⟩
        · rw [e2]; have hb := HB5.out; rw [e1] at hb; exact hb.any
        · rw [if_pos HH.out] at e2
          rw [← e2]
          refine ⟨?_, by have hb := HB5.out; rw [e1] at hb; exact hb⟩
          rw [← HK.out]; simp
      · have hlt' : ¬ (cd : Int) - f < q := by omega
        have HH := Lib.hid hhit; clear hhit
        go_wp2
        go_roundw
        case measure => simp [intOf]; omega
        case rel =>
          have hfs := T.fst_succ l (by omega)
          have his := T.idx_succ l (by omega)
          rw [← HF.out, ← HQ.out] at hfs
          rw [← HIX.out, ← HQ.out] at his
          refine ⟨l + 1, cd, sh', R2, by omega, by omega, rfl, by rw [hfs]; congr 1; omega, by rw [his]; congr 1, rfl, HCDL.out, by rw [hfs]; have := HH.out; omega, HB5.out, HO5.out, ?_⟩
          rcases HSAY.out with h | ⟨e1, e2⟩
          · exact .inl h
          · rw [if_neg HH.out] at e2
            exact .inr ⟨e1, by rw [show 17 - (l + 1) = 16 - l from by omega]; exact e2⟩
    · have hl : l = 17 := by omega
      have hN : T.decode R = none := by
        rcases HD1.out with ⟨_, h⟩ | ⟨_, h⟩
        · exact h
        · rw [← h, hl]; rfl
      have HN := Lib.hid hN; clear hN
      subst hl
      go_wp2
      go_ret
      refine ⟨_, rfl, HO1.out.setCell (by simp) _, ?_⟩
      rw [HN.out]
      exact HB1.out.setShort _
end
end Go.Proofs.YtdjilplpbaackaaDoor
