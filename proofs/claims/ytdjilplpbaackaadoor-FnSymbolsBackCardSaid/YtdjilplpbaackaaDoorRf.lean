/-
  The decoder's readFull into its own block. Conditions: St; no byte is to be unread; the source has the bytes; the place lies behind the reader's fields.
-/
import Derived.Test.YtdjilplpbaackaaDoorFl
import Derived.Test.YtdjilplpbaackaaDoorPl
namespace Go.Proofs.YtdjilplpbaackaaDoor
open Go.RowKit
section
variable {b rd cap p : Nat} {sa : Option Addr} {src : List UInt8} {e1 e2 : Addr} {s : DS} {w : World}

theorem St.updG (h : St b rd sa cap src e1 e2 s p w) {s' : DS} {w' : World} (hD : DecS b s' w') (hO : Only [b] w w') (hg : s'.g 0 = s.g 0) (hj : s'.j = s.j) (hbuf : s'.buf = s.buf) (hi : s'.i ≤ s.j) :
    St b rd sa cap src e1 e2 s' p w' :=
  { dec := hD, rdr := h.rdr.only hO (by simpa using fun e => h.ne e.symm), iface := by rw [hg]; exact h.iface
    srcAt := h.srcAt.only hO (by simp), ne := h.ne
    u1 := by rw [hO.cell (p := ⟨1, 0, none⟩) (World.block_lt_of_cell? _ _ h.u1) (by have := h.hb; simp; omega)]; exact h.u1
    u2 := by rw [hO.cell (p := ⟨2, 0, none⟩) (World.block_lt_of_cell? _ _ h.u2) (by have := h.hb; simp; omega)]; exact h.u2
    hb := h.hb, hr := h.hr, hcap := h.hcap, hlen := h.hlen, ij := by rw [hj]; exact hi, j4 := by rw [hj]; exact h.j4, jp := by rw [hj]; exact h.jp, pl := h.pl
    bufAt := by rw [hj, hbuf]; exact h.bufAt }

/-- Bytes of the source in the cells from o on. -/
def putG (g : Nat → Value) (src : List UInt8) (q o n : Nat) : Nat → Value := fun k => if o ≤ k ∧ k < o + n then .int .u8 (src.getD (q + (k - o)) 0).toNat else g k

theorem putG_zero (g : Nat → Value) (q o : Nat) : putG g src q o 0 = g := by
  funext k; unfold putG; rw [if_neg (by omega)]
theorem putG_more (g : Nat → Value) (q o t n : Nat) : putG (putG g src q o t) src (q + t) (o + t) n = putG g src q o (t + n) := by
  funext k
  unfold putG
  by_cases h1 : o + t ≤ k ∧ k < o + t + n
  · rw [if_pos h1, if_pos (by omega), show q + t + (k - (o + t)) = q + (k - o) from by omega]
  · rw [if_neg h1]
    by_cases h2 : o ≤ k ∧ k < o + t
    · rw [if_pos h2, if_pos (by omega)]
    · rw [if_neg h2, if_neg (by omega)]

/-- What readFull leaves. -/
structure Full (b rd : Nat) (sa : Option Addr) (cap : Nat) (src : List UInt8) (e1 e2 : Addr) (s : DS) (w : World) (q o z : Nat) (s' : DS) (p' : Nat) (w' : World) : Prop where
  st : St b rd sa cap src e1 e2 s' p' w'
  a : s'.a = s.a
  m : s'.m = s.m
  n : s'.n = s.n
  nu : s'.nu = 0
  pos : s'.pos p' = q + z
  g : s'.g = putG s.g src q o z
  only : Only [b, rd] w w'

set_option maxRecDepth 100000 in
set_option maxHeartbeats 4000000 in
theorem read_full (h : St b rd sa cap src e1 e2 s p w) (hnu : s.nu = 0) (o len cp : Nat) (ho : 4103 ≤ o) (hol : o + len ≤ 9020) (hl0 : 0 < len) (hcp : len ≤ cp) (hcp2 : cp ≤ 9020) (hsrc : s.pos p + len ≤ src.length) :
    Calls Tryd.prog 27 #[.pointer (some ⟨b, 0, none⟩), .slice (some ⟨b, o, none⟩) len cp] w fun e w' => e = .returned .nilIface ∧
      ∃ s' p', Full b rd sa cap src e1 e2 s w (s.pos p) o len s' p' w' := by
  have hU : w.cell? ⟨b, 4102, none⟩ = some (.int .i64 0) := by have := h.dec.cU; rw [hnu] at this; exact this
  obtain ⟨q, hq⟩ : ∃ q, q = s.pos p := ⟨_, rfl⟩
  rw [← hq] at hsrc ⊢
  have HQ := Lib.hid hq; clear hq
  have HS := Lib.hid h; clear h
  have HU := Lib.hid hnu; clear hnu
  go_enter Tryd.func27, Tryd.ntmps27
  go_wp2
  go_loopg [1] (2 * len + 1) (fun k v wr => ∃ (t : Nat) (s1 : DS) (p1 : Nat), t < len ∧ v = .slice (some ⟨b, o + t, none⟩) (len - t) (cp - t) ∧ Full b rd sa cap src e1 e2 s w q o t s1 p1 wr ∧ 2 * (len - t) + (if s1.i = s1.j then 1 else 0) ≤ k)
  case atStart => exact ⟨0, s, p, hl0, rfl, ⟨HS.out, rfl, rfl, rfl, HU.out, by rw [HQ.out]; rfl, (putG_zero _ _ _).symm, Only.refl _ _⟩, by split <;> omega⟩
  case round =>
    obtain ⟨t, s1, p1, ht, rfl, hF, hk⟩ := hrel
    have hI := hF.st.dec.cI
    have hJ := hF.st.dec.cJ
    have hij := hF.st.ij
    have hj4 := hF.st.j4
    have hij1 : (s1.i : Int) ≤ (s1.j : Int) := by omega
    have hij2 : (s1.j : Int) ≤ 4096 := by omega
    have HF := Lib.hid hF; clear hF
    have HK := Lib.hid hk; clear hk
    go_wp2
    refine wp_region_still_tail 16 (by kernel_rfl) (by kernel_rfl) ?_
    change wpStill _ _ (World.drew _) (fun a' => wpList _ _ _ _ a' (World.drew _)) _ _
    simp only [List.take_succ_cons, List.take_zero, List.drop_succ_cons, List.drop_zero]
    repeat still_step
    refine wpStill_nil ?_
    obtain ⟨n, hn⟩ : ∃ n, n = min (len - t) (s1.j - s1.i) := ⟨_, rfl⟩
    have hpos : s1.pos p1 = q + t := HF.out.pos
    have hpl := HF.out.st.pl
    have hjp := HF.out.st.jp
    have hnl : q + t + n ≤ src.length := by unfold DS.pos at hpos; omega
    have HN := Lib.hid hn; clear hn
    have HPOS := Lib.hid hpos; clear hpos
    refine wpList_copy_dec (b := b) (s := s1) (s' := { s1 with g := putG s1.g src (q + t) (o + t) n }) (by exact HF.out.st.dec.drew) rfl (.tmp 25) (.tmp 40) 22 22 rfl 5 (o + t) (len - t) (cp - t) _ _ _ (bcells ((src.drop (q + t)).take n)) Tryd.underlying22 (by kernel_rfl) rfl rfl ?_ ?_ ?_ ?_ ?_ ?_
    · rw [length_bcells, List.length_take, List.length_drop]
      have := HN.out
      rw [show (s1.j - s1.i).min (len - t) = n from by rw [this]; exact Nat.min_comm _ _]
      omega
    · intro h0
      have hnn := HN.out
      have h0' : 0 < n := by rw [length_bcells, List.length_take] at h0; omega
      refine ⟨⟨b, 4 + s1.i, none⟩, by rw [if_neg (by omega)], fun j v hj => ?_⟩
      simp only [bcells, List.getElem?_map, List.getElem?_take, List.getElem?_drop] at hj
      split at hj
      · rename_i hjn
        rw [Addr.add_lit, World.cell?_drew, show 4 + s1.i + j = 4 + (s1.i + j) from by omega, HF.out.st.dec.cB (s1.i + j) (by omega)]
        cases hu : src[q + t + j]? with
        | none => simp [hu] at hj
        | some u =>
          rw [hu] at hj
          have hpos := HPOS.out
          rw [HF.out.st.bufAt (s1.i + j) u (by omega) (by rw [← hu]; congr 1; unfold DS.pos at hpos; omega)]
          exact hj
      · simp at hj
    · rw [length_bcells, List.length_take]
      have := HN.out; omega
    · exact bcells_one _
    · intro k hk
      rw [length_bcells, List.length_take, List.length_drop, show min n (src.length - (q + t)) = n from by omega]
      by_cases hin : o + t ≤ k ∧ k < o + t + n
      · rw [if_pos hin, DecS.at_g _ _ (by omega)]
        show putG s1.g src (q + t) (o + t) n k = _
        unfold putG
        rw [if_pos hin]
        obtain ⟨j, rfl⟩ : ∃ j, k = o + t + j := ⟨k - (o + t), by omega⟩
        rw [show o + t + j - (o + t) = j from by omega]
        simp only [bcells, List.getD_eq_getElem?_getD, List.getElem?_map, List.getElem?_take, List.getElem?_drop]
        rw [if_pos (by omega), List.getElem?_eq_getElem (by omega)]
        rfl
      · rw [if_neg hin]
        unfold DS.at
        have : putG s1.g src (q + t) (o + t) n k = s1.g k := by unfold putG; rw [if_neg hin]
        simp only [this]
    · intro w2 hD2 hO2
      have hS2 : St b rd sa cap src e1 e2 { s1 with g := putG s1.g src (q + t) (o + t) n } p1 w2 :=
        HF.out.st.updG hD2 hO2.of_drew (by show putG _ _ _ _ _ 0 = _; unfold putG; rw [if_neg (by omega)]) rfl rfl HF.out.st.ij
      have hO2' := HF.out.only.trans (hO2.of_drew.mono (S' := [b, rd]) (by simp))
      rw [length_bcells, List.length_take, List.length_drop, show min n (src.length - (q + t)) = n from by omega]
      have hI2 : w2.cell? ⟨b, 4100, none⟩ = some (.int .i64 s1.i) := hD2.cI
      have hf2 := hD2.frozen 4100
      have hnn := HN.out
      have hn1 : (n : Int) ≤ ((len - t : Nat) : Int) := by omega
      have hle : n ≤ len - t := by omega
      have HS2 := Lib.hid hS2
      have HO2 := Lib.hid hO2'
      clear hS2 hO2' hD2 hO2 hnn hI hJ
      have hfull : ∀ w3, DecS b { s1 with g := putG s1.g src (q + t) (o + t) n, i := s1.i + n } w3 → Only [b] w2 w3 → Full b rd sa cap src e1 e2 s w q o (t + n) { s1 with g := putG s1.g src (q + t) (o + t) n, i := s1.i + n } p1 w3 := by
        intro w3 hD3 hO3
        have hnn := HN.out
        have hpos := HPOS.out
        refine ⟨HS2.out.updG hD3 hO3 rfl rfl rfl (by show s1.i + n ≤ s1.j; omega), HF.out.a, HF.out.m, HF.out.n, HF.out.nu, ?_, ?_, HO2.out.trans (hO3.mono (by simp))⟩
        · unfold DS.pos at hpos ⊢
          show p1 - (s1.j - (s1.i + n)) = q + (t + n)
          omega
        · show putG s1.g src (q + t) (o + t) n = _
          rw [HF.out.g, putG_more]
      have HFULL := Lib.hid hfull; clear hfull
      by_cases hlast : n = len - t
      · have hz : ((len - t - n : Nat) : Int) = 0 := by omega
        have HZ := Lib.hid hlast; clear hlast
        have hz2 : len - t - n = 0 := by omega
        clear hz
        go_wp2
        all_goals go_ret
        all_goals exact ⟨rfl, _, p1, by rw [show len = t + n from by have := HZ.out; omega]; exact HFULL.out _ (HS2.out.dec.setI (by omega)) (by repeat (first | exact Only.refl _ _ | refine Only.drewN ?_ _ | refine Only.setCell ?_ (by simp) _))⟩
      · have hz2 : 0 < len - t - n := by omega
        have hz3 : ¬ cp - t = n := by omega
        have hz4 : (((len - t - n : Nat) : Int) == 0) = false := by simp only [beq_eq_false_iff_ne]; omega
        have HZ := Lib.hid hlast; clear hlast
        go_wp2_with (fail)
        all_goals
          generalize hw3 : World.setCell w2 _ _ = w3
          have hD3 : DecS b { s1 with g := putG s1.g src (q + t) (o + t) n, i := s1.i + n } w3 := by rw [← hw3]; exact HS2.out.dec.setI (by omega)
          have hO3 : Only [b] w2 w3 := by rw [← hw3]; repeat (first | exact Only.refl _ _ | refine Only.drewN ?_ _ | refine Only.setCell ?_ (by simp) _)
          have hF3 := HFULL.out w3 hD3 hO3
          have hieq : s1.i + n = s1.j := by have := HN.out; have := HZ.out; omega
          have hplt : p1 < src.length := by have := HPOS.out; unfold DS.pos at this; have := HZ.out; omega
          clear hw3 hD3 hO3 hI2 hf2
          refine (fill_some hF3.st hieq hplt).mono ?_
          rintro e w4 ⟨rfl, s4, p4, hF4, hlt4⟩
          have hF5 : Full b rd sa cap src e1 e2 s w q o (t + n) s4 p4 w4 :=
            ⟨hF4.st, hF4.keep.a.trans hF3.a, hF4.keep.m.trans hF3.m, hF4.keep.n.trans hF3.n, hF4.nu.trans hF3.nu, hF4.pos.trans hF3.pos, hF4.keep.g.trans hF3.g, hF3.only.trans hF4.only⟩
          have HF5 := Lib.hid hF5
          clear hF3 hF4 hF5
          go_wp2
          go_roundg (2 * (len - (t + n)))
          case measure =>
            have h1 := HK.out
            have h2 := HN.out
            have h3 := HZ.out
            by_cases e : s1.i = s1.j
            · rw [if_pos e] at h1; omega
            · rw [if_neg e] at h1; omega
          case rel => exact ⟨t + n, s4, p4, by have := HZ.out; omega, by rw [show o + t + n = o + (t + n) from by omega, show len - t - n = len - (t + n) from by omega, show cp - t - n = cp - (t + n) from by omega], HF5.out, by rw [if_neg (by omega)]; omega⟩
end
end Go.Proofs.YtdjilplpbaackaaDoor
