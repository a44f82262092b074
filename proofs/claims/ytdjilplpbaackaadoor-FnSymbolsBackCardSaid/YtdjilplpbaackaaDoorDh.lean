/-
  The decoder's decodeHuffman. Conditions: St; the bits that are held are as BitsOk says; the table's cells are as HuffG says.
-/
import Derived.Test.YtdjilplpbaackaaDoorDe
namespace Go.Proofs.YtdjilplpbaackaaDoor
open Go.RowKit

theorem wp_scope_fwd {P : Program} {c rest : Code} {Q : Exit → Act → World → Prop} {a : Act} {w : World} (l : Nat) (hf : findLabel c l = some rest)
    (first : c.wp P (Exit.jump l (fun a w => rest.wp P (Exit.noGoto Q) a w) Q) a w) : (Code.scope c).wp P Q a w :=
  wp_scope_jumps l _ (fun _ _ => 0) hf first (fun _ _ hJ => wp_mono hJ (fun e a w hq => by cases e <;> first | exact hq | exact hq.elim))

section
variable {b rd cap p ho : Nat} {sa : Option Addr} {src : List UInt8} {e1 e2 : Addr} {s : DS} {w : World} {T : Tab}

/-- What a call of decodeHuffman leaves. -/
def DecEnd (b rd : Nat) (sa : Option Addr) (cap : Nat) (src : List UInt8) (e1 e2 : Addr) (g0 : Nat → Value) (w0 : World) (r : Option (Nat × List Bool)) (e : Ending) (w' : World) : Prop :=
  ∃ v4 v5, e = .returned (.tuple #[v4, v5]) ∧ DecPost b rd sa cap src e1 e2 g0 w0 r v4 v5 w'

theorem DecPost.from_only {g0 : Nat → Value} {w0 w1 w' : World} {r : Option (Nat × List Bool)} {v4 v5 : Value} (h : DecPost b rd sa cap src e1 e2 g0 w1 r v4 v5 w') (hO : Only [b, rd] w0 w1) :
    DecPost b rd sa cap src e1 e2 g0 w0 r v4 v5 w' := by
  unfold DecPost at h ⊢
  cases r with
  | none => exact ⟨h.1, h.2.1, hO.trans h.2.2⟩
  | some sr =>
    obtain ⟨sy, R'⟩ := sr
    obtain ⟨h1, h2, s', p', h3, h4, h5, h6, h7⟩ := h
    exact ⟨h1, h2, s', p', h3, h4, h5, h6, hO.trans h7⟩

theorem mask_shift {n m len : Nat} (hn : 8 ≤ n) (hl : len ≤ 8) (hm : m = if n = 0 then 0 else 2 ^ (n - 1)) : m / 2 ^ len = if n - len = 0 then 0 else 2 ^ (n - len - 1) := by
  rw [hm, if_neg (by omega)]
  by_cases h0 : n - len = 0
  · rw [if_pos h0, show len = (n - 1) + 1 from by omega, Nat.pow_succ]
    have := Nat.two_pow_pos (n - 1)
    exact Nat.div_eq_of_lt (by omega)
  · rw [if_neg h0, show n - 1 = (n - len - 1) + len from by omega, Nat.pow_add, Nat.mul_div_cancel _ (Nat.two_pow_pos _)]

theorem and_byte (a k : Nat) (ha : a < 4294967296) : bits .and .u32 ((a : Int) / 2 ^ k) 255 = ((a / 2 ^ k % 256 : Nat) : Int) := by
  have e : (a : Int) / 2 ^ k = ((a / 2 ^ k : Nat) : Int) := by simp
  have hle : a / 2 ^ k ≤ a := Nat.div_le_self _ _
  rw [e, show (255 : Int) = ((255 : Nat) : Int) from rfl, u32_and_nat _ _ (by omega) (by omega), nat_mask8]
theorem and_byte16 (v : Nat) (hv : v < 65536) : bits .and .u16 (v : Int) 255 = ((v % 256 : Nat) : Int) := by
  rw [show (255 : Int) = ((255 : Nat) : Int) from rfl, u16_and_nat _ _ (by omega) (by omega), nat_mask8]

theorem Tab.lut_lt (T : Tab) (hs : ∀ k, T.sym.getD k 0 < 256) (c : Nat) : T.lut c < 65536 := by
  unfold Tab.lut
  split
  · rename_i sy rest hd
    have h1 : ∀ (f l code : Nat) (R R' : List Bool) (s : Nat), T.dec f l code R = some (s, R') → s < 256 := by
      intro f
      induction f with
      | zero => intro l code R R' s h; cases h
      | succ f ih =>
        intro l code R R' s h
        cases R with
        | nil => cases h
        | cons b R =>
          rw [Tab.dec] at h
          split at h
          · cases h; exact hs _
          · exact ih _ _ _ _ _ h
    have := h1 _ _ _ _ _ _ hd
    omega
  · omega

set_option maxRecDepth 100000 in
set_option maxHeartbeats 400000 in
theorem unread_small (b : Nat) (s : DS) (w : World) (h : DecS b s w) (hn8 : s.n < 8) (hi : s.nu ≤ s.i) (hi2 : s.i ≤ 4096) :
    Calls Tryd.prog 29 #[.pointer (some ⟨b, 0, none⟩)] w fun e w' => e = .returned (.tuple #[]) ∧ DecS b { s with i := s.i - s.nu, nu := 0 } w' ∧ Only [b] w w' := by
  have hI := h.cI
  have hU := h.cU
  have hN := h.cN
  have hf0 := h.frozen 4100
  have hf1 := h.frozen 4102
  have H := Lib.hid h; clear h
  go_enter Tryd.func29, Tryd.ntmps29
  go_wp2
  go_region
  all_goals go_wp2
  all_goals go_end0
  all_goals exact ⟨rfl, ((H.out.setI (by omega)).setU rfl).drew, by repeat (first | exact Only.refl _ _ | refine Only.drew ?_ | refine Only.setCell ?_ (by simp) _)⟩

set_option maxRecDepth 100000 in
set_option maxHeartbeats 4000000 in
theorem decode_held (h : St b rd sa cap src e1 e2 s p w) (hB : BitsOk s) (hG : HuffG s.g ho T) (hn8 : 8 ≤ s.n) :
    Calls Tryd.prog 21 #[.pointer (some ⟨b, 0, none⟩), .pointer (some ⟨b, ho, none⟩)] w (DecEnd b rd sa cap src e1 e2 s.g w (T.decode (s.rem src p))) := by
  have hlo := hG.lo
  have hhi := hG.hi
  have hA := h.dec.cA
  have hM := h.dec.cM
  have hN := h.dec.cN
  have hnC := h.dec.cG ho (by omega) (by omega)
  rw [hG.n] at hnC
  have hne : ((T.sym.length : Int) == 0) = false := by have := hG.pos; simp only [beq_eq_false_iff_ne]; omega
  have hn15 := hB.n15
  have ha32 := hB.a32
  obtain ⟨k, hk⟩ : ∃ k, k = s.n - 8 := ⟨_, rfl⟩
  have hw8 : IntKind.i32.wrap ((s.n : Int) - 8) = (s.n : Int) - 8 := IntWalk.i32_in _ (by omega)
  have hwu : IntKind.u32.wrap ((s.n : Int) - 8) = (k : Int) := by rw [IntWalk.u32_in _ (by omega)]; omega
  have hmin : min k 32 = k := by omega
  have hand := and_byte s.a k ha32
  obtain ⟨c, hc⟩ : ∃ c, c = s.a / 2 ^ k % 256 := ⟨_, rfl⟩
  rw [← hc] at hand
  have hc8 : c < 256 := by omega
  have hcell := h.dec.cG (ho + 1 + c) (by omega) (by omega)
  rw [hG.lut c hc8] at hcell
  have HC : Hid (c = s.a / 2 ^ (s.n - 8) % 256) := Lib.hid (by rw [hc, hk])
  clear hc
  have HK := Lib.hid hk; clear hk
  have HS := Lib.hid h; clear h
  have HB := Lib.hid hB; clear hB
  have HG := Lib.hid hG; clear hG
  by_cases hv : T.lut c = 0
  · have HV := Lib.hid hv
    have hv0 : (((T.lut c : Nat) : Int) != 0) = false := by rw [hv]; rfl
    clear hv
    go_enter Tryd.func21, Tryd.ntmps21
    go_wp2
    refine wp_scope_fwd 0 rfl ?_
    go_wp2
    go_quiet (fail)
    go_wp2
    clear hw8 hwu hmin hand hcell hv0 hne
    go_step3
    rename_i K hK
    simp only [Exit.then]
    refine hK _ _ ?_
    refine slow (ho := ho) (T := T) (HS.out.drewN _) HB.out HG.out _ ?_
    intro tmps w' hp
    exact bodyPost_ret (P := Tryd.prog) (fn := Tryd.f21) (R := DecEnd b rd sa cap src e1 e2 s.g w (T.decode (s.rem src p))) (results_tmp2 rfl _ _ _) rfl ⟨_, _, rfl, hp.from_only ((Only.refl _ _).drewN _)⟩
  · obtain ⟨len, hl0, hl8, hlm, hdec⟩ := T.lut_hit s.n s.a (bitsFrom src (s.pos p)) hn8 (by rw [← HC.out]; exact hv) HG.out.byte
    have hlt := T.lut_lt HG.out.byte c
    rw [← HC.out] at hlm hdec
    have HD : Hid (T.decode (s.rem src p) = some (T.lut c / 256, lowbits (s.n - len) s.a ++ bitsFrom src (s.pos p))) := Lib.hid hdec
    clear hdec
    obtain ⟨v, hvv⟩ : ∃ v, v = T.lut c := ⟨_, rfl⟩
    rw [← hvv] at hcell hlm hlt hv
    have HV := Lib.hid hvv; clear hvv
    have hv0 : ((v : Int) != 0) = true := by simp; omega
    have hf2 := HS.out.dec.frozen 2
    have hf3 := HS.out.dec.frozen 3
    have hand16 := and_byte16 v hlt
    rw [hlm] at hand16
    have HLM := Lib.hid hlm; clear hlm
    go_enter Tryd.func21, Tryd.ntmps21
    go_wp2
    refine wp_scope_fwd 0 rfl ?_
    go_wp2
    go_quiet (fail)
    go_wp2
    refine bodyPost_ret (P := Tryd.prog) (fn := Tryd.f21) (R := DecEnd b rd sa cap src e1 e2 s.g w (T.decode (s.rem src p))) (results_tmp2 rfl _ _ _) rfl ⟨_, _, rfl, ?_⟩
    have hm2 : ((s.m : Int) / 2 ^ len) = ((s.m / 2 ^ len : Nat) : Int) := by simp
    have hb2 : s.n - len ≤ 15 := by have := HB.out.n15; omega
    rw [HD.out, hm2]
    refine ⟨?_, rfl, { s with n := s.n - len, m := s.m / 2 ^ len }, p, HS.out.upd (((HS.out.dec.drewN _).setN (by omega)).setM rfl) (by repeat (first | exact Only.refl _ _ | refine Only.drewN ?_ _ | refine Only.setCell ?_ (by simp) _)) rfl rfl rfl HS.out.ij, ⟨hb2, mask_shift hn8 hl8 HB.out.m, HB.out.a32⟩, rfl, rfl, by repeat (first | exact Only.refl _ _ | refine Only.drewN ?_ _ | refine Only.setCell ?_ (by simp) _)⟩
    show Value.int .u8 ((v : Int) / 256) = .int .u8 ((T.lut c / 256 : Nat) : Int)
    rw [← HV.out]; rfl
set_option maxRecDepth 100000 in
set_option maxHeartbeats 4000000 in
theorem decode_more (h : St b rd sa cap src e1 e2 s p w) (hB : BitsOk s) (hG : HuffG s.g ho T) (hn8 : s.n < 8) {u : UInt8} {q : Nat} (hst : stuffed src (s.pos p) = some (u, q)) :
    Calls Tryd.prog 21 #[.pointer (some ⟨b, 0, none⟩), .pointer (some ⟨b, ho, none⟩)] w (DecEnd b rd sa cap src e1 e2 s.g w (T.decode (s.rem src p))) := by
  have hlo := hG.lo
  have hhi := hG.hi
  have hN := h.dec.cN
  have hnC := h.dec.cG ho (by omega) (by omega)
  rw [hG.n] at hnC
  have hne : ((T.sym.length : Int) == 0) = false := by have := hG.pos; simp only [beq_eq_false_iff_ne]; omega
  have HST := Lib.hid hst; clear hst
  have HS := Lib.hid h; clear h
  have HB := Lib.hid hB; clear hB
  have HG := Lib.hid hG; clear hG
  go_enter Tryd.func21, Tryd.ntmps21
  go_wp2
  refine wp_scope_fwd 0 rfl ?_
  go_wp2_with (go_at_call 28; refine (ensure_some HS.out HST.out 8 (by omega) (by omega) (HB.out.mle (by omega))).mono ?_; rintro e w1 ⟨rfl, s2, p2, hE⟩)
  have hB2 := hE.ok HB.out (by omega)
  have hR2 : s2.rem src p2 = s.rem src p := hE.rem (by omega) HST.out
  have hG2 : HuffG s2.g ho T := by rw [hE.g]; exact HG.out
  have hn2 : 8 ≤ s2.n := by rw [hE.n]; omega
  have HR2 := Lib.hid hR2; clear hR2
  clear hN hnC hne HG HB
  have HG := Lib.hid hG2
  have HB := Lib.hid hB2
  have HS2 := Lib.hid hE.st
  have HO2 := Lib.hid hE.only
  have HGE := Lib.hid hE.g
  have hA := hE.st.dec.cA
  have hM := hE.st.dec.cM
  have hN := hE.st.dec.cN
  have hn15 := hB2.n15
  have ha32 := hB2.a32
  obtain ⟨k, hk⟩ : ∃ k, k = s2.n - 8 := ⟨_, rfl⟩
  have hw8 : IntKind.i32.wrap ((s2.n : Int) - 8) = (s2.n : Int) - 8 := IntWalk.i32_in _ (by omega)
  have hwu : IntKind.u32.wrap ((s2.n : Int) - 8) = (k : Int) := by rw [IntWalk.u32_in _ (by omega)]; omega
  have hmin : min k 32 = k := by omega
  have hand := and_byte s2.a k ha32
  obtain ⟨c, hc⟩ : ∃ c, c = s2.a / 2 ^ k % 256 := ⟨_, rfl⟩
  rw [← hc] at hand
  have hc8 : c < 256 := by omega
  have hcell := hE.st.dec.cG (ho + 1 + c) (by omega) (by omega)
  rw [hG2.lut c hc8] at hcell
  have HC : Hid (c = s2.a / 2 ^ (s2.n - 8) % 256) := Lib.hid (by rw [hc, hk])
  clear hc hE hG2 hB2
  have HK := Lib.hid hk; clear hk
  by_cases hv : T.lut c = 0
  · have HV := Lib.hid hv
    have hv0 : (((T.lut c : Nat) : Int) != 0) = false := by rw [hv]; rfl
    clear hv
    go_wp2
    go_quiet (fail)
    go_wp2
    clear hw8 hwu hmin hand hcell hv0
    go_step3
    rename_i K hK
    simp only [Exit.then]
    refine hK _ _ ?_
    refine slow (ho := ho) (T := T) (HS2.out.drewN _) HB.out HG.out _ ?_
    intro tmps w' hp
    rw [HR2.out, HGE.out] at hp
    exact bodyPost_ret (P := Tryd.prog) (fn := Tryd.f21) (R := DecEnd b rd sa cap src e1 e2 s.g w (T.decode (s.rem src p))) (results_tmp2 rfl _ _ _) rfl ⟨_, _, rfl, hp.from_only (HO2.out.drewN _)⟩
  · obtain ⟨len, hl0, hl8, hlm, hdec⟩ := T.lut_hit s2.n s2.a (bitsFrom src (s2.pos p2)) hn2 (by rw [← HC.out]; exact hv) HG.out.byte
    have hlt := T.lut_lt HG.out.byte c
    rw [← HC.out] at hlm hdec
    have HD : Hid (T.decode (s2.rem src p2) = some (T.lut c / 256, lowbits (s2.n - len) s2.a ++ bitsFrom src (s2.pos p2))) := Lib.hid hdec
    clear hdec
    obtain ⟨v, hvv⟩ : ∃ v, v = T.lut c := ⟨_, rfl⟩
    rw [← hvv] at hcell hlm hlt hv
    have HV := Lib.hid hvv; clear hvv
    have hv0 : ((v : Int) != 0) = true := by simp; omega
    have hf2 := HS2.out.dec.frozen 2
    have hf3 := HS2.out.dec.frozen 3
    have hand16 := and_byte16 v hlt
    rw [hlm] at hand16
    have HLM := Lib.hid hlm; clear hlm
    go_wp2
    go_quiet (fail)
    go_wp2
    refine bodyPost_ret (P := Tryd.prog) (fn := Tryd.f21) (R := DecEnd b rd sa cap src e1 e2 s.g w (T.decode (s.rem src p))) (results_tmp2 rfl _ _ _) rfl ⟨_, _, rfl, ?_⟩
    have hm2 : ((s2.m : Int) / 2 ^ len) = ((s2.m / 2 ^ len : Nat) : Int) := by simp
    have hb2 : s2.n - len ≤ 15 := by have := HB.out.n15; omega
    rw [← HR2.out, HD.out, hm2]
    refine ⟨?_, rfl, { s2 with n := s2.n - len, m := s2.m / 2 ^ len }, p2, HS2.out.upd (((HS2.out.dec.drewN _).setN (by omega)).setM rfl) (by repeat (first | exact Only.refl _ _ | refine Only.drewN ?_ _ | refine Only.setCell ?_ (by simp) _)) rfl rfl rfl HS2.out.ij, ⟨hb2, mask_shift hn2 hl8 HB.out.m, HB.out.a32⟩, rfl, HGE.out, HO2.out.trans (by repeat (first | exact Only.refl _ _ | refine Only.drewN ?_ _ | refine Only.setCell ?_ (by simp) _))⟩
    show Value.int .u8 ((v : Int) / 256) = .int .u8 ((T.lut c / 256 : Nat) : Int)
    rw [← HV.out]; rfl

set_option maxRecDepth 100000 in
set_option maxHeartbeats 4000000 in
theorem decode_less (h : St b rd sa cap src e1 e2 s p w) (hB : BitsOk s) (hG : HuffG s.g ho T) (hn8 : s.n < 8) (hst : stuffed src (s.pos p) = none) :
    Calls Tryd.prog 21 #[.pointer (some ⟨b, 0, none⟩), .pointer (some ⟨b, ho, none⟩)] w (DecEnd b rd sa cap src e1 e2 s.g w (T.decode (s.rem src p))) := by
  have hlo := hG.lo
  have hhi := hG.hi
  have hN := h.dec.cN
  have hnC := h.dec.cG ho (by omega) (by omega)
  rw [hG.n] at hnC
  have hne : ((T.sym.length : Int) == 0) = false := by have := hG.pos; simp only [beq_eq_false_iff_ne]; omega
  have HST := Lib.hid hst; clear hst
  have HS := Lib.hid h; clear h
  have HB := Lib.hid hB; clear hB
  have HG := Lib.hid hG; clear hG
  go_enter Tryd.func21, Tryd.ntmps21
  go_wp2
  refine wp_scope_fwd 0 rfl ?_
  go_wp2_with (fail)
  refine (ensure_none HS.out HST.out 8).mono ?_
  rintro e w1 ⟨err, rfl, herr, s2, p2, hM, hi⟩
  rcases herr with rfl | rfl
  all_goals
    have hnu2 := hM.st.dec.cU
    have hn2 : s2.n < 8 := by rw [hM.keep.n]; exact hn8
    have hi4 : s2.i ≤ 4096 := Nat.le_trans hM.st.ij hM.st.j4
    have HM := Lib.hid hM; clear hM
    clear hN hnC hne
    by_cases h0 : s2.nu = 0
    · have hb0 : ((s2.nu : Int) != 0) = false := by rw [h0]; rfl
      have H0 := Lib.hid h0; clear h0
      go_wp2_with (go_step3)
      refine ⟨rfl, wp_seq (wp_skip ?_)⟩
      refine slow (ho := ho) (T := T) (w := w1) (p := p2) (s := s2) HM.out.st ?_ (by rw [HM.out.keep.g]; exact HG.out) _ ?_
      · exact ⟨by have := HB.out.n15; rw [HM.out.keep.n]; exact this, by rw [HM.out.keep.m, HM.out.keep.n]; exact HB.out.m, by rw [HM.out.keep.a]; exact HB.out.a32⟩
      · intro tmps w' hp
        have hr : s2.rem src p2 = s.rem src p := by
          unfold DS.rem
          rw [HM.out.keep.n, HM.out.keep.a, HM.out.pos, H0.out, Nat.add_zero]
        rw [hr, HM.out.keep.g] at hp
        exact bodyPost_ret (P := Tryd.prog) (fn := Tryd.f21) (R := DecEnd b rd sa cap src e1 e2 s.g w (T.decode (s.rem src p))) (results_tmp2 rfl _ _ _) rfl ⟨_, _, rfl, hp.from_only HM.out.only⟩
    · have hb0 : ((s2.nu : Int) != 0) = true := by simp; omega
      have H0 := Lib.hid h0; clear h0
      go_wp2_with (first | go_step3 | (go_at_call 29; refine (unread_small b s2 _ HM.out.st.dec hn2 hi hi4).mono ?_; rintro e w3 ⟨rfl, hD3, hO3⟩))
      refine ⟨rfl, wp_seq (wp_skip ?_)⟩
      refine slow (ho := ho) (T := T) (w := w3) (p := p2) (s := { s2 with i := s2.i - s2.nu, nu := 0 }) (HM.out.st.upd hD3 hO3 rfl rfl rfl (by have := HM.out.st.ij; show s2.i - s2.nu ≤ s2.j; omega)) ?_ (by show HuffG s2.g ho T; rw [HM.out.keep.g]; exact HG.out) _ ?_
      · exact ⟨by have := HB.out.n15; show s2.n ≤ 15; rw [HM.out.keep.n]; exact this, by show s2.m = if s2.n = 0 then 0 else 2 ^ (s2.n - 1); rw [HM.out.keep.m, HM.out.keep.n]; exact HB.out.m, by show s2.a < 4294967296; rw [HM.out.keep.a]; exact HB.out.a32⟩
      · intro tmps w' hp
        have hpos : DS.pos { s2 with i := s2.i - s2.nu, nu := 0 } p2 = s.pos p := by
          have h1 := HM.out.pos
          have h2 := HM.out.st.jp
          have h3 := HM.out.st.ij
          unfold DS.pos at h1 ⊢
          show p2 - (s2.j - (s2.i - s2.nu)) = p - (s.j - s.i)
          omega
        have hr : DS.rem { s2 with i := s2.i - s2.nu, nu := 0 } src p2 = s.rem src p := by
          unfold DS.rem
          rw [hpos]
          show lowbits s2.n s2.a ++ _ = _
          rw [HM.out.keep.n, HM.out.keep.a]
        rw [hr] at hp
        have hp2 : DecPost b rd sa cap src e1 e2 s2.g w3 (T.decode (s.rem src p)) (tmps.getD 4 undef) (tmps.getD 5 undef) w' := hp
        rw [HM.out.keep.g] at hp2
        exact bodyPost_ret (P := Tryd.prog) (fn := Tryd.f21) (R := DecEnd b rd sa cap src e1 e2 s.g w (T.decode (s.rem src p))) (results_tmp2 rfl _ _ _) rfl ⟨_, _, rfl, hp2.from_only (HM.out.only.trans (hO3.mono (by simp)))⟩

/-- decodeHuffman is decoding of a code. -/
theorem decode_huffman (h : St b rd sa cap src e1 e2 s p w) (hB : BitsOk s) (hG : HuffG s.g ho T) :
    Calls Tryd.prog 21 #[.pointer (some ⟨b, 0, none⟩), .pointer (some ⟨b, ho, none⟩)] w (DecEnd b rd sa cap src e1 e2 s.g w (T.decode (s.rem src p))) := by
  by_cases hn : 8 ≤ s.n
  · exact decode_held h hB hG hn
  · cases hst : stuffed src (s.pos p) with
    | none => exact decode_less h hB hG (by omega) hst
    | some uq => exact decode_more h hB hG (by omega) hst

end
end Go.Proofs.YtdjilplpbaackaaDoor
