/-
  The decoder's readByteStuffedByte. Conditions: St.
-/
import Derived.Test.YtdjilplpbaackaaDoorRb
import Derived.Test.YtdjilplpbaackaaDoorPl
namespace Go.Proofs.YtdjilplpbaackaaDoor
open Go.RowKit

theorem u8_of_toNat {u : UInt8} {n : Nat} (h : u.toNat = n) (hn : n < 256) : u = UInt8.ofNat n := by
  apply UInt8.toNat_inj.1
  rw [h, UInt8.toNat_ofNat']
  omega

section
variable {b rd cap p : Nat} {sa : Option Addr} {src : List UInt8} {e1 e2 : Addr} {s : DS} {w : World}

set_option maxRecDepth 100000 in
set_option maxHeartbeats 1000000 in
theorem stuffed_fast1 (h : St b rd sa cap src e1 e2 s p w) (hi : s.i + 2 ≤ s.j) (hx : s.buf s.i ≠ 255) :
    Calls Tryd.prog 38 #[.pointer (some ⟨b, 0, none⟩)] w fun e w' => e = .returned (.tuple #[.int .u8 (s.buf s.i), .nilIface]) ∧ DecS b { s with i := s.i + 1, nu := 1 } w' ∧ Only [b] w w' := by
  have hj4 := h.j4
  have hI := h.dec.cI
  have hU := h.dec.cU
  have hJ := h.dec.cJ
  have hB := h.dec.cB s.i (by omega)
  have hf0 := h.dec.frozen 4100
  have hf1 := h.dec.frozen 4102
  have H := Lib.hid h.dec; clear h
  have hne : (((s.buf s.i : Nat) : Int) != 255) = true := by simp; omega
  clear hx
  go_enter Tryd.func38, Tryd.ntmps38
  go_wp2
  go_quiet (fail)
  go_wp2
  go_quiet (fail)
  go_wp2
  go_ret2
  exact ⟨rfl, ((H.out.drewN _).setI (by omega)).setU rfl, by repeat (first | exact Only.refl _ _ | refine Only.drewN ?_ _ | refine Only.setCell ?_ (by simp) _)⟩

/-- The error for a marker in the data. -/
abbrev errFF00 : Value := .iface 105 (.string { data := #[109, 105, 115, 115, 105, 110, 103, 32, 48, 120, 102, 102, 48, 48, 32, 115, 101, 113, 117, 101, 110, 99, 101] })

set_option maxRecDepth 100000 in
set_option maxHeartbeats 1000000 in
theorem stuffed_fast2 (h : St b rd sa cap src e1 e2 s p w) (hi : s.i + 2 ≤ s.j) (hx : s.buf s.i = 255) (hy : s.buf (s.i + 1) = 0) :
    Calls Tryd.prog 38 #[.pointer (some ⟨b, 0, none⟩)] w fun e w' => e = .returned (.tuple #[.int .u8 255, .nilIface]) ∧ DecS b { s with i := s.i + 2, nu := 2 } w' ∧ Only [b] w w' := by
  have hj4 := h.j4
  have hI := h.dec.cI
  have hU := h.dec.cU
  have hJ := h.dec.cJ
  have hB := h.dec.cB s.i (by omega)
  rw [hx] at hB
  have hf0 := h.dec.frozen 4100
  have hf1 := h.dec.frozen 4102
  have H := Lib.hid h.dec; clear h
  have HX := Lib.hid hx; clear hx
  have HY := Lib.hid hy; clear hy
  go_enter Tryd.func38, Tryd.ntmps38
  go_wp2
  go_quiet (fail)
  go_wp2
  go_quiet (fail)
  go_wp2
  generalize hw1 : World.setCell (World.setCell (World.drewN w _) _ _) _ _ = w1
  have hD1 : DecS b { s with i := s.i + 1, nu := 1 } w1 := by rw [← hw1]; exact ((H.out.drewN _).setI (by omega)).setU rfl
  have hO1 : Only [b] w w1 := by rw [← hw1]; repeat (first | exact Only.refl _ _ | refine Only.drewN ?_ _ | refine Only.setCell ?_ (by simp) _)
  clear hw1 hI hU hJ hB hf0 hf1
  have hI1 : w1.cell? ⟨b, 4100, none⟩ = some (.int .i64 (s.i + 1)) := hD1.cI
  have hB1 := hD1.cB (s.i + 1) (by omega)
  rw [HY.out] at hB1
  have hU1 := hD1.cU
  have hf0 := hD1.frozen 4100
  have hf1 := hD1.frozen 4102
  have HD1 := Lib.hid hD1; clear hD1
  have HO1 := Lib.hid hO1; clear hO1
  have ht1 : ((s.i : Int) + 1).toNat = s.i + 1 := by omega
  have ht2 : (s.i : Int) + 1 < 4096 := by omega
  have ht3 : 0 ≤ (s.i : Int) + 1 := by omega
  go_quiet (fail)
  go_wp2
  go_ret2
  exact ⟨rfl, ((HD1.out.drewN _).setI (by show _ = ((s.i + 2 : Nat) : Int); omega)).setU rfl, HO1.out.trans (by repeat (first | exact Only.refl _ _ | refine Only.drewN ?_ _ | refine Only.setCell ?_ (by simp) _))⟩

set_option maxRecDepth 100000 in
set_option maxHeartbeats 1000000 in
theorem stuffed_fast3 (h : St b rd sa cap src e1 e2 s p w) (hi : s.i + 2 ≤ s.j) (hx : s.buf s.i = 255) (hy : s.buf (s.i + 1) ≠ 0) :
    Calls Tryd.prog 38 #[.pointer (some ⟨b, 0, none⟩)] w fun e w' => e = .returned (.tuple #[.int .u8 0, errFF00]) ∧ DecS b { s with i := s.i + 1, nu := 1 } w' ∧ Only [b] w w' := by
  have hj4 := h.j4
  have hI := h.dec.cI
  have hU := h.dec.cU
  have hJ := h.dec.cJ
  have hB := h.dec.cB s.i (by omega)
  rw [hx] at hB
  have hf0 := h.dec.frozen 4100
  have hf1 := h.dec.frozen 4102
  have H := Lib.hid h.dec; clear h
  have HX := Lib.hid hx; clear hx
  have HY := Lib.hid hy; clear hy
  go_enter Tryd.func38, Tryd.ntmps38
  go_wp2
  go_quiet (fail)
  go_wp2
  go_quiet (fail)
  go_wp2
  generalize hw1 : World.setCell (World.setCell (World.drewN w _) _ _) _ _ = w1
  have hD1 : DecS b { s with i := s.i + 1, nu := 1 } w1 := by rw [← hw1]; exact ((H.out.drewN _).setI (by omega)).setU rfl
  have hO1 : Only [b] w w1 := by rw [← hw1]; repeat (first | exact Only.refl _ _ | refine Only.drewN ?_ _ | refine Only.setCell ?_ (by simp) _)
  clear hw1 hI hU hJ hB hf0 hf1
  have hI1 : w1.cell? ⟨b, 4100, none⟩ = some (.int .i64 (s.i + 1)) := hD1.cI
  have hB1 := hD1.cB (s.i + 1) (by omega)
  have hne : (((s.buf (s.i + 1) : Nat) : Int) != 0) = true := by have := HY.out; simp; omega
  have hU1 := hD1.cU
  have hf0 := hD1.frozen 4100
  have hf1 := hD1.frozen 4102
  have HD1 := Lib.hid hD1; clear hD1
  have HO1 := Lib.hid hO1; clear hO1
  have ht1 : ((s.i : Int) + 1).toNat = s.i + 1 := by omega
  have ht2 : (s.i : Int) + 1 < 4096 := by omega
  have ht3 : 0 ≤ (s.i : Int) + 1 := by omega
  go_quiet (fail)
  go_wp2
  go_ret2
  exact ⟨rfl, HD1.out.drewN _, HO1.out.drewN _⟩

set_option maxRecDepth 100000 in
set_option maxHeartbeats 1000000 in
theorem stuffed_slow0 (h : St b rd sa cap src e1 e2 s p w) (hi : ¬ s.i + 2 ≤ s.j) (hq : s.pos p = src.length) :
    Calls Tryd.prog 38 #[.pointer (some ⟨b, 0, none⟩)] w fun e w' => e = .returned (.tuple #[.int .u8 0, .iface 175 (.pointer (some e1))]) ∧
      ∃ s' p', Moved b rd sa cap src e1 e2 s w (s.pos p) s' p' w' ∧ s'.nu = 0 := by
  have hj4 := h.j4
  have hij := h.ij
  have hI := h.dec.cI
  have hU := h.dec.cU
  have hJ := h.dec.cJ
  have hf1 := h.dec.frozen 4102
  have H := Lib.hid h; clear h
  have HQ := Lib.hid hq; clear hq
  go_enter Tryd.func38, Tryd.ntmps38
  go_wp2
  go_quiet (fail)
  go_wp2_with (fail)
  generalize hw1 : World.setCell (World.drewN w _) _ _ = w1
  have hD1 : DecS b { s with nu := 0 } w1 := by rw [← hw1]; exact (H.out.dec.drewN _).setU rfl
  have hO1 : Only [b] w w1 := by rw [← hw1]; repeat (first | exact Only.refl _ _ | refine Only.drewN ?_ _ | refine Only.setCell ?_ (by simp) _)
  have hS1 : St b rd sa cap src e1 e2 { s with nu := 0 } p w1 := H.out.upd hD1 hO1 rfl rfl rfl hij
  clear hw1 hD1 hI hU hJ hf1
  go_wp2_with (go_at_call 41; refine (read_byte_end hS1 HQ.out).mono ?_; rintro e w2 ⟨rfl, s2, p2, hF⟩)
  go_ret2
  exact ⟨rfl, s2, p2, ⟨hF.st, ⟨hF.keep.a, hF.keep.m, hF.keep.n, hF.keep.g⟩, hF.pos, (hO1.mono (by simp)).trans hF.only⟩, hF.nu⟩

set_option maxRecDepth 100000 in
set_option maxHeartbeats 1000000 in
theorem stuffed_slow1 (h : St b rd sa cap src e1 e2 s p w) (hi : ¬ s.i + 2 ≤ s.j) {u : UInt8} (hu : src[s.pos p]? = some u) (hne : u ≠ 255) :
    Calls Tryd.prog 38 #[.pointer (some ⟨b, 0, none⟩)] w fun e w' => e = .returned (.tuple #[.int .u8 u.toNat, .nilIface]) ∧
      ∃ s' p', Moved b rd sa cap src e1 e2 s w (s.pos p + 1) s' p' w' := by
  have hj4 := h.j4
  have hij := h.ij
  have hI := h.dec.cI
  have hU := h.dec.cU
  have hJ := h.dec.cJ
  have hf1 := h.dec.frozen 4102
  have H := Lib.hid h; clear h
  have HQ := Lib.hid hu; clear hu
  have hne' : (((u.toNat : Nat) : Int) != 255) = true := by
    simp
    intro h
    exact hne (u8_of_toNat (show u.toNat = 255 by omega) (by decide))
  clear hne
  go_enter Tryd.func38, Tryd.ntmps38
  go_wp2
  go_quiet (fail)
  go_wp2_with (fail)
  generalize hw1 : World.setCell (World.drewN w _) _ _ = w1
  have hD1 : DecS b { s with nu := 0 } w1 := by rw [← hw1]; exact (H.out.dec.drewN _).setU rfl
  have hO1 : Only [b] w w1 := by rw [← hw1]; repeat (first | exact Only.refl _ _ | refine Only.drewN ?_ _ | refine Only.setCell ?_ (by simp) _)
  have hS1 : St b rd sa cap src e1 e2 { s with nu := 0 } p w1 := H.out.upd hD1 hO1 rfl rfl rfl hij
  clear hw1 hD1 hI hU hJ hf1
  refine (read_byte_some hS1 (u := u) HQ.out).mono ?_
  rintro e w2 ⟨rfl, s2, p2, hM, hn2, hb2⟩
  have hU2 := hM.st.dec.cU
  have hf2 := hM.st.dec.frozen 4102
  have HM := Lib.hid hM; clear hM
  go_wp2
  go_ret2
  have hO2 : Only [b] w2 (w2.setCell ⟨b, 4102, none⟩ (.int .i64 1)) := by repeat (first | exact Only.refl _ _ | refine Only.drewN ?_ _ | refine Only.setCell ?_ (by simp) _)
  have hK := HM.out.keep
  exact ⟨rfl, _, p2, ⟨HM.out.st.upd (HM.out.st.dec.setU (x := 1) rfl) hO2 rfl rfl rfl HM.out.st.ij, ⟨hK.a, hK.m, hK.n, hK.g⟩, HM.out.pos, ((hO1.mono (by simp)).trans HM.out.only).trans (hO2.mono (by simp))⟩⟩

set_option maxRecDepth 100000 in
set_option maxHeartbeats 1000000 in
theorem stuffed_slow4 (h : St b rd sa cap src e1 e2 s p w) (hi : ¬ s.i + 2 ≤ s.j) (hu : src[s.pos p]? = some 255) (hy : s.pos p + 1 = src.length) :
    Calls Tryd.prog 38 #[.pointer (some ⟨b, 0, none⟩)] w fun e w' => e = .returned (.tuple #[.int .u8 0, .iface 175 (.pointer (some e1))]) ∧
      ∃ s' p', Moved b rd sa cap src e1 e2 s w (s.pos p + 1) s' p' w' ∧ s'.nu = 1 ∧ 1 ≤ s'.i := by
  have hj4 := h.j4
  have hij := h.ij
  have hI := h.dec.cI
  have hU := h.dec.cU
  have hJ := h.dec.cJ
  have hf1 := h.dec.frozen 4102
  have H := Lib.hid h; clear h
  have HQ := Lib.hid hu; clear hu
  have HY := Lib.hid hy; clear hy
  go_enter Tryd.func38, Tryd.ntmps38
  go_wp2
  go_quiet (fail)
  go_wp2_with (fail)
  generalize hw1 : World.setCell (World.drewN w _) _ _ = w1
  have hD1 : DecS b { s with nu := 0 } w1 := by rw [← hw1]; exact (H.out.dec.drewN _).setU rfl
  have hO1 : Only [b] w w1 := by rw [← hw1]; repeat (first | exact Only.refl _ _ | refine Only.drewN ?_ _ | refine Only.setCell ?_ (by simp) _)
  have hS1 : St b rd sa cap src e1 e2 { s with nu := 0 } p w1 := H.out.upd hD1 hO1 rfl rfl rfl hij
  clear hw1 hD1 hI hU hJ hf1
  refine (read_byte_some hS1 (u := 255) HQ.out).mono ?_
  rintro e w2 ⟨rfl, s2, p2, hM, hn2, hb2⟩
  have e255 : ((UInt8.toNat 255 : Nat) : Int) = 255 := rfl
  rw [e255]
  have hU2 := hM.st.dec.cU
  have hf2 := hM.st.dec.frozen 4102
  have HM := Lib.hid hM; clear hM
  go_wp2_with (fail)
  generalize hw3 : World.setCell w2 _ _ = w3
  have hD3 : DecS b { s2 with nu := 1 } w3 := by rw [← hw3]; exact HM.out.st.dec.setU rfl
  have hO3 : Only [b] w2 w3 := by rw [← hw3]; repeat (first | exact Only.refl _ _ | refine Only.drewN ?_ _ | refine Only.setCell ?_ (by simp) _)
  have hS3 : St b rd sa cap src e1 e2 { s2 with nu := 1 } p2 w3 := HM.out.st.upd hD3 hO3 rfl rfl rfl HM.out.st.ij
  have hp3 : DS.pos { s2 with nu := 1 } p2 = s.pos p + 1 := HM.out.pos
  have hO13 : Only [b, rd] w w3 := ((hO1.mono (by simp)).trans HM.out.only).trans (hO3.mono (by simp))
  have hK := HM.out.keep
  have HK : Hid (Keep s s2) := Lib.hid ⟨hK.a, hK.m, hK.n, hK.g⟩
  clear hw3 hD3 hU2 hf2 hO1 hO3 hK HM hS1
  have HP3 := Lib.hid hp3; clear hp3
  refine (read_byte_end hS3 (by rw [HP3.out]; exact HY.out)).mono ?_
  rintro e w4 ⟨rfl, s4, p4, hF⟩
  go_wp2
  go_ret2
  have hK := HK.out
  exact ⟨rfl, s4, p4, ⟨hF.st, ⟨hF.keep.a.trans hK.a, hF.keep.m.trans hK.m, hF.keep.n.trans hK.n, hF.keep.g.trans hK.g⟩, by rw [hF.pos]; exact HP3.out, hO13.trans hF.only⟩, hF.nu, by have := hF.back; have : min s2.i 2 ≤ s4.i := this; omega⟩

set_option maxRecDepth 100000 in
set_option maxHeartbeats 1000000 in
theorem stuffed_slow2 (h : St b rd sa cap src e1 e2 s p w) (hi : ¬ s.i + 2 ≤ s.j) (hu : src[s.pos p]? = some 255) (hy : src[s.pos p + 1]? = some 0) :
    Calls Tryd.prog 38 #[.pointer (some ⟨b, 0, none⟩)] w fun e w' => e = .returned (.tuple #[.int .u8 255, .nilIface]) ∧
      ∃ s' p', Moved b rd sa cap src e1 e2 s w (s.pos p + 2) s' p' w' ∧ s'.nu = 2 ∧ 2 ≤ s'.i := by
  have hj4 := h.j4
  have hij := h.ij
  have hI := h.dec.cI
  have hU := h.dec.cU
  have hJ := h.dec.cJ
  have hf1 := h.dec.frozen 4102
  have H := Lib.hid h; clear h
  have HQ := Lib.hid hu; clear hu
  have HY := Lib.hid hy; clear hy
  go_enter Tryd.func38, Tryd.ntmps38
  go_wp2
  go_quiet (fail)
  go_wp2_with (fail)
  generalize hw1 : World.setCell (World.drewN w _) _ _ = w1
  have hD1 : DecS b { s with nu := 0 } w1 := by rw [← hw1]; exact (H.out.dec.drewN _).setU rfl
  have hO1 : Only [b] w w1 := by rw [← hw1]; repeat (first | exact Only.refl _ _ | refine Only.drewN ?_ _ | refine Only.setCell ?_ (by simp) _)
  have hS1 : St b rd sa cap src e1 e2 { s with nu := 0 } p w1 := H.out.upd hD1 hO1 rfl rfl rfl hij
  clear hw1 hD1 hI hU hJ hf1
  refine (read_byte_some hS1 (u := 255) HQ.out).mono ?_
  rintro e w2 ⟨rfl, s2, p2, hM, hn2, hb2⟩
  have e255 : ((UInt8.toNat 255 : Nat) : Int) = 255 := rfl
  rw [e255]
  have hU2 := hM.st.dec.cU
  have hf2 := hM.st.dec.frozen 4102
  have HM := Lib.hid hM; clear hM
  go_wp2_with (fail)
  generalize hw3 : World.setCell w2 _ _ = w3
  have hD3 : DecS b { s2 with nu := 1 } w3 := by rw [← hw3]; exact HM.out.st.dec.setU rfl
  have hO3 : Only [b] w2 w3 := by rw [← hw3]; repeat (first | exact Only.refl _ _ | refine Only.drewN ?_ _ | refine Only.setCell ?_ (by simp) _)
  have hS3 : St b rd sa cap src e1 e2 { s2 with nu := 1 } p2 w3 := HM.out.st.upd hD3 hO3 rfl rfl rfl HM.out.st.ij
  have hp3 : DS.pos { s2 with nu := 1 } p2 = s.pos p + 1 := HM.out.pos
  have hO13 : Only [b, rd] w w3 := ((hO1.mono (by simp)).trans HM.out.only).trans (hO3.mono (by simp))
  have hK := HM.out.keep
  have HK : Hid (Keep s s2) := Lib.hid ⟨hK.a, hK.m, hK.n, hK.g⟩
  clear hw3 hD3 hU2 hf2 hO1 hO3 hK HM hS1
  have HP3 := Lib.hid hp3; clear hp3
  refine (read_byte_some hS3 (u := 0) (by rw [HP3.out]; exact HY.out)).mono ?_
  rintro e w4 ⟨rfl, s4, p4, hM4, hn4, hb4⟩
  have e0 : ((UInt8.toNat 0 : Nat) : Int) = 0 := rfl
  rw [e0]
  have hb4' : min s2.i 2 + 1 ≤ s4.i := hb4
  clear hb4
  have hU4 := hM4.st.dec.cU
  have hf4 := hM4.st.dec.frozen 4102
  have HM4 := Lib.hid hM4; clear hM4
  go_wp2
  go_ret2
  have hO4 : Only [b] w4 (w4.setCell ⟨b, 4102, none⟩ (.int .i64 2)) := by repeat (first | exact Only.refl _ _ | refine Only.drewN ?_ _ | refine Only.setCell ?_ (by simp) _)
  have hK := HK.out
  have hK4 := HM4.out.keep
  exact ⟨rfl, _, p4, ⟨HM4.out.st.upd (HM4.out.st.dec.setU (x := 2) rfl) hO4 rfl rfl rfl HM4.out.st.ij, ⟨hK4.a.trans hK.a, hK4.m.trans hK.m, hK4.n.trans hK.n, hK4.g.trans hK.g⟩, by have := HM4.out.pos; rw [HP3.out] at this; exact this, (hO13.trans HM4.out.only).trans (hO4.mono (by simp))⟩, rfl, by show 2 ≤ s4.i; omega⟩

set_option maxRecDepth 100000 in
set_option maxHeartbeats 1000000 in
theorem stuffed_slow3 (h : St b rd sa cap src e1 e2 s p w) (hi : ¬ s.i + 2 ≤ s.j) (hu : src[s.pos p]? = some 255) {v : UInt8} (hy : src[s.pos p + 1]? = some v) (hv : v ≠ 0) :
    Calls Tryd.prog 38 #[.pointer (some ⟨b, 0, none⟩)] w fun e w' => e = .returned (.tuple #[.int .u8 0, errFF00]) ∧
      ∃ s' p', Moved b rd sa cap src e1 e2 s w (s.pos p + 2) s' p' w' ∧ s'.nu = 2 ∧ 2 ≤ s'.i := by
  have hj4 := h.j4
  have hij := h.ij
  have hI := h.dec.cI
  have hU := h.dec.cU
  have hJ := h.dec.cJ
  have hf1 := h.dec.frozen 4102
  have H := Lib.hid h; clear h
  have HQ := Lib.hid hu; clear hu
  have HY := Lib.hid hy; clear hy
  have HV := Lib.hid hv; clear hv
  go_enter Tryd.func38, Tryd.ntmps38
  go_wp2
  go_quiet (fail)
  go_wp2_with (fail)
  generalize hw1 : World.setCell (World.drewN w _) _ _ = w1
  have hD1 : DecS b { s with nu := 0 } w1 := by rw [← hw1]; exact (H.out.dec.drewN _).setU rfl
  have hO1 : Only [b] w w1 := by rw [← hw1]; repeat (first | exact Only.refl _ _ | refine Only.drewN ?_ _ | refine Only.setCell ?_ (by simp) _)
  have hS1 : St b rd sa cap src e1 e2 { s with nu := 0 } p w1 := H.out.upd hD1 hO1 rfl rfl rfl hij
  clear hw1 hD1 hI hU hJ hf1
  refine (read_byte_some hS1 (u := 255) HQ.out).mono ?_
  rintro e w2 ⟨rfl, s2, p2, hM, hn2, hb2⟩
  have e255 : ((UInt8.toNat 255 : Nat) : Int) = 255 := rfl
  rw [e255]
  have hU2 := hM.st.dec.cU
  have hf2 := hM.st.dec.frozen 4102
  have HM := Lib.hid hM; clear hM
  go_wp2_with (fail)
  generalize hw3 : World.setCell w2 _ _ = w3
  have hD3 : DecS b { s2 with nu := 1 } w3 := by rw [← hw3]; exact HM.out.st.dec.setU rfl
  have hO3 : Only [b] w2 w3 := by rw [← hw3]; repeat (first | exact Only.refl _ _ | refine Only.drewN ?_ _ | refine Only.setCell ?_ (by simp) _)
  have hS3 : St b rd sa cap src e1 e2 { s2 with nu := 1 } p2 w3 := HM.out.st.upd hD3 hO3 rfl rfl rfl HM.out.st.ij
  have hp3 : DS.pos { s2 with nu := 1 } p2 = s.pos p + 1 := HM.out.pos
  have hO13 : Only [b, rd] w w3 := ((hO1.mono (by simp)).trans HM.out.only).trans (hO3.mono (by simp))
  have hK := HM.out.keep
  have HK : Hid (Keep s s2) := Lib.hid ⟨hK.a, hK.m, hK.n, hK.g⟩
  clear hw3 hD3 hU2 hf2 hO1 hO3 hK HM hS1
  have HP3 := Lib.hid hp3; clear hp3
  refine (read_byte_some hS3 (u := v) (by rw [HP3.out]; exact HY.out)).mono ?_
  rintro e w4 ⟨rfl, s4, p4, hM4, hn4, hb4⟩
  have hne' : (((v.toNat : Nat) : Int) != 0) = true := by
    simp
    intro h
    exact HV.out (u8_of_toNat (show v.toNat = 0 by omega) (by decide))
  have hb4' : min s2.i 2 + 1 ≤ s4.i := hb4
  clear hb4
  have hU4 := hM4.st.dec.cU
  have hf4 := hM4.st.dec.frozen 4102
  have HM4 := Lib.hid hM4; clear hM4
  go_wp2
  go_ret2
  have hO4 : Only [b] w4 (w4.setCell ⟨b, 4102, none⟩ (.int .i64 2)) := by repeat (first | exact Only.refl _ _ | refine Only.drewN ?_ _ | refine Only.setCell ?_ (by simp) _)
  have hK := HK.out
  have hK4 := HM4.out.keep
  exact ⟨rfl, _, p4, ⟨HM4.out.st.upd (HM4.out.st.dec.setU (x := 2) rfl) hO4 rfl rfl rfl HM4.out.st.ij, ⟨hK4.a.trans hK.a, hK4.m.trans hK.m, hK4.n.trans hK.n, hK4.g.trans hK.g⟩, by have := HM4.out.pos; rw [HP3.out] at this; exact this, (hO13.trans HM4.out.only).trans (hO4.mono (by simp))⟩, rfl, by show 2 ≤ s4.i; omega⟩


/-- readByteStuffedByte where there is a byte. -/
theorem read_stuffed_some (h : St b rd sa cap src e1 e2 s p w) {u : UInt8} {q : Nat} (hs : stuffed src (s.pos p) = some (u, q)) :
    Calls Tryd.prog 38 #[.pointer (some ⟨b, 0, none⟩)] w fun e w' => e = .returned (.tuple #[.int .u8 u.toNat, .nilIface]) ∧
      ∃ s' p', Moved b rd sa cap src e1 e2 s w q s' p' w' := by
  unfold stuffed at hs
  cases hx : src[s.pos p]? with
  | none => rw [hx] at hs; cases hs
  | some x =>
    rw [hx] at hs
    have hjp := h.jp
    by_cases hi : s.i + 2 ≤ s.j
    · have hbuf := h.bufAt' (by omega) hx
      by_cases h255 : x = 255
      · subst h255
        simp only [ne_eq, not_true_eq_false, if_false] at hs
        split at hs
        · rename_i h0
          cases hs
          have hb1 : s.buf (s.i + 1) = 0 := h.bufAt (s.i + 1) 0 (by omega) (by rw [← h0]; congr 1; unfold DS.pos; omega)
          refine (stuffed_fast2 h hi hbuf hb1).mono ?_
          rintro e w' ⟨rfl, hD, hO⟩
          exact ⟨rfl, _, p, h.upd hD hO rfl rfl rfl (by show s.i + 2 ≤ s.j; omega), ⟨rfl, rfl, rfl, rfl⟩, by show p - (s.j - (s.i + 2)) = p - (s.j - s.i) + 2; omega, hO.mono (by simp)⟩
        · cases hs
      · simp only [ne_eq, h255, not_false_eq_true, if_true] at hs
        cases hs
        have hne : s.buf s.i ≠ 255 := by rw [hbuf]; intro e; exact h255 (u8_of_toNat e (by decide))
        refine (stuffed_fast1 h hi hne).mono ?_
        rintro e w' ⟨rfl, hD, hO⟩
        rw [hbuf]
        exact ⟨rfl, _, _, h.took (by omega) hD hO⟩
    · by_cases h255 : x = 255
      · subst h255
        simp only [ne_eq, not_true_eq_false, if_false] at hs
        split at hs
        · rename_i h0
          cases hs
          refine (stuffed_slow2 h hi hx h0).mono ?_
          rintro e w' ⟨rfl, s', p', hM, _, _⟩
          exact ⟨rfl, s', p', hM⟩
        · cases hs
      · simp only [ne_eq, h255, not_false_eq_true, if_true] at hs
        cases hs
        exact stuffed_slow1 h hi hx h255

/-- readByteStuffedByte where there is none. -/
theorem read_stuffed_none (h : St b rd sa cap src e1 e2 s p w) (hs : stuffed src (s.pos p) = none) :
    Calls Tryd.prog 38 #[.pointer (some ⟨b, 0, none⟩)] w fun e w' => ∃ err, e = .returned (.tuple #[.int .u8 0, err]) ∧ (err = .iface 175 (.pointer (some e1)) ∨ err = errFF00) ∧
      ∃ s' p', Moved b rd sa cap src e1 e2 s w (s.pos p + s'.nu) s' p' w' ∧ s'.nu ≤ s'.i := by
  unfold stuffed at hs
  have hjp := h.jp
  have hij := h.ij
  have hpl := h.pl
  cases hx : src[s.pos p]? with
  | none =>
    have hge : src.length ≤ s.pos p := List.getElem?_eq_none_iff.1 hx
    have hle := h.pos_le
    have hi : ¬ s.i + 2 ≤ s.j := by unfold DS.pos at hge; omega
    refine (stuffed_slow0 h hi (by omega)).mono ?_
    rintro e w' ⟨rfl, s', p', hM, hn⟩
    exact ⟨_, rfl, .inl rfl, s', p', by rw [hn]; exact hM, by omega⟩
  | some x =>
    rw [hx] at hs
    by_cases h255 : x = 255
    · subst h255
      simp only [ne_eq, not_true_eq_false, if_false] at hs
      split at hs
      · cases hs
      · rename_i h0
        by_cases hi : s.i + 2 ≤ s.j
        · have hbuf := h.bufAt' (by omega) hx
          have hlt : s.pos p + 1 < src.length := by unfold DS.pos; omega
          have hv := List.getElem?_eq_getElem hlt
          have hb1 : s.buf (s.i + 1) = (src[s.pos p + 1]).toNat := h.bufAt (s.i + 1) _ (by omega) (by rw [← hv]; congr 1; unfold DS.pos; omega)
          have hne : s.buf (s.i + 1) ≠ 0 := by
            rw [hb1]; intro e
            exact h0 (by rw [hv, u8_of_toNat e (by decide)]; rfl)
          refine (stuffed_fast3 h hi hbuf hne).mono ?_
          rintro e w' ⟨rfl, hD, hO⟩
          exact ⟨_, rfl, .inr rfl, { s with i := s.i + 1, nu := 1 }, p, h.took (by omega) hD hO, by show 1 ≤ s.i + 1; omega⟩
        · cases hv : src[s.pos p + 1]? with
          | none =>
            have hge : src.length ≤ s.pos p + 1 := List.getElem?_eq_none_iff.1 hv
            have hlt := (List.getElem?_eq_some_iff.1 hx).1
            refine (stuffed_slow4 h hi hx (by omega)).mono ?_
            rintro e w' ⟨rfl, s', p', hM, hn, hb⟩
            exact ⟨_, rfl, .inl rfl, s', p', by rw [hn]; exact hM, by omega⟩
          | some v =>
            refine (stuffed_slow3 h hi hx hv (fun e => h0 (by rw [hv, e]))).mono ?_
            rintro e w' ⟨rfl, s', p', hM, hn, hb⟩
            exact ⟨_, rfl, .inr rfl, s', p', by rw [hn]; exact hM, by omega⟩
    · simp [h255] at hs

end
end Go.Proofs.YtdjilplpbaackaaDoor
