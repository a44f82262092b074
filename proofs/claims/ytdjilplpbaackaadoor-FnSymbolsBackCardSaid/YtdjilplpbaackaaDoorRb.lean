/-
  The decoder's readByte. Conditions: St.
-/
import Derived.Test.YtdjilplpbaackaaDoorFl
namespace Go.Proofs.YtdjilplpbaackaaDoor
open Go.RowKit
section
variable {b rd cap p : Nat} {sa : Option Addr} {src : List UInt8} {e1 e2 : Addr} {s : DS} {w : World}

/-- The stream has moved on to place q; the bits are the same. -/
structure Moved (b rd : Nat) (sa : Option Addr) (cap : Nat) (src : List UInt8) (e1 e2 : Addr) (s : DS) (w : World) (q : Nat) (s' : DS) (p' : Nat) (w' : World) : Prop where
  st : St b rd sa cap src e1 e2 s' p' w'
  keep : Keep s s'
  pos : s'.pos p' = q
  only : Only [b, rd] w w'

theorem St.bufAt' (h : St b rd sa cap src e1 e2 s p w) (hi : s.i < s.j) {u : UInt8} (hu : src[s.pos p]? = some u) : s.buf s.i = u.toNat := by
  have := h.jp
  exact h.bufAt s.i u hi (by rw [← hu]; congr 1; unfold DS.pos; omega)
theorem St.pos_le (h : St b rd sa cap src e1 e2 s p w) : s.pos p ≤ src.length := by have := h.pl; unfold DS.pos; omega

/-- One byte of the buffer taken. -/
theorem St.took (h : St b rd sa cap src e1 e2 s p w) (hi : s.i < s.j) {w' : World} {x : Nat} (hD : DecS b { s with i := s.i + 1, nu := x } w') (hO : Only [b] w w') :
    Moved b rd sa cap src e1 e2 s w (s.pos p + 1) { s with i := s.i + 1, nu := x } p w' :=
  ⟨h.upd hD hO rfl rfl rfl (by show s.i + 1 ≤ s.j; omega), ⟨rfl, rfl, rfl, rfl⟩, by have := h.jp; show p - (s.j - (s.i + 1)) = p - (s.j - s.i) + 1; omega, hO.mono (by simp)⟩

set_option maxRecDepth 100000 in
set_option maxHeartbeats 1000000 in
theorem read_byte_have (h : St b rd sa cap src e1 e2 s p w) (hi : s.i < s.j) :
    Calls Tryd.prog 41 #[.pointer (some ⟨b, 0, none⟩)] w fun e w' => e = .returned (.tuple #[.int .u8 (s.buf s.i), .nilIface]) ∧ DecS b { s with i := s.i + 1, nu := 0 } w' ∧ Only [b] w w' := by
  have hj4 := h.j4
  have hI := h.dec.cI
  have hU := h.dec.cU
  have hJ := h.dec.cJ
  have hB := h.dec.cB s.i (by omega)
  have hf0 := h.dec.frozen 4100
  have hf1 := h.dec.frozen 4102
  have H := Lib.hid h.dec; clear h
  have hne : ((s.i : Int) == (s.j : Int)) = false := by simp; omega
  go_enter Tryd.func41, Tryd.ntmps41
  go_wp2
  refine wp_loop_rounds 1 ?_
  rw [rounds_succ]
  go_wp2
  go_quiet (fail)
  go_wp2
  go_quiet (fail)
  go_wp2
  go_ret2
  exact ⟨rfl, ((H.out.drewN _).setI (by omega)).setU rfl, by repeat (first | exact Only.refl _ _ | refine Only.drewN ?_ _ | refine Only.setCell ?_ (by simp) _)⟩

set_option maxRecDepth 100000 in
set_option maxHeartbeats 1000000 in
theorem read_byte_fill (h : St b rd sa cap src e1 e2 s p w) (hi : s.i = s.j) (hp : p < src.length) :
    Calls Tryd.prog 41 #[.pointer (some ⟨b, 0, none⟩)] w fun e w' => ∃ s1 p1 w1, Filled b rd sa cap src e1 e2 s p w s1 p1 w1 ∧ s1.i < s1.j ∧
      e = .returned (.tuple #[.int .u8 (s1.buf s1.i), .nilIface]) ∧ DecS b { s1 with i := s1.i + 1, nu := 0 } w' ∧ Only [b] w1 w' := by
  have hI := h.dec.cI
  rw [hi] at hI
  have hJ := h.dec.cJ
  have H := Lib.hid h; clear h
  have HI := Lib.hid hi; clear hi
  go_enter Tryd.func41, Tryd.ntmps41
  go_wp2
  refine wp_loop_rounds 2 ?_
  rw [rounds_succ]
  go_wp2
  go_quiet (fail)
  go_wp2_with (go_at_call 37; refine (fill_some (H.out.drewN _) HI.out hp).mono ?_; rintro e w1 ⟨rfl, s1, p1, hF, hlt⟩)
  rw [rounds_succ]
  have hj4 := hF.st.j4
  have hI1 := hF.st.dec.cI
  have hU1 := hF.st.dec.cU
  have hJ1 := hF.st.dec.cJ
  have hB1 := hF.st.dec.cB s1.i (by omega)
  have hf0 := hF.st.dec.frozen 4100
  have hf1 := hF.st.dec.frozen 4102
  have HF := Lib.hid hF; clear hF
  have hne : ((s1.i : Int) == (s1.j : Int)) = false := by simp; omega
  clear hI hJ
  go_wp2
  go_quiet (fail)
  go_wp2
  go_quiet (fail)
  go_wp2
  go_ret2
  refine ⟨s1, p1, w1, ⟨HF.out.st, HF.out.keep, HF.out.nu, HF.out.pos, HF.out.back, HF.out.only.of_drewN⟩, hlt, rfl, ((HF.out.st.dec.drewN _).setI (by omega)).setU rfl, by repeat (first | exact Only.refl _ _ | refine Only.drewN ?_ _ | refine Only.setCell ?_ (by simp) _)⟩

set_option maxRecDepth 100000 in
set_option maxHeartbeats 1000000 in
theorem read_byte_end (h : St b rd sa cap src e1 e2 s p w) (hq : s.pos p = src.length) :
    Calls Tryd.prog 41 #[.pointer (some ⟨b, 0, none⟩)] w fun e w' => e = .returned (.tuple #[.int .u8 0, .iface 175 (.pointer (some e1))]) ∧
      ∃ s' p', Filled b rd sa cap src e1 e2 s p w s' p' w' := by
  have hpl := h.pl
  have hjp := h.jp
  have hij := h.ij
  have hq' : p - (s.j - s.i) = src.length := hq
  have hi : s.i = s.j := by omega
  have hp : p = src.length := by omega
  clear hpl hjp hij hq' hq
  have hI := h.dec.cI
  rw [hi] at hI
  have hJ := h.dec.cJ
  have H := Lib.hid h; clear h
  have HI := Lib.hid hi; clear hi
  have HP := Lib.hid hp; clear hp
  go_enter Tryd.func41, Tryd.ntmps41
  go_wp2
  refine wp_loop_rounds 1 ?_
  rw [rounds_succ]
  go_wp2
  go_quiet (fail)
  go_wp2_with (go_at_call 37; refine (fill_end (H.out.drewN _) HI.out HP.out).mono ?_; rintro e w1 ⟨rfl, s1, p1, hF, hlt⟩)
  go_ret2
  exact ⟨rfl, s1, p1, hF.st, hF.keep, hF.nu, hF.pos, hF.back, hF.only.of_drewN⟩

/-- readByte where there is a byte. -/
theorem read_byte_some (h : St b rd sa cap src e1 e2 s p w) {u : UInt8} (hu : src[s.pos p]? = some u) :
    Calls Tryd.prog 41 #[.pointer (some ⟨b, 0, none⟩)] w fun e w' => e = .returned (.tuple #[.int .u8 u.toNat, .nilIface]) ∧
      ∃ s' p', Moved b rd sa cap src e1 e2 s w (s.pos p + 1) s' p' w' ∧ s'.nu = 0 ∧ min s.i 2 + 1 ≤ s'.i := by
  by_cases hi : s.i < s.j
  · refine (read_byte_have h hi).mono ?_
    rintro e w' ⟨rfl, hD, hO⟩
    rw [h.bufAt' hi hu]
    exact ⟨rfl, _, _, h.took hi hD hO, rfl, by show min s.i 2 + 1 ≤ s.i + 1; omega⟩
  · have hij := h.ij
    have hlt := (List.getElem?_eq_some_iff.1 hu).1
    have hp : s.pos p = p := by unfold DS.pos; omega
    refine (read_byte_fill h (by omega) (by omega)).mono ?_
    rintro e w' ⟨s1, p1, w1, hF, hlt1, rfl, hD, hO⟩
    have hu1 : src[s1.pos p1]? = some u := by rw [hF.pos]; exact hu
    rw [hF.st.bufAt' hlt1 hu1]
    have hT := hF.st.took hlt1 hD hO
    refine ⟨rfl, _, _, ⟨hT.st, hF.keep.trans hT.keep, by rw [hT.pos, hF.pos], hF.only.trans hT.only⟩, rfl, by have := hF.back; show min s.i 2 + 1 ≤ s1.i + 1; omega⟩
end
end Go.Proofs.YtdjilplpbaackaaDoor
