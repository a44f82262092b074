/-
  The decoder's ensureNBits. Conditions: St; at most seven bits are held.
-/
import Derived.Test.YtdjilplpbaackaaDoorSb
import Derived.Laws.BitsAllLaws
namespace Go.Proofs.YtdjilplpbaackaaDoor
open Go.RowKit
section
variable {b rd cap p : Nat} {sa : Option Addr} {src : List UInt8} {e1 e2 : Addr} {s : DS} {w : World}

/-- The error for data that end. -/
abbrev errShort : Value := .iface 105 (.string { data := #[115, 104, 111, 114, 116, 32, 72, 117, 102, 102, 109, 97, 110, 32, 100, 97, 116, 97] })

set_option maxRecDepth 100000 in
set_option maxHeartbeats 1000000 in
theorem ensure_none (h : St b rd sa cap src e1 e2 s p w) (hs : stuffed src (s.pos p) = none) (nn : Int) :
    Calls Tryd.prog 28 #[.pointer (some ⟨b, 0, none⟩), .int .i32 nn] w fun e w' => ∃ err, e = .returned err ∧ (err = errShort ∨ err = errFF00) ∧
      ∃ s' p', Moved b rd sa cap src e1 e2 s w (s.pos p + s'.nu) s' p' w' ∧ s'.nu ≤ s'.i := by
  have HS := Lib.hid hs; clear hs
  go_enter Tryd.func28, Tryd.ntmps28
  go_wp2
  refine wp_loop_rounds 1 ?_
  rw [rounds_succ]
  go_wp2_with (fail)
  refine (read_stuffed_none h HS.out).mono ?_
  rintro e w1 ⟨err, rfl, (rfl | rfl), s1, p1, hM, hi⟩
  · have hu1 := hM.st.u1
    go_wp2
    go_ret
    exact ⟨_, rfl, .inl rfl, s1, p1, hM, hi⟩
  · have hu1 := hM.st.u1
    go_wp2
    go_ret
    exact ⟨_, rfl, .inr rfl, s1, p1, hM, hi⟩

/-- The mask behind eight bits more. -/
def nextM (m : Nat) : Nat := if m = 0 then 128 else m * 256

/-- Eight bits more are held: those of byte u; the stream stands at q. -/
structure Ensured (b rd : Nat) (sa : Option Addr) (cap : Nat) (src : List UInt8) (e1 e2 : Addr) (s : DS) (w : World) (u : UInt8) (q : Nat) (s' : DS) (p' : Nat) (w' : World) : Prop where
  st : St b rd sa cap src e1 e2 s' p' w'
  a : s'.a = (s.a * 256 + u.toNat) % 4294967296
  n : s'.n = s.n + 8
  m : s'.m = nextM s.m
  g : s'.g = s.g
  pos : s'.pos p' = q
  only : Only [b, rd] w w'

theorem or_byte (a : Nat) (u : UInt8) : bits .or .u32 ((a : Int) * 256 % 4294967296) ((u.toNat : Int) % 4294967296) = (((a * 256 + u.toNat) % 4294967296 : Nat) : Int) := by
  have hu : u.toNat < 256 := u.toNat_lt
  have e1 : (a : Int) * 256 % 4294967296 = ((a * 256 % 4294967296 : Nat) : Int) := by omega
  have e2 : (u.toNat : Int) % 4294967296 = (u.toNat : Int) := by omega
  rw [e1, e2, u32_or_nat _ _ (by omega) (by omega), nat_join 8 _ _ (by omega) (by omega)]
  omega

set_option maxRecDepth 100000 in
set_option maxHeartbeats 1000000 in
theorem ensure_some (h : St b rd sa cap src e1 e2 s p w) {u : UInt8} {q : Nat} (hs : stuffed src (s.pos p) = some (u, q)) (nn : Int) (hn : s.n ≤ 7) (hnn : nn ≤ (s.n : Int) + 8) (hm : s.m ≤ 128) :
    Calls Tryd.prog 28 #[.pointer (some ⟨b, 0, none⟩), .int .i32 nn] w fun e w' => e = .returned .nilIface ∧
      ∃ s' p', Ensured b rd sa cap src e1 e2 s w u q s' p' w' := by
  have HS := Lib.hid hs; clear hs
  have hm1 : s.m = 0 ∨ s.m ≠ 0 := by omega
  go_enter Tryd.func28, Tryd.ntmps28
  go_wp2
  refine wp_loop_rounds 1 ?_
  rw [rounds_succ]
  go_wp2_with (fail)
  refine (read_stuffed_some h HS.out).mono ?_
  rintro e w1 ⟨rfl, s1, p1, hM⟩
  have hA := hM.st.dec.cA
  have hMm := hM.st.dec.cM
  have hN := hM.st.dec.cN
  rw [hM.keep.a] at hA
  rw [hM.keep.m] at hMm
  rw [hM.keep.n] at hN
  have hf1 := hM.st.dec.frozen 1
  have hf2 := hM.st.dec.frozen 2
  have hf3 := hM.st.dec.frozen 3
  have HM := Lib.hid hM; clear hM
  go_wp2
  all_goals go_ret
  · have h0 : s.m = 0 := by have : ((s.m : Int) == 0) = true := by assumption
                            simpa using this
    refine ⟨rfl, _, p1, HM.out.st.upd (((HM.out.st.dec.setA (or_byte s.a u)).setN (x := s.n + 8) (by omega)).setM (x := 128) rfl) (by repeat (first | exact Only.refl _ _ | refine Only.drewN ?_ _ | refine Only.setCell ?_ (by simp) _)) rfl rfl rfl HM.out.st.ij, rfl, rfl, by unfold nextM; rw [if_pos h0], HM.out.keep.g, HM.out.pos, HM.out.only.trans (by repeat (first | exact Only.refl _ _ | refine Only.drewN ?_ _ | refine Only.setCell ?_ (by simp) _))⟩
  · have h0 : ¬ s.m = 0 := by have : ((s.m : Int) == 0) = false := by assumption
                              simpa using this
    refine ⟨rfl, _, p1, HM.out.st.upd (((HM.out.st.dec.setA (or_byte s.a u)).setN (x := s.n + 8) (by omega)).setM (x := s.m * 256) (by omega)) (by repeat (first | exact Only.refl _ _ | refine Only.drewN ?_ _ | refine Only.setCell ?_ (by simp) _)) rfl rfl rfl HM.out.st.ij, rfl, rfl, by unfold nextM; rw [if_neg h0], HM.out.keep.g, HM.out.pos, HM.out.only.trans (by repeat (first | exact Only.refl _ _ | refine Only.drewN ?_ _ | refine Only.setCell ?_ (by simp) _))⟩
end
end Go.Proofs.YtdjilplpbaackaaDoor
