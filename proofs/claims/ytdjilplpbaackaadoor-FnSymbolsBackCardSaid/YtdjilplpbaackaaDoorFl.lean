/-
  The decoder's fill where its buffer is moved, and fill whole. Conditions: St.
-/
import Derived.Test.YtdjilplpbaackaaDoorRd
namespace Go.Proofs.YtdjilplpbaackaaDoor
open Go.RowKit
section
variable {b rd cap p : Nat} {sa : Option Addr} {src : List UInt8} {e1 e2 : Addr} {s : DS} {w : World}

/-- The decoder behind the move of its last two bytes. -/
def DS.moved (s : DS) : DS := { s with buf := fun q => if q = 1 then s.buf (s.j - 1) else if q = 0 then s.buf (s.j - 2) else s.buf q, i := 2, j := 2 }

set_option maxRecDepth 100000 in
set_option maxHeartbeats 1000000 in
theorem fill_some_big (h : St b rd sa cap src e1 e2 s p w) (hij : s.i = s.j) (hp : p < src.length) (hj2 : 2 < s.j) :
    Calls Tryd.prog 37 #[.pointer (some ⟨b, 0, none⟩)] w fun e w' => e = .returned .nilIface ∧
      ∃ s' p', Filled b rd sa cap src e1 e2 s p w s' p' w' ∧ s'.i < s'.j := by
  have hI := h.dec.cI
  rw [hij] at hI
  have hJ := h.dec.cJ
  have hJ4 := h.j4
  have hB2 := h.dec.cB (s.j - 2) (by omega)
  have hf4 := h.dec.frozen 4
  have hc4 : w.cell? ⟨b, 4, none⟩ = some (.int .u8 (s.buf 0)) := h.dec.cB 0 (by omega)
  have H := Lib.hid h; clear h
  have HIJ := Lib.hid hij; clear hij
  have hj4 : (s.j : Int) ≤ 4096 := by omega
  have hj2' : (2 : Int) < (s.j : Int) := by omega
  have hw : IntKind.i64.wrap ((s.j : Int) - 2) = (s.j : Int) - 2 := IntWalk.i64_in _ (by omega)
  have ht1 : ((s.j : Int) - 2).toNat = s.j - 2 := by omega
  have ht2 : (s.j : Int) - 2 < 4096 := by omega
  have ht3 : 2 ≤ (s.j : Int) := by omega
  have ht4 : 0 ≤ (s.j : Int) - 2 := by omega
  go_enter Tryd.func37, Tryd.ntmps37
  go_wp2
  go_quiet (fail)
  go_wp2
  refine wp_region_still_tail 17 (by kernel_rfl) (by kernel_rfl) ?_
  change wpStill _ _ (World.drew _) (fun a' => wpList _ _ _ _ a' (World.drew _)) _ _
  simp only [List.take_succ_cons, List.take_zero, List.drop_succ_cons, List.drop_zero]
  repeat still_step
  refine wpStill_nil ?_
  clear ht1 ht2 ht3 ht4 hw hB2 hI
  go_wp2
  obtain ⟨w1, hw1⟩ : ∃ w1, w1 = (w.drewN (nq + 1)).setCell ⟨b, 4, none⟩ (.int .u8 (s.buf (s.j - 2))) := ⟨_, rfl⟩
  rw [← hw1]
  have hD1 := (H.out.drewN (nq + 1)).dec.setB (v := s.buf (s.j - 2)) (x := s.buf (s.j - 2)) (o := 4) (k := 0) rfl rfl (by omega)
  have hO1 : Only [b] w w1 := by rw [hw1]; exact ((Only.refl _ _).drewN _).setCell (by simp) _
  rw [← hw1] at hD1
  clear hw1 hJ hf4 hc4
  have hJ1 := hD1.cJ
  have hB1 := hD1.cB (s.j - 1) (by omega)
  have hf5 := hD1.frozen 5
  have hc5 : w1.cell? ⟨b, 5, none⟩ = some (.int .u8 (s.buf 1)) := hD1.cB 1 (by omega)
  have hne : ¬ s.j - 1 = 0 := by omega
  simp only [hne, if_false] at hB1
  have HD1 := Lib.hid hD1; clear hD1
  have HO1 := Lib.hid hO1; clear hO1
  have hw : IntKind.i64.wrap ((s.j : Int) - 1) = (s.j : Int) - 1 := IntWalk.i64_in _ (by omega)
  have ht1 : ((s.j : Int) - 1).toNat = s.j - 1 := by omega
  have ht2 : (s.j : Int) - 1 < 4096 := by omega
  have ht3 : 1 ≤ (s.j : Int) := by omega
  have ht4 : 0 ≤ (s.j : Int) - 1 := by omega
  refine wp_region_still_tail 17 (by kernel_rfl) (by kernel_rfl) ?_
  change wpStill _ _ (World.drew _) (fun a' => wpList _ _ _ _ a' (World.drew _)) _ _
  simp only [List.take_succ_cons, List.take_zero, List.drop_succ_cons, List.drop_zero]
  repeat still_step
  refine wpStill_nil ?_
  clear ht1 ht2 ht3 ht4 hw hB1
  have hfi := HD1.out.frozen 4100
  have hfj := HD1.out.frozen 4101
  have hcj := HD1.out.cJ
  have hci := HD1.out.cI
  go_wp2
  obtain ⟨w2, hw2⟩ : ∃ w2, w2 = (((w1.setCell ⟨b, 5, none⟩ (.int .u8 (s.buf (s.j - 1)))).setCell ⟨b, 4100, none⟩ (.int .i64 2)).setCell ⟨b, 4101, none⟩ (.int .i64 2)).drew := ⟨_, rfl⟩
  rw [← hw2]
  have hM : Filled b rd sa cap src e1 e2 s p w s.moved p w2 := by
    refine H.out.moved HIJ.out hj2 ?_ ?_
    · rw [hw2]
      exact (((HD1.out.setB (v := s.buf (s.j - 1)) (x := s.buf (s.j - 1)) (o := 5) (k := 1) rfl rfl (by omega)).setI (x := 2) rfl).setJ (x := 2) rfl).drew
    · rw [hw2]
      exact (((HO1.out.setCell (by simp) _).setCell (by simp) _).setCell (by simp) _).drew
  clear hw2 hcj hci hfi hfj hf5 hc5 HD1 HO1 hJ1
  have hJ2 : w2.cell? ⟨b, 4101, none⟩ = some (.int .i64 2) := hM.st.dec.cJ
  have hr2 := hM.st.dec.cG 0 (by simp) (by decide)
  rw [hM.st.iface] at hr2
  have HM := Lib.hid hM; clear hM
  go_region_with (go_at_call 62; refine (read_in (s := s.moved) (p := p) (HM.out.st.drewN 1).dec (HM.out.st.drewN 1).rdr (HM.out.st.drewN 1).srcAt HM.out.st.ne HM.out.st.hcap HM.out.st.hlen hp (by show 2 < 4096; omega) _ rfl).mono ?_; rintro e w3 ⟨n, s1, rfl, hn0, hn1, hn2, hD3, hR3, hO3, hb1, hb2⟩; have hJ3 : w3.cell? ⟨b, 4101, none⟩ = some (.int .i64 2) := DecS.cJ hD3; have hF3 := DecS.frozen hD3 4101; have HD := Lib.hid hD3; clear hD3; have HB1 := Lib.hid hb1; clear hb1; have HB2 := Lib.hid hb2; clear hb2)
  all_goals go_wp2
  all_goals go_ret
  all_goals exact ⟨rfl, _, _, HM.out.trans (HM.out.st.filled rfl hn1 hn2 (HD.out.setJ (x := 2 + n) (by omega)) (hR3.only ((Only.refl [b] _).setCell (by simp) _) (by simpa using fun e => H.out.ne e.symm)) (hO3.of_drew.setCell (by simp) _) HB1.out HB2.out), by show 2 < 2 + n; omega⟩

set_option maxRecDepth 100000 in
set_option maxHeartbeats 1000000 in
theorem fill_end_big (h : St b rd sa cap src e1 e2 s p w) (hij : s.i = s.j) (hp : p = src.length) (hj2 : 2 < s.j) :
    Calls Tryd.prog 37 #[.pointer (some ⟨b, 0, none⟩)] w fun e w' => e = .returned (.iface 175 (.pointer (some e1))) ∧
      ∃ s' p', Filled b rd sa cap src e1 e2 s p w s' p' w' ∧ s'.i = s'.j := by
  have hI := h.dec.cI
  rw [hij] at hI
  have hJ := h.dec.cJ
  have hJ4 := h.j4
  have hB2 := h.dec.cB (s.j - 2) (by omega)
  have hf4 := h.dec.frozen 4
  have hc4 : w.cell? ⟨b, 4, none⟩ = some (.int .u8 (s.buf 0)) := h.dec.cB 0 (by omega)
  have H := Lib.hid h; clear h
  have HIJ := Lib.hid hij; clear hij
  have HP := Lib.hid hp; clear hp
  have hj4 : (s.j : Int) ≤ 4096 := by omega
  have hj2' : (2 : Int) < (s.j : Int) := by omega
  have hw : IntKind.i64.wrap ((s.j : Int) - 2) = (s.j : Int) - 2 := IntWalk.i64_in _ (by omega)
  have ht1 : ((s.j : Int) - 2).toNat = s.j - 2 := by omega
  have ht2 : (s.j : Int) - 2 < 4096 := by omega
  have ht3 : 2 ≤ (s.j : Int) := by omega
  have ht4 : 0 ≤ (s.j : Int) - 2 := by omega
  go_enter Tryd.func37, Tryd.ntmps37
  go_wp2
  go_quiet (fail)
  go_wp2
  refine wp_region_still_tail 17 (by kernel_rfl) (by kernel_rfl) ?_
  change wpStill _ _ (World.drew _) (fun a' => wpList _ _ _ _ a' (World.drew _)) _ _
  simp only [List.take_succ_cons, List.take_zero, List.drop_succ_cons, List.drop_zero]
  repeat still_step
  refine wpStill_nil ?_
  clear ht1 ht2 ht3 ht4 hw hB2 hI
  go_wp2
  obtain ⟨w1, hw1⟩ : ∃ w1, w1 = (w.drewN (nq + 1)).setCell ⟨b, 4, none⟩ (.int .u8 (s.buf (s.j - 2))) := ⟨_, rfl⟩
  rw [← hw1]
  have hD1 := (H.out.drewN (nq + 1)).dec.setB (v := s.buf (s.j - 2)) (x := s.buf (s.j - 2)) (o := 4) (k := 0) rfl rfl (by omega)
  have hO1 : Only [b] w w1 := by rw [hw1]; exact ((Only.refl _ _).drewN _).setCell (by simp) _
  rw [← hw1] at hD1
  clear hw1 hJ hf4 hc4
  have hJ1 := hD1.cJ
  have hB1 := hD1.cB (s.j - 1) (by omega)
  have hf5 := hD1.frozen 5
  have hc5 : w1.cell? ⟨b, 5, none⟩ = some (.int .u8 (s.buf 1)) := hD1.cB 1 (by omega)
  have hne : ¬ s.j - 1 = 0 := by omega
  simp only [hne, if_false] at hB1
  have HD1 := Lib.hid hD1; clear hD1
  have HO1 := Lib.hid hO1; clear hO1
  have hw : IntKind.i64.wrap ((s.j : Int) - 1) = (s.j : Int) - 1 := IntWalk.i64_in _ (by omega)
  have ht1 : ((s.j : Int) - 1).toNat = s.j - 1 := by omega
  have ht2 : (s.j : Int) - 1 < 4096 := by omega
  have ht3 : 1 ≤ (s.j : Int) := by omega
  have ht4 : 0 ≤ (s.j : Int) - 1 := by omega
  refine wp_region_still_tail 17 (by kernel_rfl) (by kernel_rfl) ?_
  change wpStill _ _ (World.drew _) (fun a' => wpList _ _ _ _ a' (World.drew _)) _ _
  simp only [List.take_succ_cons, List.take_zero, List.drop_succ_cons, List.drop_zero]
  repeat still_step
  refine wpStill_nil ?_
  clear ht1 ht2 ht3 ht4 hw hB1
  have hfi := HD1.out.frozen 4100
  have hfj := HD1.out.frozen 4101
  have hcj := HD1.out.cJ
  have hci := HD1.out.cI
  go_wp2
  obtain ⟨w2, hw2⟩ : ∃ w2, w2 = (((w1.setCell ⟨b, 5, none⟩ (.int .u8 (s.buf (s.j - 1)))).setCell ⟨b, 4100, none⟩ (.int .i64 2)).setCell ⟨b, 4101, none⟩ (.int .i64 2)).drew := ⟨_, rfl⟩
  rw [← hw2]
  have hM : Filled b rd sa cap src e1 e2 s p w s.moved p w2 := by
    refine H.out.moved HIJ.out hj2 ?_ ?_
    · rw [hw2]
      exact (((HD1.out.setB (v := s.buf (s.j - 1)) (x := s.buf (s.j - 1)) (o := 5) (k := 1) rfl rfl (by omega)).setI (x := 2) rfl).setJ (x := 2) rfl).drew
    · rw [hw2]
      exact (((HO1.out.setCell (by simp) _).setCell (by simp) _).setCell (by simp) _).drew
  clear hw2 hcj hci hfi hfj hf5 hc5 HD1 HO1 hJ1
  have hJ2 : w2.cell? ⟨b, 4101, none⟩ = some (.int .i64 2) := hM.st.dec.cJ
  have hr2 := hM.st.dec.cG 0 (by simp) (by decide)
  rw [hM.st.iface] at hr2
  have hu1 := hM.st.u1
  have hu2 := hM.st.u2
  have hfj := hM.st.dec.frozen 4101
  have HM := Lib.hid hM; clear hM
  go_region_with (go_at_call 62; refine (read_end rd _ sa src.length cap p _ e2 HM.out.st.hlen (HM.out.st.drewN _).rdr (HM.out.st.drewN _).u2 HP.out).mono ?_; rintro e w3 ⟨rfl, nn, rfl⟩)
  all_goals go_wp2
  all_goals go_ret
  all_goals exact ⟨rfl, _, _, HM.out.trans (HM.out.st.filled (n := 0) (s1 := s.moved) rfl (by show 2 + 0 ≤ 4096; omega) (by have := HP.out; omega) ((HM.out.st.drewN _).dec.setJ (x := 2 + 0) (by omega)) ((HM.out.st.drewN _).rdr.only ((Only.refl [b] _).setCell (by simp) _) (by simpa using fun e => H.out.ne e.symm)) (((Only.refl _ _).drewN _).setCell (by simp) _) (fun _ _ => rfl) (fun k u hk => by omega)), rfl⟩

theorem fill_some (h : St b rd sa cap src e1 e2 s p w) (hij : s.i = s.j) (hp : p < src.length) :
    Calls Tryd.prog 37 #[.pointer (some ⟨b, 0, none⟩)] w fun e w' => e = .returned .nilIface ∧ ∃ s' p', Filled b rd sa cap src e1 e2 s p w s' p' w' ∧ s'.i < s'.j :=
  if hj : s.j ≤ 2 then fill_some_small h hij hp hj else fill_some_big h hij hp (by omega)
theorem fill_end (h : St b rd sa cap src e1 e2 s p w) (hij : s.i = s.j) (hp : p = src.length) :
    Calls Tryd.prog 37 #[.pointer (some ⟨b, 0, none⟩)] w fun e w' => e = .returned (.iface 175 (.pointer (some e1))) ∧ ∃ s' p', Filled b rd sa cap src e1 e2 s p w s' p' w' ∧ s'.i = s'.j :=
  if hj : s.j ≤ 2 then fill_end_small h hij hp hj else fill_end_big h hij hp (by omega)
end
end Go.Proofs.YtdjilplpbaackaaDoor
