/-
  The standard's side: a segment of tables. Conditions: the segment's bytes lie in memory; the decoder's block holds no table yet.
-/
import Derived.Test.YtdjilplpbaackaaDoorCm
import Derived.Deep.CutBlock
namespace Go.Proofs.YtdjilplpbaackaaDoor
open Go.RowKit

/-- What codes leaves. -/
def CodesEnd (d : Nat) (src : List UInt8) (w : World) (e : Ending) (w' : World) : Prop :=
  ∃ v : Bool, e = .returned (.bool v) ∧ Only [d] w w' ∧ (v = true → ∃ m, Segs src 0 (fun _ _ => none) m ∧ SpD d src m w')

theorem tb_new (w : World) {tb : Nat} (h : tb = w.heap.size) : TbS tb (fun _ => 0) (.slice none 0 0) (w.alloc (.cells #[.int .i64 0, .int .i64 0, .int .i64 0, .int .i64 0, .int .i64 0, .int .i64 0, .int .i64 0, .int .i64 0, .int .i64 0,
    .int .i64 0, .int .i64 0, .int .i64 0, .int .i64 0, .int .i64 0, .int .i64 0, .int .i64 0, .int .i64 0, .slice none 0 0] 52)) := by
  subst h
  refine ⟨(Array.replicate 17 (.int .i64 0)).push (.slice none 0 0), heap_alloc_new w _, by simp, fun k hk => ?_, by rw [Array.getElem?_push, if_pos (by simp)]⟩
  rw [Array.getElem?_push, if_neg (by simp; omega), Array.getElem?_replicate, if_pos hk]; rfl

theorem wpStill_load_mid {P : Program} {ops : Array Oper} {w : World} {Q : Act → Prop} {a : Act} {op : Oper} {rest : List Oper} (hw : Region.wanted op (yielded ops a.tmps) = true) (ty : TypeId) (x : Operand) (ho : op.op = .load ty x)
    (b o : Nat) (hx : a.eval x = .pointer (some ⟨b, o, none⟩)) (cs : List Value) (td : TypeDesc) (hc : w.rangeAt b o cs) (hu : P.underlying ty = some td) (hd : td.isRow = true) (hi : (P.info? ty).map (·.size) = some cs.length)
    (h : wpStill P ops w Q rest (a.put op.dst (.agg cs.toArray))) : wpStill P ops w Q (op :: rest) a := by
  rw [wpStill, if_pos hw]
  unfold Oper.still execOp
  simp only [ho, hx, Instr.loadAt, Instr.sureAddr, Sem.run_bind, Sem.run_pure, Result.andThen_ok, run_loadVar_mid w b o ty cs td hc hu hd hi]
  exact ⟨rfl, h⟩
theorem info52 : (Tryd.prog.info? 52).map (·.size) = some 18 := by kernel_rfl
def isF : Value → Bool
  | .bool false => true
  | _ => false
theorem isF_eq {v : Value} (h : isF v = true) : v = .bool false := by
  unfold isF at h
  split at h
  · rfl
  · cases h
theorem zero69_all : Tryd.zeroCells69.toList.all isF = true := by kernel_rfl
theorem sb_new (w : World) : SbS w.heap.size (fun _ => false) (w.alloc (.cells Tryd.zeroCells69 69)) := by
  refine ⟨_, heap_alloc_new w _, Tryd.zeroCells69_size, fun k hk => ?_⟩
  have hlen : Tryd.zeroCells69.toList.length = 256 := by rw [Array.length_toList]; exact Tryd.zeroCells69_size
  have := isF_eq (List.all_eq_true.1 zero69_all _ (List.getElem_mem (l := Tryd.zeroCells69.toList) (n := k) (by omega)))
  rw [← Array.getElem?_toList, List.getElem?_eq_getElem (by omega), this]

section
variable {d cap : Nat} {ta : Option Addr} {src : List UInt8} {w : World}

set_option maxRecDepth 100000 in
set_option maxHeartbeats 8000000 in
theorem spec_codes (hs : SrcAt [d] ta src w) (hlen : src.length ≤ 4000000000) (hcap : src.length ≤ cap) (h1 : SpD d src (fun _ _ => none) w) :
    Calls Tryd.prog 12 #[.pointer (some ⟨d, 0, none⟩), .slice ta src.length cap] w (CodesEnd d src w) := by
  have HS := Lib.hid hs; clear hs
  have H1 := Lib.hid h1; clear h1
  go_enter Tryd.func12, Tryd.ntmps12
  go_wp2
  go_loopg [1] src.length (fun k v wr => ∃ (q c1 : Nat) (pa : Option Addr) (m1 : Nat → Nat → Option Nat), q ≤ src.length ∧ k = src.length - q ∧ v = .slice pa ((src.length - q : Nat)) c1 ∧ src.length - q ≤ c1 ∧ (q < src.length → ∃ ad, ta = some ad ∧ pa = some (ad.add q)) ∧
    SpD d src m1 wr ∧ Only [d] w wr ∧ (∀ m, Segs src q m1 m → Segs src 0 (fun _ _ => none) m))
  case atStart => exact ⟨0, cap, ta, _, by omega, rfl, rfl, by omega, fun h => by
    obtain ⟨ad, e, _, _⟩ := HS.out 0 src[0] (List.getElem?_eq_getElem h)
    exact ⟨ad, e, by rw [e]; rfl⟩, H1.out, Only.refl _ _, fun m h => h⟩
  case round =>
    obtain ⟨q, c1, pa, m1, hq, hk, rfl, hc1, hpa, hD1, hO1, hseg⟩ := hrel
    have HK := Lib.hid hk; clear hk
    have HD1 := Lib.hid hD1
    have HO1 := Lib.hid hO1; clear hO1
    have HSEG := Lib.hid hseg; clear hseg
    have hproc := hD1.proc
    have hdl := hD1.lt
    clear hD1
    obtain ⟨n, hn⟩ : ∃ n, n = src.length - q := ⟨_, rfl⟩
    rw [← hn] at hc1 ⊢
    have HN := Lib.hid hn; clear hn
    by_cases h17 : 17 ≤ n
    · obtain ⟨ad, hta, hpp⟩ := hpa (by have := HN.out; omega)
      subst hpp
      clear hpa
      generalize hP : ad.add q = P
      -- the bytes, in a later world
      have hbyte : ∀ (wx : World), Only [d] w wx → ∀ j, q + j < src.length → wx.cell? (P.add j) = some (.int .u8 (byteAt src (q + j))) := by
        intro wx hx j hj
        obtain ⟨ad', e1, e2, e3⟩ := HS.out (q + j) src[q + j] (List.getElem?_eq_getElem hj)
        rw [hta] at e1; cases e1
        rw [← hP, Addr.add_add, hx.cell (World.block_lt_of_cell? _ _ e3) (by rw [Addr.block_add]; exact e2), e3]
        unfold byteAt
        rw [List.getD_eq_getElem?_getD, List.getElem?_eq_getElem hj]; rfl
      have hPb : P.block ≠ d ∧ P.block < w.heap.size := by
        obtain ⟨ad', e1, e2, e3⟩ := HS.out q (src[q]'(by have := HN.out; omega)) (List.getElem?_eq_getElem _)
        rw [hta] at e1; cases e1
        have := World.block_lt_of_cell? _ _ e3
        rw [Addr.block_add] at this
        rw [← hP, Addr.block_add]
        exact ⟨fun e => e2 (by simp [e]), this⟩
      have HBY := Lib.hid hbyte; clear hbyte
      have HP := Lib.hid hP; clear hP
      obtain ⟨B, hB⟩ : ∃ B, B = byteAt src q := ⟨_, rfl⟩
      have hB256 := byteAt_lt src q
      rw [← hB] at hB256
      have hc0 : wr.cell? P = some (.int .u8 B) := by
        have := HBY.out wr HO1.out 0 (by have := HN.out; omega)
        rw [hB]; simpa [Addr.add] using this
      obtain ⟨C, hC⟩ : ∃ C, C = B / 16 := ⟨_, rfl⟩
      obtain ⟨D, hD⟩ : ∃ D, D = B % 16 := ⟨_, rfl⟩
      have hC16 : C < 16 := by omega
      have hD16 : D < 16 := by omega
      have hand15 : bits .and .u8 (B : Int) 15 = (D : Int) := by rw [u8_and15 _ (by omega) (by omega)]; omega
      have hshr4 : (B : Int) / 16 = (C : Int) := by omega
      have HC := Lib.hid hC; clear hC
      have HD := Lib.hid hD; clear hD
      have HB := Lib.hid hB; clear hB
      by_cases hcc : C ≤ 1
      · have hcd : decide (1 < (C : Int)) = false := by simp; omega
        by_cases hdd : D ≤ 3
        · have hdd' : decide (3 < (D : Int)) = false := by simp; omega
          go_wp2
          go_quiet (fail)
          go_upto_block 2 with (fail)
          generalize hw1 : World.alloc _ _ = w1
          obtain ⟨tb, htb⟩ : ∃ tb, tb = wr.heap.size := ⟨_, rfl⟩
          rw [← htb]
          have hT1 : TbS tb (fun _ => 0) (.slice none 0 0) w1 := by rw [← hw1, htb]; exact tb_new _ (by simp)
          have hO2 : Only [] wr w1 := by rw [← hw1]; exact ((Only.refl _ _).drewN _).alloc _
          have hsz1 : wr.heap.size ≤ w1.heap.size := hO2.size
          have htb1 : wr.heap.size ≤ tb := by omega
          have htb3 : tb ≤ wr.heap.size := by omega
          have HTB := Lib.hid htb; clear htb
          have hwr := HO1.out.size
          clear hw1 hc0 hproc
          have hO12 : Only [d] w w1 := HO1.out.andThen hO2 (by simp)
          have HT1 := Lib.hid hT1; clear hT1
          have HO2 := Lib.hid hO2; clear hO2
          have HO12 := Lib.hid hO12; clear hO12
          have hok17 : ∀ j, j ≤ 16 → q + j < src.length := fun j hj => by have := HN.out; omega
          refine countsBlock (T := tabAt src q) (fun i hi1 hi2 => HBY.out w1 HO12.out i (hok17 i hi2)) (fun i => tabAt_cnt src q i) h17 (by omega) HT1.out _ ?_ ?_
          · intro tmps w' h4 hO
            exact bodyPost_ret (P := Tryd.prog) (fn := Tryd.f12) (R := CodesEnd d src w) (results_tmp rfl _ _ _) rfl ⟨false, by rw [h4], HO12.out.andThen hO (by simp; omega), fun h => by cases h⟩
          · intro z4 z44 z45 z46 z47 z48 z49 z50 z51 z52 z53 z54 z55 z56 z57 z58 z59 z60 z61 z62 z63 z64 z65 z66 z67 z68 z69 z70 z71 z72 free w2 hkr hix hT2 hO3
            obtain ⟨t, ht⟩ : ∃ t, t = (tabAt src q).idx 17 := ⟨_, rfl⟩
            have hix17 := hix 17
            rw [← ht] at hix17 ⊢
            have HT := Lib.hid ht; clear ht
            have HKR := Lib.hid hkr; clear hkr hix
            have HT2 := Lib.hid hT2; clear hT2
            have hO4 := HO12.out.andThen hO3 (by simp; omega)
            have hsz2 := hO3.size
            have HO3 := Lib.hid hO3; clear hO3
            have HO4 := Lib.hid hO4; clear hO4
            by_cases ht0 : t = 0
            · have hq0 : ((t : Int) == 0) = true := by simp; omega
              go_wp2
              go_ret
              exact ⟨false, rfl, HO4.out, fun h => by cases h⟩
            · have hq0 : ((t : Int) == 0) = false := by simp; omega
              by_cases hshort : n < 17 + t
              · have hq1 : decide ((n : Int) < 17 + (t : Int)) = true := by simp; omega
                go_wp2
                go_ret
                exact ⟨false, rfl, HO4.out, fun h => by cases h⟩
              · have hq1 : decide ((n : Int) < 17 + (t : Int)) = false := by simp; omega
                go_upto_block 4 with (fail)
                generalize hw3 : World.alloc _ _ = w3
                obtain ⟨sb, hsb⟩ : ∃ sb, sb = w2.heap.size := ⟨_, rfl⟩
                rw [← hsb]
                have hSB : SbS sb (fun _ => false) w3 := by rw [← hw3, hsb]; exact sb_new _
                have hO23 : Only [] w2 w3 := by rw [← hw3]; exact (Only.refl _ _).alloc _
                have hO03 := HO4.out.andThen hO23 (by simp)
                have hT3 := HT2.out.only hO23 (by simp)
                have hsz3 : w3.heap.size = w2.heap.size + 1 := by rw [← hw3]; simp
                have htb2 := HT2.out.lt
                have hsb1 : w2.heap.size ≤ sb := by omega
                have hsb3 : sb ≤ w2.heap.size := by omega
                have HSBE := Lib.hid hsb; clear hsb
                clear hw3
                have HSB := Lib.hid hSB; clear hSB
                have HO23 := Lib.hid hO23; clear hO23
                have HO03 := Lib.hid hO03; clear hO03
                have HT3 := Lib.hid hT3; clear hT3
                have hP17 : (⟨P.block, P.off + 17, none⟩ : Addr) = P.add 17 := by unfold Addr.add; rw [if_neg (by decide)]
                rw [hP17]
                clear hP17
                rw [show 17 + t - 17 = t from by omega]
                have hnt : q + 17 + t ≤ src.length := by have := HN.out; omega
                refine valuesBlock (P := P.add 17) (B := w3.heap.size) (fun k => byteAt src (q + 17 + k)) (fun k => byteAt_lt _ _) (fun k hk => ?_) (by omega) ⟨by rw [Addr.block_add]; omega, by rw [Addr.block_add]; omega, by rw [Addr.block_add]; omega⟩ (by omega) ⟨by omega, by omega, rfl⟩ HT3.out HSB.out hcc _ ?_ ?_
                · rw [Addr.add_add]
                  have := HBY.out w3 HO03.out (17 + k) (by omega)
                  rw [this, show q + (17 + k) = q + 17 + k from by omega]
                · intro tmps w' h4 hO
                  exact bodyPost_ret (P := Tryd.prog) (fn := Tryd.f12) (R := CodesEnd d src w) (results_tmp rfl _ _ _) rfl ⟨false, by rw [h4], HO03.out.andThen hO (by simp; omega), fun h => by cases h⟩
                · intro z4 z13 z88 z89 z90 z91 z92 z93 z94 z95 z96 z97 z98 z99 z100 z101 z102 z103 z104 z105 z106 z107 z108 z109 z110 z111 z112 z113 z114 z115 z116 z117 z118 z119 z120 v w4 hT4 hown hnd hO5
                  obtain ⟨g, vcap, hv, hBg, hgl⟩ := hown.form (by omega)
                  subst hv
                  have hO04 := HO03.out.andThen hO5 (by simp; omega)
                  have hOr4 : Only [] wr w4 := ((HO2.out.andThen HO3.out (by simp; omega)).andThen HO23.out (by simp)).andThen hO5 (by simp; omega)
                  have hD4 := HD1.out.only hOr4 (by simp)
                  obtain ⟨Cs, hCh, hCs, hCk, hCv⟩ := hT4
                  have hrange : (World.drew w4).rangeAt tb 0 Cs.toList := fun j x hj => by
                    rw [Nat.zero_add, World.cell?_drew, cell_of_row w4 tb j Cs 52 (0, 0) hCh, ← Array.getElem?_toList]; exact hj
                  have hlen52 : (Tryd.prog.info? 52).map (·.size) = some Cs.toList.length := by rw [Array.length_toList, hCs]; exact info52
                  have HR := Lib.hid hrange; clear hrange
                  have HL52 := Lib.hid hlen52; clear hlen52
                  have hts : sb ≠ tb := by omega
                  have HD4 := Lib.hid hD4; clear hD4
                  have HO04' := Lib.hid hO04; clear hO04
                  have HCK := Lib.hid (And.intro hCs (And.intro hCk hCv)); clear hCs hCk hCv
                  have HOWN := Lib.hid hown; clear hown
                  have HND := Lib.hid hnd; clear hnd
                  clear hO5 hOr4 hCh
                  have hC2 : (C : Int) < 2 := by omega
                  have hD4i : (D : Int) < 4 := by omega
                  go_wp2_with (fail)
                  refine wp_region_still_tail 8 (by kernel_rfl) (by kernel_rfl) ?_
                  change wpStill _ _ (World.drew _) (fun a' => wpList _ _ _ _ a' (World.drew _)) _ _
                  simp only [List.take_succ_cons, List.take_zero, List.drop_succ_cons, List.drop_zero]
                  still_step
                  still_step
                  still_step
                  refine wpStill_load_mid rfl 52 (.tmp 7) rfl tb 0 rfl Cs.toList _ HR.out Tryd.underlying52 rfl HL52.out ?_
                  repeat still_step
                  refine wpStill_nil ?_
                  refine wpList_store_mid rfl 52 (.tmp 128) (.tmp 124) rfl d (264 + C * 72 + D * 18) Cs.toList.toArray rfl rfl ?_ ?_ ?_ ?_
                  · intro j hj
                    have hj18 : j < 18 := by
                      have := HCK.out.1
                      simp at hj; omega
                    exact HD4.out.there (264 + C * 72 + D * 18 + j) (by omega)
                  · have := HL52.out; simpa using this
                  · refine all_oneCell_toArray (fun x hx => ?_)
                    obtain ⟨k, hk⟩ := List.mem_iff_getElem?.1 hx
                    rw [Array.getElem?_toList] at hk
                    by_cases hk17 : k < 17
                    · rw [HCK.out.2.1 k hk17] at hk; cases hk; rfl
                    · have hkl := (Array.getElem?_eq_some_iff.1 hk).1
                      have : k = 17 := by have := HCK.out.1; omega
                      subst this
                      rw [HCK.out.2.2] at hk; cases hk; rfl
                  have htt : t = totalAt src q := by rw [HT.out, tabAt_total]
                  have hCq : C = byteAt src q / 16 := by rw [HC.out, HB.out]
                  have hDq : D = byteAt src q % 16 := by rw [HD.out, HB.out]
                  have hcells := HOWN.out.cells (g := g) rfl
                  have hok : DhtOk src q := ⟨by omega, by omega, HKR.out, by omega, by
                    have := nodup_le 256 _ HND.out (fun x hx => by
                      unfold firsts at hx
                      obtain ⟨k, _, rfl⟩ := List.mem_map.1 hx
                      exact byteAt_lt _ _)
                    rw [firsts_length] at this; omega, by omega⟩
                  have hput : SpD d src (fun c e => if c = C ∧ e = D then some q else m1 c e) ((World.drew w4).setCells d (264 + C * 72 + D * 18) Cs.toList) := by
                    refine (HD4.out.only ((Only.refl [] _).drew) (by simp)).put (q := q) (g := g) (cap := vcap) (tot := t) hcc hdd rfl (by rw [Array.length_toList]; exact HCK.out.1) (fun i hi1 hi2 => ?_) ?_ htt hnt (by omega) (by omega) (fun k hk => ?_)
                    · rw [Array.getElem?_toList, HCK.out.2.1 i hi2, if_pos hi1]; rfl
                    · rw [Array.getElem?_toList]; exact HCK.out.2.2
                    · have := hcells k (.int .i64 (byteAt src (q + 17 + k))) (by
                        unfold icells firsts
                        rw [List.getElem?_map, List.getElem?_map, List.getElem?_range hk]; rfl)
                      rw [Addr.add_mid, Nat.zero_add] at this
                      exact this
                  have hOend : Only [d] w ((World.drew w4).setCells d (264 + C * 72 + D * 18) Cs.toList) := Only.setCells _ _ _ (HO04'.out.drew) (by simp)
                  have hsegs : ∀ m, Segs src (q + 17 + t) (fun c e => if c = C ∧ e = D then some q else m1 c e) m → Segs src 0 (fun _ _ => none) m := by
                    intro m hm
                    rw [hCq, hDq, htt] at hm
                    exact HSEG.out m (Segs.more hok hm)
                  have HPUT := Lib.hid hput; clear hput
                  have HEND := Lib.hid hOend; clear hOend
                  have HSEGS := Lib.hid hsegs; clear hsegs
                  clear hcells hok htt hCq hDq
                  go_wp2
                  · go_roundg (src.length - (q + 17 + t))
                    case measure => have := HK.out; have := HN.out; omega
                    case rel =>
                      have hnn := HN.out
                      refine ⟨q + 17 + t, 0, some P, _, hnt, rfl, ?_, by omega, fun h => by omega, HPUT.out, HEND.out, HSEGS.out⟩
                      congr 1; omega
                  · go_roundg (src.length - (q + 17 + t))
                    case measure => have := HK.out; have := HN.out; omega
                    case rel =>
                      have hnn := HN.out
                      refine ⟨q + 17 + t, c1 - (17 + t), some (P.add (17 + t)), _, hnt, rfl, ?_, by omega, fun h => ⟨ad, hta, by rw [← HP.out, Addr.add_add, Nat.add_assoc]⟩, HPUT.out, HEND.out, HSEGS.out⟩
                      congr 1; omega
        · have hdd' : decide (3 < (D : Int)) = true := by simp; omega
          go_wp2
          go_quiet (fail)
          go_wp2
          go_ret
          exact ⟨false, rfl, HO1.out.drewN _, fun h => by cases h⟩
      · have hcd : decide (1 < (C : Int)) = true := by simp; omega
        go_wp2
        go_quiet (fail)
        go_wp2
        go_ret
        exact ⟨false, rfl, HO1.out.drewN _, fun h => by cases h⟩
    · go_wp2
      go_ret
      refine ⟨_, rfl, HO1.out, fun h => ?_⟩
      have h : ((n : Int) == 0) = true := h
      have hn0 : n = 0 := by simpa using h
      have hqe : q = src.length := by have := HN.out; omega
      refine ⟨m1, HSEG.out m1 ?_, HD1.out⟩
      rw [hqe]; exact Segs.done m1
end
end Go.Proofs.YtdjilplpbaackaaDoor
