/-
  ZZSymbols: n symbols out of entropy-coded data. Conditions: the two slices' cells lie in memory; the segment of tables is as Segs says.
-/
import Derived.Test.YtdjilplpbaackaaDoorHt
import Derived.Test.YtdjilplpbaackaaDoorNw
import Derived.Test.YtdjilplpbaackaaDoorDh
import Derived.Maps.AppendAt
namespace Go.Proofs.YtdjilplpbaackaaDoor
open Go.RowKit

set_option maxRecDepth 100000 in
theorem new_reader (sa : Option Addr) (len cap : Nat) (w : World) :
    Calls Tryd.prog 19 #[.slice sa len cap] w fun e w' => e = .returned (.pointer (some ⟨w.heap.size, 0, none⟩)) ∧ w' = w.alloc (.cells #[.slice sa len cap, .int .i64 0, .int .i64 (-1)] 134) := by
  go_enter Tryd.func19, Tryd.ntmps19
  go_wp2
  go_ret
  exact ⟨rfl, rfl⟩

/-- Up to n symbols; are there n? -/
def decAll (T : Tab) : Nat → List Bool → List Nat × Bool
  | 0, _ => ([], true)
  | n + 1, R =>
    match T.decode R with
    | none => ([], false)
    | some (s, R') => (s :: (decAll T n R').1, (decAll T n R').2)
theorem decAll_none {T : Tab} {n : Nat} {R : List Bool} (h : T.decode R = none) : decAll T (n + 1) R = ([], false) := by rw [decAll, h]
theorem decAll_some {T : Tab} {n : Nat} {R R' : List Bool} {s : Nat} (h : T.decode R = some (s, R')) : decAll T (n + 1) R = (s :: (decAll T n R').1, (decAll T n R').2) := by rw [decAll, h]
theorem decAll_le (T : Tab) (n : Nat) : ∀ R, (decAll T n R).1.length ≤ n := by
  induction n with
  | zero => intro R; exact Nat.zero_le _
  | succ n ih =>
    intro R
    cases h : T.decode R with
    | none => rw [decAll_none h]; exact Nat.zero_le _
    | some sr =>
      obtain ⟨s, R'⟩ := sr
      rw [decAll_some h]; have := ih R'; simp only [List.length_cons]; omega
/-- Cells of symbols. -/
def scells (l : List Nat) : List Value := l.map fun s => .int .u8 (s : Nat)

theorem own_only {S : List Nat} {w w' : World} {B e size n : Nat} {v : Value} {xs : List Value} (h : w.ownsRow B e size v n xs) (hb : Only S w w') (hs : ∀ x, x ∈ S → x < B) : w'.ownsRow B e size v n xs := by
  refine ⟨h.1, ?_⟩
  rcases h.2 with hn | ⟨g, cap, cur, rfl, hg, hgg, rest⟩
  · exact .inl hn
  · exact .inr ⟨g, cap, cur, rfl, hg, by rw [hb.block g (Array.getElem?_eq_some_iff.1 hgg).1 (fun hm => by have := hs g hm; omega)]; exact hgg, rest⟩

theorem own_mono {w : World} {base base' : Nat} {e : TypeId} {size : Nat} {v : Value} {n : Nat} {xs : List Value} (h : w.ownsRow base e size v n xs) (hb : base' ≤ base) : w.ownsRow base' e size v n xs :=
  ⟨h.1, h.2.imp id fun ⟨g, cap, cur, hv, hg, rest⟩ => ⟨g, cap, cur, hv, Nat.le_trans hb hg, rest⟩⟩

/-- What ZZSymbols answers. -/
def ZzEnd (B : Nat) (r : List Nat × Bool) (w : World) (e : Ending) (w' : World) : Prop :=
  ∃ v er, e = .returned (.tuple #[v, er]) ∧ w'.ownsRow B 5 1 v r.1.length (scells r.1) ∧ (r.2 = true ∧ er = .nilIface ∨ r.2 = false ∧ ∃ str, er = .iface 105 (.string str)) ∧ Only [] w w'

theorem Rd_new (w : World) (sa : Option Addr) (len cap : Nat) : RdS w.heap.size sa len cap 0 (w.alloc (.cells #[.slice sa len cap, .int .i64 0, .int .i64 (-1)] 134)) :=
  ⟨-1, heap_alloc_new w _⟩
theorem RdS.alloc {rd len cap p : Nat} {sa : Option Addr} {w : World} (h : RdS rd sa len cap p w) (o : Obj) : RdS rd sa len cap p (w.alloc o) :=
  h.only ((Only.refl [] w).alloc o) (by simp)
theorem DecS.alloc {b : Nat} {s : DS} {w : World} (h : DecS b s w) (o : Obj) : DecS b s (w.alloc o) := h.only ((Only.refl [] w).alloc o) (by simp)

theorem St.new {w : World} {ta : Option Addr} {src : List UInt8} {tcap : Nat} {e1 e2 : Addr} (hsrc : SrcAt [] ta src w) (hcap : src.length ≤ tcap) (hlen : src.length ≤ 1000000000000)
    (h1 : w.cell? ⟨1, 0, none⟩ = some (.iface 175 (.pointer (some e1)))) (h2 : w.cell? ⟨2, 0, none⟩ = some (.iface 175 (.pointer (some e2)))) :
    St (w.heap.size + 1) w.heap.size ta tcap src e1 e2 (DS.new (.iface 72 (.pointer (some ⟨w.heap.size, 0, none⟩)))) 0
      ((w.alloc (.cells #[.slice ta src.length tcap, .int .i64 0, .int .i64 (-1)] 134)).alloc (.cells (Tryd.zeroCells100.setIfInBounds 0 (.iface 72 (.pointer (some ⟨w.heap.size, 0, none⟩)))) 100)) := by
  have hb2 := World.block_lt_of_cell? _ _ h2
  have hb2' : 2 < w.heap.size := hb2
  have hO : Only [] w ((w.alloc (.cells #[.slice ta src.length tcap, .int .i64 0, .int .i64 (-1)] 134)).alloc (.cells (Tryd.zeroCells100.setIfInBounds 0 (.iface 72 (.pointer (some ⟨w.heap.size, 0, none⟩)))) 100)) := ((Only.refl [] w).alloc _).alloc _
  exact
  { dec := DecS.new _ _ (by simp)
    rdr := (Rd_new w ta _ tcap).alloc _
    iface := rfl
    srcAt := by
      intro k u hu
      obtain ⟨ad, e, _, hc⟩ := hsrc k u hu
      have hlt := World.block_lt_of_cell? _ _ hc
      rw [Addr.block_add] at hlt
      exact ⟨ad, e, by simp; omega, (hO.cell (by rw [Addr.block_add]; exact hlt) (by simp)).trans hc⟩
    ne := by omega
    u1 := (hO.cell (p := ⟨1, 0, none⟩) (by show 1 < _; omega) (by simp)).trans h1
    u2 := (hO.cell (p := ⟨2, 0, none⟩) hb2 (by simp)).trans h2
    hb := by omega
    hr := by omega
    hcap := hcap, hlen := hlen, ij := Nat.le_refl _, j4 := Nat.zero_le _, jp := Nat.le_refl _, pl := Nat.zero_le _
    bufAt := fun k u hk => absurd hk (Nat.not_lt_zero _) }

/-- The decoder set on a new source. -/
theorem St.again {b rd : Nat} {ca : Option Addr} {src : List UInt8} {ccap : Nat} {e1 e2 : Addr} {s : DS} {w' : World} (hD : DecS b s w') (hR : RdS rd ca src.length ccap 0 w') (hi : s.g 0 = .iface 72 (.pointer (some ⟨rd, 0, none⟩)))
    (hs : SrcAt [b, rd] ca src w') (hne : b ≠ rd) (h1 : w'.cell? ⟨1, 0, none⟩ = some (.iface 175 (.pointer (some e1)))) (h2 : w'.cell? ⟨2, 0, none⟩ = some (.iface 175 (.pointer (some e2)))) (hb : 2 < b) (hr : 2 < rd)
    (hcap : src.length ≤ ccap) (hlen : src.length ≤ 1000000000000) (h0 : s.i = 0) (hj : s.j = 0) : St b rd ca ccap src e1 e2 s 0 w' :=
  { dec := hD, rdr := hR, iface := hi, srcAt := hs, ne := hne, u1 := h1, u2 := h2, hb := hb, hr := hr, hcap := hcap, hlen := hlen, ij := by omega, j4 := by omega, jp := by omega, pl := Nat.zero_le _
    bufAt := fun k u hk => by omega }

theorem st_again {b rd p1 tcap ccap : Nat} {ta ca : Option Addr} {tsrc csrc : List UInt8} {e1 e2 : Addr} {s1 : DS} {w w1 : World} (h : St b rd ta tcap tsrc e1 e2 s1 p1 w1) (hx : s1.a = 0 ∧ s1.m = 0 ∧ s1.n = 0)
    (hc : SrcAt [] ca csrc w) (hO : Only [] w w1) (hbw : w.heap.size ≤ b) (hcap : csrc.length ≤ ccap) (hlen : csrc.length ≤ 1000000000000) {W : World}
    (hW : ((((w1.setCell ⟨b, 0, none⟩ (.iface 72 (.pointer (some ⟨w1.heap.size, 0, none⟩)))).setCell ⟨b, 4100, none⟩ (.int .i64 0)).setCell ⟨b, 4101, none⟩ (.int .i64 0)).setCell ⟨b, 4102, none⟩ (.int .i64 0)).alloc
      (.cells #[.slice ca csrc.length ccap, .int .i64 0, .int .i64 (-1)] 134) = W) :
    ∃ s2, St b w1.heap.size ca ccap csrc e1 e2 s2 0 W ∧ BitsOk s2 ∧ s2.rem csrc 0 = bitsFrom csrc 0 ∧ (∀ k, k ≠ 0 → s2.g k = s1.g k) ∧ Only [] w W ∧ w1.heap.size < W.heap.size := by
  subst hW
  have hbl := h.dec.lt
  have hO2 : Only [b] w1 (((((w1.setCell ⟨b, 0, none⟩ (.iface 72 (.pointer (some ⟨w1.heap.size, 0, none⟩)))).setCell ⟨b, 4100, none⟩ (.int .i64 0)).setCell ⟨b, 4101, none⟩ (.int .i64 0)).setCell ⟨b, 4102, none⟩ (.int .i64 0)).alloc
      (.cells #[.slice ca csrc.length ccap, .int .i64 0, .int .i64 (-1)] 134)) := by
    repeat (first | exact Only.refl _ _ | refine Only.alloc ?_ _ | refine Only.setCell ?_ (by simp) _)
  have hOw := hO.andThen hO2 (by simp [hbw])
  have hb2 := h.hb
  have hr2 := h.hr
  have hrl := h.rdr.lt
  refine ⟨{ s1 with i := 0, j := 0, nu := 0, g := fun k => if k = 0 then .iface 72 (.pointer (some ⟨w1.heap.size, 0, none⟩)) else s1.g k },
    St.again (b := b) (rd := w1.heap.size) (DecS.alloc (((((h.dec.setG (.inl rfl)).setI (x := 0) rfl).setJ (x := 0) rfl).setU (x := 0) rfl)) _) ?_ rfl ?_ (by omega) ?_ ?_ hb2 (by omega) hcap hlen rfl rfl, ?_, ?_, fun k hk => if_neg hk, hOw, by simp⟩
  · have := Rd_new ((((w1.setCell ⟨b, 0, none⟩ (.iface 72 (.pointer (some ⟨w1.heap.size, 0, none⟩)))).setCell ⟨b, 4100, none⟩ (.int .i64 0)).setCell ⟨b, 4101, none⟩ (.int .i64 0)).setCell ⟨b, 4102, none⟩ (.int .i64 0)) ca csrc.length ccap
    simpa using this
  · intro k u hu
    obtain ⟨ad, e, _, hcc⟩ := hc k u hu
    have hlt := World.block_lt_of_cell? _ _ hcc
    have hlt' := hlt
    rw [Addr.block_add] at hlt'
    have := hO.size
    exact ⟨ad, e, by simp; omega, (hOw.cell hlt (by simp)).trans hcc⟩
  · exact (hO2.cell (p := ⟨1, 0, none⟩) (by show 1 < _; omega) (by simp; omega)).trans h.u1
  · exact (hO2.cell (p := ⟨2, 0, none⟩) (by show 2 < _; omega) (by simp; omega)).trans h.u2
  · exact ⟨by show s1.n ≤ 15; omega, by show s1.m = if s1.n = 0 then 0 else 2 ^ (s1.n - 1); rw [hx.2.2, if_pos rfl, hx.2.1], by show s1.a < 4294967296; omega⟩
  · show lowbits s1.n s1.a ++ bitsFrom csrc (0 - (0 - 0)) = _
    rw [hx.2.2]; rfl

/-- A source that lay there before everything that turned lies there still. -/
theorem SrcAt.kept {ca : Option Addr} {src : List UInt8} {w w' : World} {S : List Nat} (h : SrcAt [] ca src w) (hO : Only [] w w') (hS : ∀ x, x ∈ S → w.heap.size ≤ x) : SrcAt S ca src w' := by
  intro k u hu
  obtain ⟨ad, e, _, hcc⟩ := h k u hu
  have hlt := World.block_lt_of_cell? _ _ hcc
  have hlt' := hlt
  rw [Addr.block_add] at hlt'
  exact ⟨ad, e, fun hm => by have := hS _ hm; omega, (hO.cell hlt (by simp)).trans hcc⟩

theorem St.other {b rd p cap : Nat} {sa : Option Addr} {src : List UInt8} {e1 e2 : Addr} {s : DS} {w w' : World} (h : St b rd sa cap src e1 e2 s p w) {T : List Nat} (hO : Only T w w') (hT : ∀ x, x ∈ T → rd < x) (hbr : b < rd) (hs : SrcAt [b, rd] sa src w') : St b rd sa cap src e1 e2 s p w' :=
  { dec := h.dec.only hO (fun hm => by have := hT _ hm; omega), rdr := h.rdr.only hO (fun hm => by have := hT _ hm; omega), iface := h.iface, srcAt := hs, ne := h.ne
    u1 := by rw [hO.cell (p := ⟨1, 0, none⟩) (World.block_lt_of_cell? _ _ h.u1) (fun hm => by have : rd < 1 := hT _ hm; have := h.hr; omega)]; exact h.u1
    u2 := by rw [hO.cell (p := ⟨2, 0, none⟩) (World.block_lt_of_cell? _ _ h.u2) (fun hm => by have : rd < 2 := hT _ hm; have := h.hr; omega)]; exact h.u2
    hb := h.hb, hr := h.hr, hcap := h.hcap, hlen := h.hlen, ij := h.ij, j4 := h.j4, jp := h.jp, pl := h.pl, bufAt := h.bufAt }

theorem info5 : (Tryd.prog.info? 5).map (fun i => (i.zero, i.size, i.bytes)) = some (some (.int .u8 0), 1, 1) := by kernel_rfl

section
variable {ta ca : Option Addr} {tsrc csrc : List UInt8} {tcap ccap : Nat} {e1 e2 : Addr} {w : World}

set_option maxRecDepth 100000 in
set_option maxHeartbeats 4000000 in
theorem zz_symbols (ht : SrcAt [] ta tsrc w) (hc : SrcAt [] ca csrc w) (htc : tsrc.length ≤ tcap) (hcc : csrc.length ≤ ccap) (htl : tsrc.length ≤ 1000000000000) (hcl : csrc.length ≤ 1000000000000)
    (h1 : w.cell? ⟨1, 0, none⟩ = some (.iface 175 (.pointer (some e1)))) (h2 : w.cell? ⟨2, 0, none⟩ = some (.iface 175 (.pointer (some e2))))
    {m : Nat → Nat → Option Nat} (hseg : Segs tsrc 0 (fun _ _ => none) m) (cl nu n q : Nat) (hc1 : cl ≤ 1) (hn3 : nu ≤ 3) (hq : m cl nu = some q) (hn : n ≤ 4000000000) :
    Calls Tryd.prog 14 #[.slice ta tsrc.length tcap, .int .i64 cl, .int .i64 nu, .slice ca csrc.length ccap, .int .i64 n] w (ZzEnd w.heap.size (decAll (tabAt tsrc q) n (bitsFrom csrc 0)) w) := by
  have hst := St.new (e1 := e1) (e2 := e2) ht htc htl h1 h2
  have HST := Lib.hid hst; clear hst
  have HC := Lib.hid hc; clear hc
  have H1 := Lib.hid h1; clear h1
  have H2 := Lib.hid h2; clear h2
  have HSEG := Lib.hid hseg; clear hseg
  have HQ := Lib.hid hq; clear hq
  clear ht
  go_enter Tryd.func14, Tryd.ntmps14
  go_wp2_with (first
    | (go_at_call 19; refine (new_reader _ _ _ _).mono ?_; rintro e w1 ⟨rfl, rfl⟩)
    | (fail))
  refine (process_dht (HST.out) rfl rfl (DS.new_base _) HSEG.out).mono ?_
  rintro e w1 ⟨rfl, s1, p1, hS1, ha, hm, hnn, hT, hO⟩
  have hO' : Only [] w w1 := ((((Only.refl [] w).alloc _).alloc _).andThen hO (by simp))
  obtain ⟨b, hb⟩ : ∃ b, b = w.heap.size + 1 := ⟨_, rfl⟩
  obtain ⟨rd, hrd⟩ : ∃ rd, rd = w.heap.size := ⟨_, rfl⟩
  rw [← hb, ← hrd] at hS1
  have hbr := hS1.dec.lt
  rw [← hb]
  have HB := Lib.hid hb
  have HRD := Lib.hid hrd
  clear hb hrd
  have hf0 := hS1.dec.frozen 0
  have hf1 := hS1.dec.frozen 4100
  have hf2 := hS1.dec.frozen 4101
  have hf3 := hS1.dec.frozen 4102
  have hc0 := hS1.dec.cG 0 (by simp) (by decide)
  have hcI := hS1.dec.cI
  have hcJ := hS1.dec.cJ
  have hcU := hS1.dec.cU
  have HS1 := Lib.hid hS1
  have HT := Lib.hid hT; clear hT
  have HX := Lib.hid (show s1.a = 0 ∧ s1.m = 0 ∧ s1.n = 0 from ⟨ha, hm, hnn⟩)
  have HO := Lib.hid hO'
  clear hS1 ha hm hnn hO hO'
  go_wp2_with (first
    | (go_at_call 19; refine (new_reader _ _ _ _).mono ?_; rintro e w2 ⟨rfl, rfl⟩)
    | (fail))
  generalize hw : World.alloc _ _ = w2
  obtain ⟨s2, hS2, hB2, hr2, hg2, hO2, hlt2⟩ := st_again (ccap := ccap) HS1.out HX.out HC.out HO.out (by rw [HB.out]; omega) hcc hcl hw
  obtain ⟨T, hTT⟩ : ∃ T, T = tabAt tsrc q := ⟨_, rfl⟩
  obtain ⟨ho, hho⟩ : ∃ ho, ho = 4148 + cl * 2244 + nu * 561 := ⟨_, rfl⟩
  have hG2 : HuffG s2.g ho T := by
    have h0 := HT.out cl nu q hc1 hn3 HQ.out
    rw [hho, hTT]
    exact h0.congr fun k hk _ => hg2 k (by unfold hoff at hk; omega)
  obtain ⟨rd2, hrd2⟩ : ∃ rd2, rd2 = w1.heap.size := ⟨_, rfl⟩
  rw [← hrd2] at hS2 hlt2
  have hbw : b < rd2 := by rw [hrd2]; exact HS1.out.dec.lt
  have hwb : w.heap.size ≤ b := by rw [HB.out]; omega
  have hwr : w.heap.size ≤ rd2 := by rw [hrd2]; exact HO.out.size
  rw [← hTT]
  obtain ⟨R0, hR0⟩ : ∃ R0, R0 = bitsFrom csrc 0 := ⟨_, rfl⟩
  rw [← hR0] at hr2 ⊢
  clear hw hf0 hf1 hf2 hf3 hc0 hcI hcJ hcU HS1 HT HX HO HB HRD HST HSEG HQ hrd2 hg2
  have HTT := Lib.hid hTT; clear hTT
  have HR0 := Lib.hid hR0; clear hR0
  go_loopg [14, 15] n (fun k v14 v15 wr => ∃ (i : Nat) (acc : List Nat) (s3 : DS) (p3 : Nat), i ≤ n ∧ k = n - i ∧ v15 = .int .i64 i ∧ acc.length = i ∧ wr.ownsRow (rd2 + 1) 5 1 v14 acc.length (scells acc) ∧ rd2 < wr.heap.size ∧
    St b rd2 ca ccap csrc e1 e2 s3 p3 wr ∧ BitsOk s3 ∧ HuffG s3.g ho T ∧ Only [] w wr ∧ decAll T n R0 = (acc ++ (decAll T (n - i) (s3.rem csrc p3)).1, (decAll T (n - i) (s3.rem csrc p3)).2))
  case atStart => exact ⟨0, [], s2, 0, by omega, rfl, rfl, rfl, World.ownsRow_nil _ _ _ _, hlt2, hS2, hB2, hG2, hO2, by rw [hr2]; simp⟩
  case round =>
    obtain ⟨i, acc, s3, p3, hi, hk, rfl, hacc, hown, hlt3, hS3, hB3, hG3, hO3, hd3⟩ := hrel
    have HHO := Lib.hid hho
    have HS3 := Lib.hid hS3; clear hS3
    have HB3 := Lib.hid hB3; clear hB3
    have HG3 := Lib.hid hG3; clear hG3
    have HO3 := Lib.hid hO3; clear hO3
    have HOW := Lib.hid hown; clear hown
    have HD3 := Lib.hid hd3; clear hd3
    clear hho
    have hcl2 : (cl : Int) < 2 := by omega
    have hnu2 : (nu : Int) < 4 := by omega
    by_cases hin : i < n
    · cases hd : T.decode (s3.rem csrc p3) with
      | none =>
        have HD := Lib.hid hd; clear hd
        go_wp2_with (fail)
        rw [← HHO.out]
        refine (decode_huffman HS3.out HB3.out HG3.out).mono ?_
        rintro e w4 ⟨v4, v5, rfl, hP⟩
        rw [HD.out] at hP
        obtain ⟨rfl, ⟨str, rfl⟩, hO4⟩ := hP
        have HO4 := Lib.hid hO4; clear hO4
        go_wp2
        go_ret2
        have hda : decAll T n R0 = (acc, false) := by
          rw [HD3.out, show n - i = (n - i - 1) + 1 from by omega, decAll_none HD.out]; simp
        refine ⟨_, _, rfl, ?_, .inr ⟨by rw [hda], _, rfl⟩, HO3.out.andThen HO4.out (by simp; omega)⟩
        rw [hda]
        exact own_mono (own_only HOW.out HO4.out (by simp; omega)) (by omega)
      | some sr =>
        obtain ⟨sy, R'⟩ := sr
        have HD := Lib.hid hd; clear hd
        go_wp2_with (fail)
        rw [← HHO.out]
        refine (decode_huffman HS3.out HB3.out HG3.out).mono ?_
        rintro e w4 ⟨v4, v5, rfl, hP⟩
        rw [HD.out] at hP
        obtain ⟨rfl, rfl, s4, p4, hS4, hB4, hR4, hg4, hO4⟩ := hP
        have hO4' := HO3.out.andThen hO4 (by simp; omega)
        have hown4 := own_only HOW.out hO4 (by simp; omega)
        have HO4 := Lib.hid hO4'
        have hsz4 := hO4.size
        have HS4 := Lib.hid hS4; clear hS4 hO4 hO4'
        have HOW4 := Lib.hid hown4; clear hown4
        have HG4 : Hid (HuffG s4.g ho T) := Lib.hid (by rw [hg4]; exact HG3.out)
        clear hg4
        obtain ⟨i0, hi0, hz0, hz1, hz2⟩ := info_parts info5
        go_wp2_with (at_builtin; refine wpList_append_own_at _ rfl _ _ 22 rfl (rd2 + 1) 5 i0 (.int .u8 0) 1 1 Tryd.underlying22 hi0 hz0 hz1 hz2 rfl (by decide) _ _ _ rfl (HOW4.out.alloc _) ⟨w4.heap.size, 0, none⟩ 1 1 [.int .u8 sy] rfl rfl ?c1 ?c2 ?c3 ?c4 ?c5 ?_)
        case c1 =>
          intro j u hj
          match j, hj with
          | 0, hj => simp at hj; subst hj; simp [Addr.add]
        case c2 => intro u hu; simp at hu; subst hu; rfl
        case c3 => unfold maxLen; omega
        case c4 => omega
        case c5 => simp; omega
        intro v' w5 hown5 hgrow _ _
        have HGR := Lib.hid hgrow; clear hgrow
        have HOW5 := Lib.hid hown5; clear hown5
        have hO5 : Only [] w w5 := (HO4.out.alloc _).grown HGR.out (fun k hk => .inr (by have := (HOW4.out.lt k hk).1; omega))
        have hS5 : St b rd2 ca ccap csrc e1 e2 s4 p4 w5 := HS4.out.other (T := u14.ownBlock.toList) (((Only.refl _ _).alloc _).grown HGR.out (fun k hk => .inl (by simp [hk])))
          (fun x hx => by have := (HOW4.out.lt x (by simpa using hx)).1; omega) (by omega) (HC.out.kept hO5 (by simp; omega))
        have HS5 := Lib.hid hS5
        have hsz5 := hO5.size
        have hlt5 : rd2 < w5.heap.size := by have := HS5.out.rdr.lt; omega
        have HO5 := Lib.hid hO5
        have HR4 := Lib.hid hR4
        have HB4 := Lib.hid hB4
        clear hO5 hS5 hR4 hB4
        go_wp2
        go_roundg (n - (i + 1))
        case measure => omega
        case rel =>
          refine ⟨i + 1, acc ++ [sy], s4, p4, by omega, rfl, by simp, by simp [hacc], ?_, hlt5, HS5.out, HB4.out, HG4.out, HO5.out, ?_⟩
          · have e1 : (acc ++ [sy]).length = acc.length + 1 := by simp
            have e2 : scells (acc ++ [sy]) = scells acc ++ [.int .u8 sy] := by simp [scells]
            rw [e1, e2, hacc]; exact HOW5.out
          · rw [HD3.out, show n - i = (n - (i + 1)) + 1 from by omega, decAll_some HD.out, HR4.out, List.append_assoc]; rfl
    · obtain rfl : i = n := by omega
      go_wp2
      go_ret2
      have hda : decAll (tabAt tsrc q) i (bitsFrom csrc 0) = (acc, true) := by
        rw [← HTT.out, ← HR0.out, HD3.out, Nat.sub_self]; simp [decAll]
      refine ⟨_, _, rfl, ?_, .inl ⟨by rw [hda], rfl⟩, HO3.out⟩
      rw [hda]
      exact own_mono HOW.out (by omega)
end
end Go.Proofs.YtdjilplpbaackaaDoor
