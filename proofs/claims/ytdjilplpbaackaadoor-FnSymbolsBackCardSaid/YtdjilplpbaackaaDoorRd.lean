/-
  The stream behind the decoder: bytes.Reader's Read, and the decoder's fill, over a source of bytes that lies in memory. Conditions: the decoder's block, the reader's block and the source's cells are as St says.
-/
import Derived.Test.YtdjilplpbaackaaDoorBase
namespace Go.Proofs.YtdjilplpbaackaaDoor
open Go.RowKit

theorem Addr.add_add (a : Addr) (m n : Nat) : (a.add m).add n = a.add (m + n) := by
  unfold Addr.add
  by_cases h1 : m = 0 <;> by_cases h2 : n = 0 <;> simp [h1, h2, Nat.add_assoc]
theorem Addr.block_add (a : Addr) (m : Nat) : (a.add m).block = a.block := by unfold Addr.add; split <;> rfl

/-- The cells of some bytes. -/
def bcells (l : List UInt8) : List Value := l.map fun u => .int .u8 u.toNat
theorem length_bcells (l : List UInt8) : (bcells l).length = l.length := by simp [bcells]
theorem bcells_one (l : List UInt8) : ∀ v ∈ bcells l, v.oneCell' = true := by
  intro v hv
  simp only [bcells, List.mem_map] at hv
  obtain ⟨u, _, rfl⟩ := hv; rfl

/-- Block rd is a bytes.Reader over the slice (sa, len, cap), p bytes read. -/
def RdS (rd : Nat) (sa : Option Addr) (len cap p : Nat) (w : World) : Prop :=
  ∃ pr : Int, w.heap[rd]? = some (.cells #[.slice sa len cap, .int .i64 p, .int .i64 pr] 134 (0, 0))
namespace RdS
variable {rd : Nat} {sa : Option Addr} {len cap p : Nat} {w : World}
theorem lt (h : RdS rd sa len cap p w) : rd < w.heap.size := by
  obtain ⟨_, hC⟩ := h
  exact (Array.getElem?_eq_some_iff.1 hC).1
theorem c0 (h : RdS rd sa len cap p w) : w.cell? ⟨rd, 0, none⟩ = some (.slice sa len cap) := by
  obtain ⟨_, hC⟩ := h; rw [cell_of_row w rd 0 _ _ _ hC]; rfl
theorem c1 (h : RdS rd sa len cap p w) : w.cell? ⟨rd, 1, none⟩ = some (.int .i64 p) := by
  obtain ⟨_, hC⟩ := h; rw [cell_of_row w rd 1 _ _ _ hC]; rfl
theorem c2 (h : RdS rd sa len cap p w) : ∃ pr : Int, w.cell? ⟨rd, 2, none⟩ = some (.int .i64 pr) := by
  obtain ⟨pr, hC⟩ := h; exact ⟨pr, by rw [cell_of_row w rd 2 _ _ _ hC]; rfl⟩
theorem frozen (h : RdS rd sa len cap p w) (k : Nat) : w.frozen? ⟨rd, k, none⟩ = false := by
  obtain ⟨_, hC⟩ := h; exact frozen_of_row w rd k _ _ hC
theorem drewN (h : RdS rd sa len cap p w) (n : Nat) : RdS rd sa len cap p (w.drewN n) := h
theorem drew (h : RdS rd sa len cap p w) : RdS rd sa len cap p w.drew := h
theorem setPr (h : RdS rd sa len cap p w) (x : Int) : RdS rd sa len cap p (w.setCell ⟨rd, 2, none⟩ (.int .i64 x)) := by
  obtain ⟨pr, hC⟩ := h
  exact ⟨x, by rw [heap_setCell_same w rd 2 _ _ _ hC]; rfl⟩
theorem setI (h : RdS rd sa len cap p w) {x : Int} {p' : Nat} (e : x = p') : RdS rd sa len cap p' (w.setCell ⟨rd, 1, none⟩ (.int .i64 x)) := by
  obtain ⟨pr, hC⟩ := h
  exact ⟨pr, by subst e; rw [heap_setCell_same w rd 1 _ _ _ hC]; rfl⟩
theorem only (h : RdS rd sa len cap p w) {S : List Nat} {w' : World} (k : Only S w w') (hs : rd ∉ S) : RdS rd sa len cap p w' := by
  have hl := h.lt
  obtain ⟨pr, hC⟩ := h
  exact ⟨pr, by rw [k.block rd hl hs]; exact hC⟩
end RdS

/-- The source's bytes lie in memory, outside the blocks S. -/
def SrcAt (S : List Nat) (sa : Option Addr) (src : List UInt8) (w : World) : Prop :=
  ∀ k u, src[k]? = some u → ∃ ad, sa = some ad ∧ ad.block ∉ S ∧ w.cell? (ad.add k) = some (.int .u8 u.toNat)
theorem SrcAt.only {S T : List Nat} {sa : Option Addr} {src : List UInt8} {w w' : World} (h : SrcAt S sa src w) (k : Only T w w') (hs : ∀ x, x ∈ T → x ∈ S ∨ w.heap.size ≤ x) : SrcAt S sa src w' := by
  intro j u hu
  obtain ⟨ad, h1, h2, h3⟩ := h j u hu
  have hlt := World.block_lt_of_cell? _ _ h3
  refine ⟨ad, h1, h2, ?_⟩
  rw [k.cell hlt (fun hm => (hs _ hm).elim (by rw [Addr.block_add]; exact h2) (fun hp => by omega))]; exact h3

set_option maxRecDepth 100000 in
set_option maxHeartbeats 400000 in
theorem read_end (rd : Nat) (w : World) (sa : Option Addr) (len cap p : Nat) (dst : Value) (e2 : Addr) (hlen : len ≤ 1000000000000)
   (hR : RdS rd sa len cap p w) (hg : w.cell? ⟨2, 0, none⟩ = some (.iface 175 (.pointer (some e2)))) (hp : p = len) :
    Calls Tryd.prog 62 #[.pointer (some ⟨rd, 0, none⟩), dst] w fun e w' => e = .returned (.tuple #[.int .i64 0, .iface 175 (.pointer (some e2))]) ∧ ∃ n, w' = w.drewN n := by
  subst hp
  have h0 := hR.c0
  have h1 := hR.c1
  clear hR
  go_enter Tryd.func62, Tryd.ntmps62
  go_wp2
  go_quiet (fail)
  go_wp2
  go_quiet (fail)
  go_wp2
  go_ret2
  exact ⟨rfl, _, World.drewN_drewN _ _ _⟩

set_option maxRecDepth 100000 in
set_option maxHeartbeats 400000 in
theorem read_some (b rd : Nat) (s s' : DS) (w : World) (hD : DecS b s w) (sa : Option Addr) (len cap p : Nat) (hR : RdS rd sa len cap p w) (hlen : len ≤ 1000000000000) (hcap : len ≤ cap)
   (hp : p < len) (hb : b ≠ rd) (o dLen : Nat) (cs : List UInt8) (hcs : cs.length = min dLen (len - p))
   (hsrc : 0 < cs.length → ∃ ad, sa = some ad ∧ ad.block ≠ rd ∧ ∀ j v, (bcells cs)[j]? = some v → w.cell? (ad.add (p + j)) = some v) (hfit : o + cs.length ≤ 9020)
   (hs' : ∀ k, k < 9020 → s'.at k = if o ≤ k ∧ k < o + cs.length then (bcells cs).getD (k - o) undef else s.at k) :
    Calls Tryd.prog 62 #[.pointer (some ⟨rd, 0, none⟩), .slice (some ⟨b, o, none⟩) dLen dLen] w fun e w' => e = .returned (.tuple #[.int .i64 cs.length, .nilIface]) ∧
      DecS b s' w' ∧ RdS rd sa len cap (p + cs.length) w' ∧ Only [b, rd] w w' := by
  have h0 := hR.c0
  have h1 := hR.c1
  obtain ⟨pr, h2⟩ := hR.c2
  have hf1 := hR.frozen 1
  have hf2 := hR.frozen 2
  have hp1 : (p : Int) ≤ (len : Int) := by omega
  have HR := Lib.hid hR; clear hR
  have HD := Lib.hid hD; clear hD
  have HS := Lib.hid hsrc; clear hsrc
  have HS' := Lib.hid hs'; clear hs'
  have HC := Lib.hid hcs; clear hcs
  go_enter Tryd.func62, Tryd.ntmps62
  go_wp2
  go_quiet (fail)
  go_wp2
  refine wp_region_still_tail 10 (by kernel_rfl) (by kernel_rfl) ?_
  change wpStill _ _ (World.drew _) (fun a' => wpList _ _ _ _ a' (World.drew _)) _ _
  simp only [List.take_succ_cons, List.take_zero, List.drop_succ_cons, List.drop_zero]
  repeat still_step
  refine wpStill_nil ?_
  refine wpList_copy_dec (b := b) (s := s) (s' := s') (by exact ((HD.out.drewN _).only ((Only.refl [rd] _).setCell (by simp) _) (by simpa using hb)).drew) rfl (.tmp 20) (.tmp 29) 22 22 rfl 5 o dLen dLen _ _ _ (bcells cs) Tryd.underlying22 (by kernel_rfl) rfl rfl ?_ ?_ ?_ ?_ ?_ ?_
  · rw [length_bcells, HC.out]; exact Nat.min_comm _ _
  · intro h0
    obtain ⟨ad, rfl, hne, hc⟩ := HS.out (by simpa [bcells] using h0)
    refine ⟨ad.add p, by rw [if_neg (by omega)]; rfl, fun j v hj => ?_⟩
    rw [Addr.add_add, World.cell?_drew, World.cell?_setCell_other _ _ _ _ (fun e => hne (by have := congrArg Addr.block e; rw [Addr.block_add] at this; exact this.symm))]
    exact hc j v hj
  · simpa [bcells] using hfit
  · exact bcells_one cs
  · intro k hk; rw [HS'.out k hk, length_bcells]
  · intro w1 hD1 hO1
    have hR1 : RdS rd sa len cap p w1 := RdS.only (((HR.out.drewN _).setPr _).drew) hO1 (by simpa using fun e => hb e.symm)
    have c1 := hR1.c1
    have f1 := hR1.frozen 1
    have hbd : cs.length ≤ len - p := by have := HC.out; omega
    rw [length_bcells]
    have HR1 := Lib.hid hR1; clear hR1
    have HO := Lib.hid hO1; clear hO1
    go_wp2
    all_goals go_ret2
    all_goals exact ⟨rfl, hD1.only ((Only.refl [rd] _).setCell (by simp) _) (by simpa using hb), HR1.out.setI (by omega), ((((Only.refl [b, rd] w).drewN _).setCell (by simp) _).drew.andThen HO.out (by simp)).setCell (by simp) _⟩

/-- The decoder at block b reads, through the reader at block rd, the bytes src; p of them have gone into its buffer. -/
structure St (b rd : Nat) (sa : Option Addr) (cap : Nat) (src : List UInt8) (e1 e2 : Addr) (s : DS) (p : Nat) (w : World) : Prop where
  dec : DecS b s w
  rdr : RdS rd sa src.length cap p w
  iface : s.g 0 = .iface 72 (.pointer (some ⟨rd, 0, none⟩))
  srcAt : SrcAt [b, rd] sa src w
  ne : b ≠ rd
  u1 : w.cell? ⟨1, 0, none⟩ = some (.iface 175 (.pointer (some e1)))
  u2 : w.cell? ⟨2, 0, none⟩ = some (.iface 175 (.pointer (some e2)))
  hb : 2 < b
  hr : 2 < rd
  hcap : src.length ≤ cap
  hlen : src.length ≤ 1000000000000
  ij : s.i ≤ s.j
  j4 : s.j ≤ 4096
  jp : s.j ≤ p
  pl : p ≤ src.length
  bufAt : ∀ k u, k < s.j → src[p - s.j + k]? = some u → s.buf k = u.toNat

/-- How many bytes the decoder has taken. -/
def DS.pos (s : DS) (p : Nat) : Nat := p - (s.j - s.i)

/-- The bits and the rest of the decoder are the same. -/
structure Keep (s s' : DS) : Prop where
  a : s'.a = s.a
  m : s'.m = s.m
  n : s'.n = s.n
  g : s'.g = s.g
theorem Keep.refl (s : DS) : Keep s s := ⟨rfl, rfl, rfl, rfl⟩
theorem Keep.trans {a b c : DS} (h : Keep a b) (k : Keep b c) : Keep a c := ⟨k.a.trans h.a, k.m.trans h.m, k.n.trans h.n, k.g.trans h.g⟩

section
variable {b rd cap p : Nat} {sa : Option Addr} {src : List UInt8} {e1 e2 : Addr} {s : DS} {w : World}

/-- What turns the decoder alone keeps the rest. -/
theorem St.upd (h : St b rd sa cap src e1 e2 s p w) {s' : DS} {w' : World} (hD : DecS b s' w') (hO : Only [b] w w') (hg : s'.g = s.g) (hj : s'.j = s.j) (hbuf : s'.buf = s.buf) (hi : s'.i ≤ s.j) :
    St b rd sa cap src e1 e2 s' p w' :=
  { dec := hD, rdr := h.rdr.only hO (by simpa using fun e => h.ne e.symm), iface := by rw [hg]; exact h.iface
    srcAt := h.srcAt.only hO (by simp), ne := h.ne
    u1 := by rw [hO.cell (p := ⟨1, 0, none⟩) (World.block_lt_of_cell? _ _ h.u1) (by have := h.hb; simp; omega)]; exact h.u1
    u2 := by rw [hO.cell (p := ⟨2, 0, none⟩) (World.block_lt_of_cell? _ _ h.u2) (by have := h.hb; simp; omega)]; exact h.u2
    hb := h.hb, hr := h.hr, hcap := h.hcap, hlen := h.hlen, ij := by rw [hj]; exact hi, j4 := by rw [hj]; exact h.j4, jp := by rw [hj]; exact h.jp, pl := h.pl
    bufAt := by rw [hj, hbuf]; exact h.bufAt }

theorem St.drewN (h : St b rd sa cap src e1 e2 s p w) (n : Nat) : St b rd sa cap src e1 e2 s p (w.drewN n) :=
  { dec := h.dec, rdr := h.rdr, iface := h.iface, srcAt := h.srcAt, ne := h.ne, u1 := h.u1, u2 := h.u2, hb := h.hb, hr := h.hr, hcap := h.hcap, hlen := h.hlen, ij := h.ij, j4 := h.j4, jp := h.jp, pl := h.pl, bufAt := h.bufAt }

/-- What Read leaves where the source has more, at the decoder's own buffer. -/
def ReadIn (b rd : Nat) (sa : Option Addr) (cap : Nat) (src : List UInt8) (s : DS) (p : Nat) (w : World) (e : Ending) (w' : World) : Prop :=
  ∃ (n : Nat) (s' : DS), e = .returned (.tuple #[.int .i64 n, .nilIface]) ∧ 0 < n ∧ s.j + n ≤ 4096 ∧ p + n ≤ src.length ∧
    DecS b { s with buf := s'.buf } w' ∧ RdS rd sa src.length cap (p + n) w' ∧ Only [b, rd] w w' ∧
    (∀ k, k < s.j → s'.buf k = s.buf k) ∧ (∀ k u, k < n → src[p + k]? = some u → s'.buf (s.j + k) = u.toNat)

theorem read_in (hD : DecS b s w) (hR : RdS rd sa src.length cap p w) (hS : SrcAt [b, rd] sa src w) (hne : b ≠ rd) (hcap : src.length ≤ cap) (hlen : src.length ≤ 1000000000000)
    (hp : p < src.length) (hj : s.j < 4096) (o : Nat) (ho : o = 4 + s.j) :
    Calls Tryd.prog 62 #[.pointer (some ⟨rd, 0, none⟩), .slice (some ⟨b, o, none⟩) (4096 - s.j) (4096 - s.j)] w (ReadIn b rd sa cap src s p w) := by
  subst ho
  have hcs : ((src.drop p).take (4096 - s.j)).length = min (4096 - s.j) (src.length - p) := by simp
  refine (read_some b rd s { s with buf := fun k => if s.j ≤ k ∧ k < s.j + ((src.drop p).take (4096 - s.j)).length then (src.getD (p + (k - s.j)) 0).toNat else s.buf k } w hD sa src.length cap p hR hlen hcap hp hne (4 + s.j) (4096 - s.j) ((src.drop p).take (4096 - s.j)) hcs ?_ (by omega) ?_).mono ?_
  · intro h0
    obtain ⟨ad, h1, h2, _⟩ := hS p src[p] (by simp [hp])
    refine ⟨ad, h1, fun e => h2 (by simp [e]), fun j v hv => ?_⟩
    obtain ⟨u, hu, rfl⟩ : ∃ u, src[p + j]? = some u ∧ v = .int .u8 u.toNat := by
      simp only [bcells, List.getElem?_map, List.getElem?_take, List.getElem?_drop] at hv
      split at hv
      · cases hq : src[p + j]? with
        | none => simp [hq] at hv
        | some u => exact ⟨u, rfl, by simpa [hq] using hv.symm⟩
      · simp at hv
    obtain ⟨ad', h1', _, h3⟩ := hS (p + j) u hu
    rw [h1] at h1'; cases h1'; exact h3
  · intro k hk
    generalize hL : (src.drop p).take (4096 - s.j) = L at *
    by_cases hin : 4 + s.j ≤ k ∧ k < 4 + s.j + L.length
    · rw [if_pos hin]
      obtain ⟨q, rfl⟩ : ∃ q, k = 4 + s.j + q := ⟨k - (4 + s.j), by omega⟩
      have hq : q < L.length := by omega
      unfold DS.at
      rw [if_neg (by omega), if_neg (by omega), if_neg (by omega), if_pos (by omega)]
      simp only [show 4 + s.j + q - 4 = s.j + q from by omega, show 4 + s.j + q - (4 + s.j) = q from by omega]
      rw [if_pos (by omega), show s.j + q - s.j = q from by omega]
      have e1 : (bcells L).getD q undef = .int .u8 (L[q]).toNat := by simp [bcells, hq]
      have e2 : L[q] = src.getD (p + q) 0 := by
        subst hL
        simp only [List.getElem_take, List.getElem_drop, List.getD_eq_getElem?_getD]
        rw [List.getElem?_eq_getElem (by omega)]; rfl
      rw [e1, e2]
    · rw [if_neg hin]
      unfold DS.at
      by_cases h4 : 4 ≤ k ∧ k < 4100
      · have : ¬ (s.j ≤ k - 4 ∧ k - 4 < s.j + L.length) := by omega
        simp [this]
      · simp [h4]
  · rintro e w' ⟨rfl, h1, h2, h3⟩
    refine ⟨_, { s with buf := fun k => if s.j ≤ k ∧ k < s.j + ((src.drop p).take (4096 - s.j)).length then (src.getD (p + (k - s.j)) 0).toNat else s.buf k }, rfl, by omega, by omega, by omega, h1, h2, h3, fun k hk => ?_, fun k u hk hu => ?_⟩
    · show (if _ then _ else _) = _
      rw [if_neg (by omega)]
    · show (if _ then _ else _) = _
      rw [if_pos (by omega), Nat.add_sub_cancel_left, List.getD_eq_getElem?_getD, hu]; rfl

/-- What fill leaves: the stream stands where it stood; more is in the buffer if there was more. -/
structure Filled (b rd : Nat) (sa : Option Addr) (cap : Nat) (src : List UInt8) (e1 e2 : Addr) (s : DS) (p : Nat) (w : World) (s' : DS) (p' : Nat) (w' : World) : Prop where
  st : St b rd sa cap src e1 e2 s' p' w'
  keep : Keep s s'
  nu : s'.nu = s.nu
  pos : s'.pos p' = s.pos p
  back : min s.i 2 ≤ s'.i
  only : Only [b, rd] w w'

theorem St.filled (h : St b rd sa cap src e1 e2 s p w) (hij : s.i = s.j) {n : Nat} {s1 : DS} {w2 : World} (hn1 : s.j + n ≤ 4096) (hn2 : p + n ≤ src.length)
    (hD : DecS b { s with buf := s1.buf, j := s.j + n } w2) (hR : RdS rd sa src.length cap (p + n) w2) (hO : Only [b, rd] w w2)
    (hb1 : ∀ k, k < s.j → s1.buf k = s.buf k) (hb2 : ∀ k u, k < n → src[p + k]? = some u → s1.buf (s.j + k) = u.toNat) :
    Filled b rd sa cap src e1 e2 s p w { s with buf := s1.buf, j := s.j + n } (p + n) w2 := by
  refine ⟨{ dec := hD, rdr := hR, iface := h.iface, srcAt := h.srcAt.only hO (fun x hx => .inl hx), ne := h.ne,
            u1 := by rw [hO.cell (p := ⟨1, 0, none⟩) (World.block_lt_of_cell? _ _ h.u1) (by have := h.hb; have := h.hr; simp; omega)]; exact h.u1
            u2 := by rw [hO.cell (p := ⟨2, 0, none⟩) (World.block_lt_of_cell? _ _ h.u2) (by have := h.hb; have := h.hr; simp; omega)]; exact h.u2
            hb := h.hb, hr := h.hr, hcap := h.hcap, hlen := h.hlen, ij := by show s.i ≤ s.j + n; omega, j4 := hn1, jp := by show s.j + n ≤ p + n; have := h.jp; omega, pl := hn2, bufAt := ?_ },
    ⟨rfl, rfl, rfl, rfl⟩, rfl, ?_, by show min s.i 2 ≤ s.i; omega, hO⟩
  · intro k u hk hu
    have hk' : k < s.j + n := hk
    have hjp := h.jp
    show s1.buf k = u.toNat
    have e0 : p + n - (s.j + n) = p - s.j := by omega
    have hu' : src[p - s.j + k]? = some u := by rw [← e0]; exact hu
    by_cases h1 : k < s.j
    · rw [hb1 k h1]; exact h.bufAt k u h1 hu'
    · obtain ⟨q, rfl⟩ : ∃ q, k = s.j + q := ⟨k - s.j, by omega⟩
      exact hb2 q u (by omega) (by rw [← hu']; congr 1; omega)
  · show p + n - (s.j + n - s.i) = p - (s.j - s.i)
    have := h.jp; omega

/-- The last two bytes moved to the buffer's head. -/
theorem St.moved (h : St b rd sa cap src e1 e2 s p w) (hij : s.i = s.j) (hj : 2 < s.j) {w2 : World}
    (hD : DecS b { s with buf := fun q => if q = 1 then s.buf (s.j - 1) else if q = 0 then s.buf (s.j - 2) else s.buf q, i := 2, j := 2 } w2) (hO : Only [b] w w2) :
    Filled b rd sa cap src e1 e2 s p w { s with buf := fun q => if q = 1 then s.buf (s.j - 1) else if q = 0 then s.buf (s.j - 2) else s.buf q, i := 2, j := 2 } p w2 := by
  refine ⟨{ dec := hD, rdr := h.rdr.only hO (by simpa using fun e => h.ne e.symm), iface := h.iface, srcAt := h.srcAt.only hO (by simp), ne := h.ne,
            u1 := by rw [hO.cell (p := ⟨1, 0, none⟩) (World.block_lt_of_cell? _ _ h.u1) (by have := h.hb; simp; omega)]; exact h.u1
            u2 := by rw [hO.cell (p := ⟨2, 0, none⟩) (World.block_lt_of_cell? _ _ h.u2) (by have := h.hb; simp; omega)]; exact h.u2
            hb := h.hb, hr := h.hr, hcap := h.hcap, hlen := h.hlen, ij := Nat.le_refl 2, j4 := by show 2 ≤ 4096; omega, jp := by show 2 ≤ p; have := h.jp; omega, pl := h.pl, bufAt := ?_ },
    ⟨rfl, rfl, rfl, rfl⟩, rfl, ?_, by show min s.i 2 ≤ 2; omega, hO.mono (by simp)⟩
  · intro k u hk hu
    have hk' : k < 2 := hk
    have hjp := h.jp
    have hu' : src[p - 2 + k]? = some u := hu
    show (if k = 1 then _ else if k = 0 then _ else _) = _
    by_cases h1 : k = 1
    · subst h1; rw [if_pos rfl]; exact h.bufAt _ u (by omega) (by rw [← hu']; congr 1; omega)
    · obtain rfl : k = 0 := by omega
      rw [if_neg (by omega), if_pos rfl]; exact h.bufAt _ u (by omega) (by rw [← hu']; congr 1; omega)
  · show p - (2 - 2) = p - (s.j - s.i)
    omega

theorem Filled.trans {s1 s2 : DS} {p1 p2 : Nat} {w1 w2 : World} (h : Filled b rd sa cap src e1 e2 s p w s1 p1 w1) (k : Filled b rd sa cap src e1 e2 s1 p1 w1 s2 p2 w2) :
    Filled b rd sa cap src e1 e2 s p w s2 p2 w2 :=
  ⟨k.st, h.keep.trans k.keep, k.nu.trans h.nu, k.pos.trans h.pos, by have := h.back; have := k.back; omega, h.only.trans k.only⟩

theorem Only.of_drewN {S : List Nat} {a w : World} {n : Nat} (h : Only S (a.drewN n) w) : Only S a w := ⟨h.os, h.tape, h.output, h.size, h.block⟩
theorem Only.of_drew {S : List Nat} {a w : World} (h : Only S a.drew w) : Only S a w := ⟨h.os, h.tape, h.output, h.size, h.block⟩

set_option maxRecDepth 100000 in
set_option maxHeartbeats 1000000 in
theorem fill_some_small (h : St b rd sa cap src e1 e2 s p w) (hij : s.i = s.j) (hp : p < src.length) (hj2 : s.j ≤ 2) :
    Calls Tryd.prog 37 #[.pointer (some ⟨b, 0, none⟩)] w fun e w' => e = .returned .nilIface ∧
      ∃ s' p', Filled b rd sa cap src e1 e2 s p w s' p' w' ∧ s'.i < s'.j := by
  have hI := h.dec.cI
  rw [hij] at hI
  have hJ := h.dec.cJ
  have h0 := h.dec.cG 0 (by simp) (by decide)
  rw [h.iface] at h0
  have H := Lib.hid h; clear h
  have HIJ := Lib.hid hij; clear hij
  have hj4 : (s.j : Int) ≤ 4096 := by omega
  have hj5 : ¬ 4096 = s.j := by omega
  go_enter Tryd.func37, Tryd.ntmps37
  go_wp2
  go_quiet (fail)
  go_wp2
  go_region_with (go_at_call 62; refine (read_in (s := s) (p := p) (H.out.drewN _).dec (H.out.drewN _).rdr (H.out.drewN _).srcAt H.out.ne H.out.hcap H.out.hlen hp (by omega) _ rfl).mono ?_; rintro e w1 ⟨n, s1, rfl, hn0, hn1, hn2, hD1, hR1, hO1, hb1, hb2⟩; have hJ1 := DecS.cJ hD1; have hF1 := DecS.frozen hD1 4101; have HD := Lib.hid hD1; clear hD1; have HB1 := Lib.hid hb1; clear hb1; have HB2 := Lib.hid hb2; clear hb2)
  all_goals go_wp2
  all_goals go_ret
  all_goals exact ⟨rfl, _, _, H.out.filled HIJ.out hn1 hn2 (HD.out.setJ (x := s.j + n) (by omega)) (hR1.only ((Only.refl [b] _).setCell (by simp) _) (by simpa using fun e => H.out.ne e.symm)) (hO1.of_drewN.setCell (by simp) _) HB1.out HB2.out, by show s.i < s.j + n; have := HIJ.out; omega⟩

set_option maxRecDepth 100000 in
set_option maxHeartbeats 1000000 in
theorem fill_end_small (h : St b rd sa cap src e1 e2 s p w) (hij : s.i = s.j) (hp : p = src.length) (hj2 : s.j ≤ 2) :
    Calls Tryd.prog 37 #[.pointer (some ⟨b, 0, none⟩)] w fun e w' => e = .returned (.iface 175 (.pointer (some e1))) ∧
      ∃ s' p', Filled b rd sa cap src e1 e2 s p w s' p' w' ∧ s'.i = s'.j := by
  have hI := h.dec.cI
  rw [hij] at hI
  have hJ := h.dec.cJ
  have h0 := h.dec.cG 0 (by simp) (by decide)
  rw [h.iface] at h0
  have hf1 := h.dec.frozen 4101
  have hu1 := h.u1
  have hu2 := h.u2
  have H := Lib.hid h; clear h
  have HIJ := Lib.hid hij; clear hij
  have HP := Lib.hid hp; clear hp
  have hj4 : (s.j : Int) ≤ 4096 := by omega
  have hj5 : ¬ 4096 = s.j := by omega
  go_enter Tryd.func37, Tryd.ntmps37
  go_wp2
  go_quiet (fail)
  go_wp2
  go_region_with (go_at_call 62; refine (read_end rd _ sa src.length cap p _ e2 H.out.hlen (H.out.drewN _).rdr (H.out.drewN _).u2 HP.out).mono ?_; rintro e w1 ⟨rfl, nn, rfl⟩)
  all_goals go_wp2
  all_goals go_ret
  all_goals exact ⟨rfl, _, _, H.out.filled (n := 0) (s1 := s) HIJ.out (by omega) (by have := HP.out; omega) ((H.out.drewN _).dec.setJ (x := s.j + 0) (by omega)) ((H.out.drewN _).rdr.only ((Only.refl [b] _).setCell (by simp) _) (by simpa using fun e => H.out.ne e.symm)) (((Only.refl _ _).drewN _).setCell (by simp) _) (fun _ _ => rfl) (fun k u hk => by omega), HIJ.out⟩
end
end Go.Proofs.YtdjilplpbaackaaDoor
