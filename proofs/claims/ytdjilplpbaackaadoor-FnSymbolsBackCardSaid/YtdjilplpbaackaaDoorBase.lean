/-
  The decoder's block as a record of its fields, and what a store or a draw does to it; which blocks a call may have turned. No conditions.
-/
import Derived.Test.YtdjilplpbaackaaDoorRows
import Derived.WalkKit
import Derived.WalkSpells
import Derived.WalkLawsBesides
import Derived.Handy
import Derived.Deep.QuietTactic
import Derived.BigQuiet
import Derived.Lib.Hide
import Derived.StillTailTactics
import Derived.Deep.RegionWith
import Derived.Deep.RegionLaw
import Derived.Deep.RegionHeld3
import Derived.Deep.DeepCutAuto
import Derived.Deep.LoopGhost
import Derived.Deep.DeepFit
import Derived.Deep.DeepMust
import Derived.Laws.CopyRow
namespace Go.Proofs.YtdjilplpbaackaaDoor
open Go.RowKit

/-- The blocks that may have turned are those of S and new ones. -/
structure Only (S : List Nat) (w w' : World) : Prop where
  os : w'.os = w.os
  tape : w'.tape = w.tape
  output : w'.output = w.output
  size : w.heap.size ≤ w'.heap.size
  block : ∀ k, k < w.heap.size → k ∉ S → w'.heap[k]? = w.heap[k]?

namespace Only
theorem refl (S : List Nat) (w : World) : Only S w w := ⟨rfl, rfl, rfl, Nat.le_refl _, fun _ _ _ => rfl⟩
theorem trans {S : List Nat} {a b c : World} (h : Only S a b) (k : Only S b c) : Only S a c :=
  ⟨k.os.trans h.os, k.tape.trans h.tape, k.output.trans h.output, Nat.le_trans h.size k.size,
   fun i hi hs => (k.block i (Nat.lt_of_lt_of_le hi h.size) hs).trans (h.block i hi hs)⟩
theorem mono {S S' : List Nat} {w w' : World} (h : Only S w w') (hs : ∀ x, x ∈ S → x < w.heap.size → x ∈ S') : Only S' w w' :=
  ⟨h.os, h.tape, h.output, h.size, fun k hk hn => h.block k hk (fun hm => hn (hs k hm hk))⟩
theorem drewN {S : List Nat} {a w : World} (h : Only S a w) (n : Nat) : Only S a (w.drewN n) := ⟨h.os, h.tape, h.output, h.size, h.block⟩
theorem drew {S : List Nat} {a w : World} (h : Only S a w) : Only S a w.drew := ⟨h.os, h.tape, h.output, h.size, h.block⟩
theorem setCell {S : List Nat} {a w : World} (h : Only S a w) {p : Addr} (hp : p.block ∈ S ∨ a.heap.size ≤ p.block) (v : Value) : Only S a (w.setCell p v) :=
  ⟨h.os, h.tape, h.output, by rw [World.size_setCell]; exact h.size, fun k hk hn => by
    have hne : k ≠ p.block := fun e => hp.elim (fun hp => hn (e ▸ hp)) (fun hp => by omega)
    rw [Below.heap_setCell _ _ _ _ hne]; exact h.block k hk hn⟩
theorem alloc {S : List Nat} {a w : World} (h : Only S a w) (o : Obj) : Only S a (w.alloc o) :=
  ⟨h.os, h.tape, h.output, by rw [World.size_alloc]; have := h.size; omega, fun k hk hn => by
    rw [Below.heap_alloc _ _ _ (by have := h.size; omega)]; exact h.block k hk hn⟩
theorem setRow {S : List Nat} {a w : World} (h : Only S a w) {g : Nat} (hp : g ∈ S ∨ a.heap.size ≤ g) (cs : Array Value) : Only S a (w.setRow g cs) :=
  ⟨h.os, h.tape, h.output, by rw [size_setRow]; exact h.size, fun k hk hn => by
    have hne : k ≠ g := fun e => hp.elim (fun hp => hn (e ▸ hp)) (fun hp => by omega)
    rw [setRow_other w g k cs hne]; exact h.block k hk hn⟩
theorem grown {S : List Nat} {a w w' : World} {row : Option Nat} (h : Only S a w) (hg : w.grownBy w' row) (hr : ∀ k, row = some k → k ∈ S ∨ a.heap.size ≤ k) : Only S a w' :=
  ⟨hg.os.trans h.os, hg.tape.trans h.tape, hg.output.trans h.output, Nat.le_trans h.size hg.size, fun k hk hn => by
    have hne : some k ≠ row := fun e => (hr k e.symm).elim hn (fun hp => by omega)
    rw [hg.block k (by have := h.size; omega) hne]; exact h.block k hk hn⟩
theorem cell {S : List Nat} {w w' : World} (h : Only S w w') {p : Addr} (hp : p.block < w.heap.size) (hs : p.block ∉ S) : w'.cell? p = w.cell? p :=
  World.cell?_of_block (w := w) (h.block p.block hp hs)
theorem frozen {S : List Nat} {w w' : World} (h : Only S w w') {p : Addr} (hp : p.block < w.heap.size) (hs : p.block ∉ S) : w'.frozen? p = w.frozen? p :=
  World.frozen?_of_block (w := w) (h.block p.block hp hs)
theorem below {S : List Nat} {B : Nat} {w w' : World} (h : Only S w w') (hB : B ≤ w.heap.size) (hs : ∀ x, x ∈ S → B ≤ x) : Below B w w' :=
  ⟨h.os, h.tape, h.output, h.size, fun k hk => h.block k (by omega) (fun hm => by have := hs k hm; omega)⟩
/-- What the second step turns is in S or was new in the first. -/
theorem andThen {S S' : List Nat} {a b c : World} (h : Only S a b) (k : Only S' b c) (hs : ∀ x, x ∈ S' → x ∈ S ∨ a.heap.size ≤ x) : Only S a c :=
  ⟨k.os.trans h.os, k.tape.trans h.tape, k.output.trans h.output, Nat.le_trans h.size k.size, fun i hi hn => by
    have h1 : i ∉ S' := fun hm => (hs i hm).elim hn (fun hp => by omega)
    rw [k.block i (by have := h.size; omega) h1]; exact h.block i hi hn⟩
end Only

/-- The decoder's fields that the bit reader uses; g: every other cell of its block. -/
structure DS where
  a : Nat
  m : Nat
  n : Nat
  i : Nat
  j : Nat
  nu : Nat
  buf : Nat → Nat
  g : Nat → Value

/-- What cell k of the decoder's block holds. -/
def DS.at (s : DS) (k : Nat) : Value :=
  if k = 1 then .int .u32 s.a else if k = 2 then .int .u32 s.m else if k = 3 then .int .i32 s.n
  else if 4 ≤ k ∧ k < 4100 then .int .u8 (s.buf (k - 4))
  else if k = 4100 then .int .i64 s.i else if k = 4101 then .int .i64 s.j else if k = 4102 then .int .i64 s.nu
  else s.g k

/-- Block b is the decoder with these fields. -/
def DecS (b : Nat) (s : DS) (w : World) : Prop :=
  ∃ C : Array Value, w.heap[b]? = some (.cells C 100 (0, 0)) ∧ C.size = 9020 ∧ ∀ k, k < 9020 → C[k]? = some (s.at k)

namespace DecS
variable {b : Nat} {s : DS} {w : World}
theorem lt (h : DecS b s w) : b < w.heap.size := by
  obtain ⟨C, hC, _⟩ := h
  exact (Array.getElem?_eq_some_iff.1 hC).1
theorem cell (h : DecS b s w) (k : Nat) (hk : k < 9020) : w.cell? ⟨b, k, none⟩ = some (s.at k) := by
  obtain ⟨C, hC, _, hk'⟩ := h
  rw [cell_of_row w b k C 100 (0, 0) hC]; exact hk' k hk
theorem frozen (h : DecS b s w) (k : Nat) : w.frozen? ⟨b, k, none⟩ = false := by
  obtain ⟨C, hC, _⟩ := h
  exact frozen_of_row w b k C 100 hC
theorem cA (h : DecS b s w) : w.cell? ⟨b, 1, none⟩ = some (.int .u32 s.a) := h.cell 1 (by decide)
theorem cM (h : DecS b s w) : w.cell? ⟨b, 2, none⟩ = some (.int .u32 s.m) := h.cell 2 (by decide)
theorem cN (h : DecS b s w) : w.cell? ⟨b, 3, none⟩ = some (.int .i32 s.n) := h.cell 3 (by decide)
theorem cI (h : DecS b s w) : w.cell? ⟨b, 4100, none⟩ = some (.int .i64 s.i) := h.cell 4100 (by decide)
theorem cJ (h : DecS b s w) : w.cell? ⟨b, 4101, none⟩ = some (.int .i64 s.j) := h.cell 4101 (by decide)
theorem cU (h : DecS b s w) : w.cell? ⟨b, 4102, none⟩ = some (.int .i64 s.nu) := h.cell 4102 (by decide)
theorem cB (h : DecS b s w) (k : Nat) (hk : k < 4096) : w.cell? ⟨b, 4 + k, none⟩ = some (.int .u8 (s.buf k)) := by
  rw [h.cell (4 + k) (by omega)]
  unfold DS.at
  rw [if_neg (by omega), if_neg (by omega), if_neg (by omega), if_pos (by omega), Nat.add_sub_cancel_left]
theorem at_g (s : DS) (k : Nat) (hk : k = 0 ∨ 4103 ≤ k) : s.at k = s.g k := by
  unfold DS.at
  rw [if_neg (by omega), if_neg (by omega), if_neg (by omega), if_neg (by omega), if_neg (by omega), if_neg (by omega), if_neg (by omega)]
theorem cG (h : DecS b s w) (k : Nat) (hk : k = 0 ∨ 4103 ≤ k) (hk' : k < 9020) : w.cell? ⟨b, k, none⟩ = some (s.g k) := by
  rw [h.cell k hk', at_g s k hk]
theorem store (h : DecS b s w) {s' : DS} (o : Nat) (v : Value) (hs : ∀ k, k < 9020 → s'.at k = if k = o then v else s.at k) : DecS b s' (w.setCell ⟨b, o, none⟩ v) := by
  obtain ⟨C, hC, hn, hk'⟩ := h
  refine ⟨C.setIfInBounds o v, by rw [heap_setCell_same w b o C 100 v hC], by simpa using hn, fun k hk => ?_⟩
  rw [Array.getElem?_setIfInBounds, hs k hk]
  by_cases e : o = k
  · subst e; rw [if_pos rfl, if_pos rfl, if_pos (by omega)]
  · rw [if_neg e, if_neg (fun e' => e e'.symm)]; exact hk' k hk
theorem drewN (h : DecS b s w) (n : Nat) : DecS b s (w.drewN n) := h
theorem drew (h : DecS b s w) : DecS b s w.drew := h
theorem setA (h : DecS b s w) {v : Int} {x : Nat} (e : v = x) : DecS b { s with a := x } (w.setCell ⟨b, 1, none⟩ (.int .u32 v)) :=
  h.store 1 _ (fun k _ => by subst e; unfold DS.at; by_cases h1 : k = 1 <;> simp [h1])
theorem setM (h : DecS b s w) {v : Int} {x : Nat} (e : v = x) : DecS b { s with m := x } (w.setCell ⟨b, 2, none⟩ (.int .u32 v)) :=
  h.store 2 _ (fun k _ => by subst e; unfold DS.at; by_cases h1 : k = 2 <;> simp [h1])
theorem setN (h : DecS b s w) {v : Int} {x : Nat} (e : v = x) : DecS b { s with n := x } (w.setCell ⟨b, 3, none⟩ (.int .i32 v)) :=
  h.store 3 _ (fun k _ => by subst e; unfold DS.at; by_cases h1 : k = 3 <;> simp [h1])
theorem setI (h : DecS b s w) {v : Int} {x : Nat} (e : v = x) : DecS b { s with i := x } (w.setCell ⟨b, 4100, none⟩ (.int .i64 v)) :=
  h.store 4100 _ (fun k _ => by subst e; unfold DS.at; by_cases h1 : k = 4100 <;> simp [h1])
theorem setJ (h : DecS b s w) {v : Int} {x : Nat} (e : v = x) : DecS b { s with j := x } (w.setCell ⟨b, 4101, none⟩ (.int .i64 v)) :=
  h.store 4101 _ (fun k _ => by subst e; unfold DS.at; by_cases h1 : k = 4101 <;> simp [h1])
theorem setU (h : DecS b s w) {v : Int} {x : Nat} (e : v = x) : DecS b { s with nu := x } (w.setCell ⟨b, 4102, none⟩ (.int .i64 v)) :=
  h.store 4102 _ (fun k _ => by subst e; unfold DS.at; by_cases h1 : k = 4102 <;> simp [h1])
theorem setB (h : DecS b s w) {v : Int} {x o k : Nat} (e : v = x) (ho : o = 4 + k) (hk : k < 4096) :
    DecS b { s with buf := fun q => if q = k then x else s.buf q } (w.setCell ⟨b, o, none⟩ (.int .u8 v)) := by
  subst e; subst ho
  refine h.store (4 + k) _ (fun q _ => ?_)
  unfold DS.at
  by_cases h1 : q = 4 + k
  · subst h1
    rw [if_neg (by omega), if_neg (by omega), if_neg (by omega), if_pos (by omega), if_pos rfl]
    simp
  · by_cases h4 : 4 ≤ q ∧ q < 4100
    · have h5 : ¬ q - 4 = k := by omega
      simp [h1, h4, h5]
    · simp [h1, h4]
theorem setG (h : DecS b s w) {v : Value} {o : Nat} (ho : o = 0 ∨ 4103 ≤ o) :
    DecS b { s with g := fun q => if q = o then v else s.g q } (w.setCell ⟨b, o, none⟩ v) := by
  refine h.store o _ (fun q _ => ?_)
  by_cases h1 : q = o
  · subst h1; rw [if_pos rfl, at_g _ _ ho]; simp
  · rw [if_neg h1]; unfold DS.at; simp [h1]
theorem only (h : DecS b s w) {S : List Nat} {w' : World} (k : Only S w w') (hs : b ∉ S) : DecS b s w' := by
  have hl := h.lt
  obtain ⟨C, hC, r⟩ := h
  exact ⟨C, by rw [k.block b hl hs]; exact hC, r⟩
end DecS

/-- copy onto the decoder's own block, as one operation: the cells cs lie behind it from o on. -/
theorem run_copy_dec {P : Program} {b : Nat} {s s' : DS} {w : World} (h : DecS b s w) (dT sT ty elem : TypeId) (o dLen dCap : Nat) (sp : Option Addr) (sLen sCap : Nat) (cs : List Value)
    (hu : P.underlying dT = some (.slice elem)) (hs : (P.info? elem).map (·.size) = some 1) (hn : cs.length = Nat.min sLen dLen)
    (hsrc : 0 < cs.length → ∃ ad, sp = some ad ∧ ∀ j v, cs[j]? = some v → w.cell? (ad.add j) = some v) (hfit : o + cs.length ≤ 9020) (h1 : ∀ v ∈ cs, v.oneCell' = true)
    (hs' : ∀ k, k < 9020 → s'.at k = if o ≤ k ∧ k < o + cs.length then cs.getD (k - o) undef else s.at k) :
    ∃ w', (Builtin.copy_ #[dT, sT] ty #[.slice (some ⟨b, o, none⟩) dLen dCap, .slice sp sLen sCap]).run P w = .ok (goInt cs.length) w' ∧ DecS b s' w' ∧ Only [b] w w' := by
  obtain ⟨C, hC, hsz, hk⟩ := h
  by_cases h0 : cs.length = 0
  · refine ⟨w, ?_, ⟨C, hC, hsz, fun k hk' => ?_⟩, Only.refl _ _⟩
    · rw [run_copy_none (P := P) w dT sT ty elem (some ⟨b, o, none⟩) sp dLen dCap sLen sCap hu hs (by omega), h0]; rfl
    · rw [hk k hk', hs' k hk', if_neg (by omega)]
  · obtain ⟨ad, rfl, hsrc'⟩ := hsrc (by omega)
    refine ⟨_, run_copy_row (P := P) w dT sT ty elem b o dLen dCap ad sLen sCap C 100 cs hu hs hC hn hsrc' (by omega) h1, ⟨_, setRow_heap w b C _ 100 _ hC, ?_, fun k hk' => ?_⟩, (Only.refl _ _).setRow (by simp) _⟩
    · simp only [List.size_toArray, List.length_append, List.length_take, List.length_drop, Array.length_toList]; omega
    · rw [hs' k hk']
      have hl : (C.toList.take o).length = o := by simp; omega
      rw [List.getElem?_toArray, List.append_assoc]
      by_cases hko : k < o
      · rw [List.getElem?_append_left (by omega), if_neg (by omega), List.getElem?_take, if_pos hko, ← hk k hk', Array.getElem?_toList]
      · rw [List.getElem?_append_right (by omega), hl]
        by_cases hkc : k < o + cs.length
        · rw [List.getElem?_append_left (by omega), if_pos ⟨by omega, hkc⟩, List.getD_eq_getElem?_getD]
          rw [List.getElem?_eq_getElem (by omega)]; simp
        · rw [List.getElem?_append_right (by omega), if_neg (by omega), List.getElem?_drop, ← hk k hk', Array.getElem?_toList]
          congr 1; omega

theorem wpList_copy_dec {P : Program} {b : Nat} {s s' : DS} {w : World} (h : DecS b s w) {ops : Array Oper} {rest : List Oper} {op : Oper} {a : Act} {Q : Exit → Act → World → Prop} (hgd : op.guard = none) (d sc : Operand) (dT sT : TypeId)
    (ho : op.op = .call { callee := .builtin .copy, args := #[d, sc], argTypes := #[dT, sT] }) (elem : TypeId)
    (o dLen dCap : Nat) (sp : Option Addr) (sLen sCap : Nat) (cs : List Value)
    (hu : P.underlying dT = some (.slice elem)) (hs : (P.info? elem).map (·.size) = some 1) (hd : a.eval d = .slice (some ⟨b, o, none⟩) dLen dCap) (hsc : a.eval sc = .slice sp sLen sCap)
    (hn : cs.length = Nat.min sLen dLen)
    (hsrc : 0 < cs.length → ∃ ad, sp = some ad ∧ ∀ j v, cs[j]? = some v → w.cell? (ad.add j) = some v) (hfit : o + cs.length ≤ 9020) (h1 : ∀ v ∈ cs, v.oneCell' = true)
    (hs' : ∀ k, k < 9020 → s'.at k = if o ≤ k ∧ k < o + cs.length then cs.getD (k - o) undef else s.at k)
    (hK : ∀ w', DecS b s' w' → Only [b] w w' → wpList P ops Q rest (a.put op.dst (goInt cs.length)) w') : wpList P ops Q (op :: rest) a w := by
  refine wpList_plain hgd fun K hK' => ?_
  obtain ⟨w', hrun, hD, hO⟩ := run_copy_dec h dT sT op.type elem o dLen dCap sp sLen sCap cs hu hs hn hsrc hfit h1 hs'
  unfold Oper.wp
  simp [execOp, ho, resolve, invoke, builtin, hd, hsc, hrun, Result.andThen]
  exact hK' _ _ (hK w' hD hO)

/-- Two errors of one pointer type that are one pointer; of two types; of one string type. -/
theorem run_eql_ifaces {P : Program} (w : World) {ti tx ty : TypeId} {ms : Array (String × TypeId)} (x y : Value) (hi : P.underlying ti = some (.interface ms)) (hne : tx ≠ ty) :
    (binOp .eql ti (.iface tx x) (.iface ty y)).run P w = .ok (.bool false) w := by
  have h : ∀ d : Nat, (Op.equalIn (d + 1) ti (.iface tx x) (.iface ty y)).run P w = .ok false w := fun d => by simp [Op.equalIn, run_underlying hi, hne]
  simp only [binOp]
  simp [Op.equal, Op.maxDepth, h 9999]
theorem run_neq_iface_string {P : Program} (w : World) {ti tx : TypeId} {ms : Array (String × TypeId)} (x y : ByteArray) (hi : P.underlying ti = some (.interface ms)) (hc : (P.info? tx).map (·.comparable) = some true) (hx : P.underlying tx = some .string) :
    (binOp .neq ti (.iface tx (.string x)) (.iface tx (.string y))).run P w = .ok (.bool (!(x == y))) w := by
  cases hq : P.info? tx with
  | none => simp [hq] at hc
  | some i =>
    have hcc : i.comparable = true := by simpa [hq] using hc
    have h : ∀ d : Nat, (Op.equalIn (d + 2) ti (.iface tx (.string x)) (.iface tx (.string y))).run P w = .ok (x == y) w := fun d => by
      simp [Op.equalIn, run_underlying hi, run_underlying hx, typeInfo, hq, hcc]
    simp only [binOp]
    simp [Op.equal, Op.maxDepth, h 9998]
@[go_sem] theorem eql_err_same (a : Addr) (w : World) : (binOp .eql 65 (.iface 175 (.pointer (some a))) (.iface 175 (.pointer (some a)))).run Tryd.prog w = .ok (.bool true) w := by
  have h1 : (Tryd.prog.info? 175).map (·.comparable) = some true := by kernel_rfl
  have h2 : (Tryd.prog.info? 212).map (·.comparable) = some true := by kernel_rfl
  cases hi : Tryd.prog.info? 175 with
  | none => rw [hi] at h1; cases h1
  | some i =>
    cases hj : Tryd.prog.info? 212 with
    | none => rw [hj] at h2; cases h2
    | some j =>
      have hz : i.comparable = true := by rw [hi] at h1; exact Option.some.inj h1
      exact run_eql_iface_ptr_same w a Tryd.underlying65 Tryd.underlying175 hi hz hj
@[go_sem] theorem eql_err_fmt (x y : Value) (w : World) : (binOp .eql 65 (.iface 105 x) (.iface 175 y)).run Tryd.prog w = .ok (.bool false) w := run_eql_ifaces w x y Tryd.underlying65 (by decide)
@[go_sem] theorem neq_err_fmt (x y : ByteArray) (w : World) : (binOp .neq 65 (.iface 105 (.string x)) (.iface 105 (.string y))).run Tryd.prog w = .ok (.bool (!(x == y))) w := run_neq_iface_string w x y Tryd.underlying65 (by kernel_rfl) Tryd.underlying105
end Go.Proofs.YtdjilplpbaackaaDoor
