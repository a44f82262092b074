/-
  The code of an error: errors.Is and errors.As at the errors that decoding gives. Conditions: errors.errorType holds its handle. After Derived/Test/ToyasAs.lean and Derived/Test/SentryIs.lean.
-/
import Derived.Test.YtdjilplpbaackaaDoorBase
import Derived.LaidEql
import Derived.Stop.Asserts
import Derived.RowKitTokens
namespace Go.Proofs.YtdjilplpbaackaaDoor
open Go.RowKit Go.Extern.Stop Go.Stop Go.Extern

theorem ty_of109 (v : Value) (w : World) : (ReflectliteType.typeOf #[.iface 109 v]).run Tryd.prog w = .ok (.iface 158 (.agg #[.pointer (some ⟨4, 109, none⟩)])) w := by kernel_rfl
theorem ty_cmp109 (w : World) : ((ReflectliteType.method fun t => do Rtype.noPackHeld "Comparable" t; (fun a => Value.bool a.comparable) <$> typeInfo t) #[.agg #[.pointer (some ⟨4, 109, none⟩)]]).run Tryd.prog w = .ok (.bool true) w := by kernel_rfl
theorem mt_cmp (v : Value) (w : World) : (Go.method 323 158 v "Comparable").run Tryd.prog w = .ok (84, v) w := by kernel_rfl
theorem no_is105 (v : Value) (xT : TypeId) (w : World) : (Instr.typeAssert (.iface 105 v) xT 160 true).run Tryd.prog w = .ok (.tuple #[.nilIface, .bool false]) w := run_typeAssert_lacksB Tryd.underlying160 (by kernel_rfl) (by kernel_rfl) v xT w
theorem no_unwrap105 (v : Value) (xT : TypeId) (w : World) : (Instr.typeAssert (.iface 105 v) xT 163 true).run Tryd.prog w = .ok (.tuple #[.nilIface, .bool false]) w := run_typeAssert_lacksB Tryd.underlying163 (by kernel_rfl) (by kernel_rfl) v xT w
theorem no_unwraps105 (v : Value) (xT : TypeId) (w : World) : (Instr.typeAssert (.iface 105 v) xT 164 true).run Tryd.prog w = .ok (.tuple #[.nilIface, .bool false]) w := run_typeAssert_lacksB Tryd.underlying164 (by kernel_rfl) (by kernel_rfl) v xT w

set_option maxRecDepth 100000 in
/-- errors.Is of a FormatError at a target of another type. -/
theorem is_fmt (s v : Value) (w : World) : Calls Tryd.prog 22 #[.iface 105 s, .iface 109 v] w fun e w' => e = .returned (.bool false) ∧ w' = w := by
  have h8 := @run_callFunc_extern Tryd.prog 30 _ ReflectliteType.typeOf Tryd.func30 (by kernel_rfl) (by kernel_rfl) (by kernel_rfl) (by kernel_rfl)
  have h32 := @run_callFunc_extern Tryd.prog 84 _ (ReflectliteType.method fun t => do Rtype.noPackHeld "Comparable" t; pure (.bool (← typeInfo t).comparable)) Tryd.func84 (by kernel_rfl) (by kernel_rfl) (by kernel_rfl) (by kernel_rfl)
  have tT := ty_of109
  have cT := ty_cmp109
  have mR := mt_cmp
  have nE := no_is105
  have uE := no_unwrap105
  have vE := no_unwraps105
  have heq := run_eql_ifaces (P := Tryd.prog) w (tx := 105) (ty := 109) s v Tryd.underlying65 (by decide)
  go_enter Tryd.func22, Tryd.ntmps22
  go_wp2
  refine wp_loop_rounds 1 ?_
  rw [rounds_succ]
  go_wp2
  go_ret
  exact ⟨rfl, rfl⟩

theorem vo_111 (t : Addr) (w : World) : (ReflectliteValue.unpack (.iface 111 (.pointer (some t)))).run Tryd.prog w
    = .ok (.agg #[.pointer (some ⟨4, 111, none⟩), .pointer (some ⟨w.heap.size, 0, none⟩), .int .u64 150]) (w.alloc (.cells #[.pointer (some t)] 111)) := by kernel_rfl
theorem vt_111 (a : Addr) (w : World) : (ReflectliteValue.methodAny (ReflectliteValue.valueError "reflectlite.Value.Type" 0) (fun t _ _ _ => ReflectliteType.toType t) #[.agg #[.pointer (some ⟨4, 111, none⟩), .pointer (some a), .int .u64 150]]).run Tryd.prog w
    = .ok (.iface 158 (.agg #[.pointer (some ⟨4, 111, none⟩)])) w := by kernel_rfl
theorem mt_kind (h : Value) (w : World) : (Go.method 323 158 (.agg #[h]) "Kind").run Tryd.prog w = .ok (56, h) w := by kernel_rfl
theorem kd_111 (w : World) : ((ReflectliteType.abiMethod fun t => (fun a : Nat => Value.int IntKind.u8 (a : Int)) <$> Rtype.kind t) #[.pointer (some ⟨4, 111, none⟩)]).run Tryd.prog w = .ok (.int .u8 22) w := by kernel_rfl
theorem kd_105 (w : World) : ((ReflectliteType.abiMethod fun t => (fun a : Nat => Value.int IntKind.u8 (a : Int)) <$> Rtype.kind t) #[.pointer (some ⟨4, 105, none⟩)]).run Tryd.prog w = .ok (.int .u8 24) w := by kernel_rfl
theorem rlm (z : Sem Value) (f : TypeId → Addr → Nat → Nat → Sem Value) (v : Value) :
    ReflectliteValue.method z f #[v] = (do match ← ReflectliteValue.parts v with | none => z | some (t, a, fl) => f t a fl (fl % 32)) := rfl
theorem pt_111 (a : Addr) (w : World) : (ReflectliteValue.parts (.agg #[.pointer (some ⟨4, 111, none⟩), .pointer (some a), .int .u64 150])).run Tryd.prog w = .ok (some (111, a, 150)) w := by kernel_rfl
theorem nil_111 (a p : Addr) (W : World) (ha : W.cell? a = some (.pointer (some p))) :
    (ReflectliteValue.method (ReflectliteValue.valueError "reflectlite.Value.IsNil" 0) ReflectliteValue.isNil #[.agg #[.pointer (some ⟨4, 111, none⟩), .pointer (some a), .int .u64 150]]).run Tryd.prog W = .ok (.bool false) W := by
  rw [rlm]
  simp only [Sem.run_bind, pt_111, Result.andThen]
  simp [ReflectliteValue.isNil, loadVar, isAgg, underlying, Tryd.underlying111, ha, Result.andThen]
theorem mt_elem (h : Value) (w : World) : (Go.method 323 158 (.agg #[h]) "Elem").run Tryd.prog w = .ok (85, .agg #[h]) w := by kernel_rfl
theorem mt_impl (h : Value) (w : World) : (Go.method 323 158 (.agg #[h]) "Implements").run Tryd.prog w = .ok (86, .agg #[h]) w := by kernel_rfl
theorem mt_asg (h : Value) (w : World) : (Go.method 323 158 (.agg #[h]) "AssignableTo").run Tryd.prog w = .ok (83, .agg #[h]) w := by kernel_rfl
theorem el_111 (w : World) : (ReflectliteType.method ReflectliteType.elem #[.agg #[.pointer (some ⟨4, 111, none⟩)]]).run Tryd.prog w = .ok (.iface 158 (.agg #[.pointer (some ⟨4, 105, none⟩)])) w := by kernel_rfl
theorem im_105 (w : World) : (ReflectliteType.relation "Implements" ReflectliteType.implements_ #[.agg #[.pointer (some ⟨4, 105, none⟩)], .iface 158 (.agg #[.pointer (some ⟨4, 65, none⟩)])]).run Tryd.prog w = .ok (.bool true) w := by kernel_rfl
theorem to_105 (v : Value) (w : World) : (ReflectliteType.typeOf #[.iface 105 v]).run Tryd.prog w = .ok (.iface 158 (.agg #[.pointer (some ⟨4, 105, none⟩)])) w := by kernel_rfl
theorem as_105 (w : World) : (ReflectliteType.relation "AssignableTo" ReflectliteType.assignableTo #[.agg #[.pointer (some ⟨4, 105, none⟩)], .iface 158 (.agg #[.pointer (some ⟨4, 105, none⟩)])]).run Tryd.prog w = .ok (.bool true) w := by kernel_rfl
theorem vo_105 (s : ByteArray) (w : World) : (ReflectliteValue.unpack (.iface 105 (.string s))).run Tryd.prog w
    = .ok (.agg #[.pointer (some ⟨4, 105, none⟩), .pointer (some ⟨w.heap.size, 0, none⟩), .int .u64 152]) (w.alloc (.cells #[.string s] 105)) := by kernel_rfl
theorem eo_111 (w : World) : (Rtype.elem? 111).run Tryd.prog w = .ok (some 105) w := by kernel_rfl
theorem mk_105 (p : Addr) (w : World) : (ReflectliteValue.mk 105 p ReflectliteValue.flagAddr).run Tryd.prog w = .ok (.agg #[.pointer (some ⟨4, 105, none⟩), .pointer (some p), .int .u64 408]) w := by kernel_rfl
theorem ve_111 (a p : Addr) (W : World) (ha : W.cell? a = some (.pointer (some p))) :
    (ReflectliteValue.method (ReflectliteValue.valueError "reflectlite.Value.Elem" 0) ReflectliteValue.elem #[.agg #[.pointer (some ⟨4, 111, none⟩), .pointer (some a), .int .u64 150]]).run Tryd.prog W
      = .ok (.agg #[.pointer (some ⟨4, 105, none⟩), .pointer (some p), .int .u64 408]) W := by
  rw [rlm]
  simp only [Sem.run_bind, pt_111, Result.andThen]
  simp [ReflectliteValue.elem, loadVar, isAgg, underlying, Tryd.underlying111, ha, Result.andThen, eo_111, mk_105]
theorem rls (v x : Value) : ReflectliteValue.set #[v, x] = (do
    let (some (dst, a, fl), some (src, b, _)) := (← ReflectliteValue.parts v, ← ReflectliteValue.parts x)
      | unsupported (.noEntry "extern/(internal/reflectlite.Value).Set.zeroValue")
    if fl / ReflectliteValue.flagAddr % 2 == 0 then unsupported (.noEntry "extern/(internal/reflectlite.Value).Set.unaddressable")
    let val ← loadVar src b
    if ← Rtype.directlyAssignable dst src then storeVar dst a val
    else if ← Rtype.implements dst src then
      if (← Rtype.kind src) == 20 then
        match val with
        | .nilIface => unsupported (.noEntry "extern/reflectlite: a nil value of one interface type handed on as a value of another")
        | _ => storeVar dst a val
      else storeVar dst a (.iface src val)
    else panicString ("reflectlite.Set: value of type " ++ (← Rtype.spelt src) ++ " is not assignable to type " ++ (← Rtype.spelt dst))
    pure (.tuple #[])) := rfl
theorem pt_105a (a : Addr) (w : World) : (ReflectliteValue.parts (.agg #[.pointer (some ⟨4, 105, none⟩), .pointer (some a), .int .u64 408])).run Tryd.prog w = .ok (some (105, a, 408)) w := by kernel_rfl
theorem pt_105 (a : Addr) (w : World) : (ReflectliteValue.parts (.agg #[.pointer (some ⟨4, 105, none⟩), .pointer (some a), .int .u64 152])).run Tryd.prog w = .ok (some (105, a, 152)) w := by kernel_rfl
theorem da_105 (w : World) : (Rtype.directlyAssignable 105 105).run Tryd.prog w = .ok true w := by kernel_rfl
theorem set_105 (ta b : Addr) (s : ByteArray) (old : Value) (W : World) (hb : W.cell? b = some (.string s)) (ht : W.cell? ta = some old) (hf : W.frozen? ta = false) :
    (ReflectliteValue.set #[.agg #[.pointer (some ⟨4, 105, none⟩), .pointer (some ta), .int .u64 408], .agg #[.pointer (some ⟨4, 105, none⟩), .pointer (some b), .int .u64 152]]).run Tryd.prog W
      = .ok (.tuple #[]) (W.setCell ta (.string s)) := by
  rw [rls]
  simp only [Sem.run_bind, pt_105a, pt_105, Result.andThen]
  simp [ReflectliteValue.flagAddr, loadVar, isAgg, underlying, Tryd.underlying105, hb, Result.andThen, da_105, storeVar, Value.cells, storeCells, Addr.add]
  rw [run_store Tryd.prog W ta _ _ (by rfl)]
  simp [ht, hf]

set_option maxRecDepth 100000 in
set_option maxHeartbeats 4000000 in
/-- errors.As of a FormatError at a variable of that type. -/
theorem as_fmt (s : ByteArray) (t : Addr) (old : Value) (w : World) (hg : w.cell? ⟨0, 0, none⟩ = some (.iface 158 (.agg #[.pointer (some ⟨4, 65, none⟩)]))) (ht0 : w.cell? t = some old) (hf0 : w.frozen? t = false) :
    Calls Tryd.prog 23 #[.iface 105 (.string s), .iface 111 (.pointer (some t))] w fun ev w' => ev = .returned (.bool true) ∧ Only [t.block] w w' := by
  have h6 := @run_callFunc_extern Tryd.prog 32 _ (fun args => ReflectliteValue.unpack (args.getD 0 (.tuple #[]))) Tryd.func32 (by kernel_rfl) (by kernel_rfl) (by kernel_rfl) (by kernel_rfl)
  have h7 := @run_callFunc_extern Tryd.prog 33 _ (ReflectliteValue.methodAny (ReflectliteValue.valueError "reflectlite.Value.Type" 0) (fun t _ _ _ => ReflectliteType.toType t)) Tryd.func33 (by kernel_rfl) (by kernel_rfl) (by kernel_rfl) (by kernel_rfl)
  have h8 := @run_callFunc_extern Tryd.prog 34 _ (ReflectliteValue.method (ReflectliteValue.valueError "reflectlite.Value.IsNil" 0) ReflectliteValue.isNil) Tryd.func34 (by kernel_rfl) (by kernel_rfl) (by kernel_rfl) (by kernel_rfl)
  have h27 := @run_callFunc_extern Tryd.prog 56 _ (ReflectliteType.abiMethod fun t => do pure (.int .u8 (← Rtype.kind t))) Tryd.func56 (by kernel_rfl) (by kernel_rfl) (by kernel_rfl) (by kernel_rfl)
  have h37 := @run_callFunc_extern Tryd.prog 85 _ (ReflectliteType.method ReflectliteType.elem) Tryd.func85 (by kernel_rfl) (by kernel_rfl) (by kernel_rfl) (by kernel_rfl)
  have h38 := @run_callFunc_extern Tryd.prog 86 _ (ReflectliteType.relation "Implements" ReflectliteType.implements_) Tryd.func86 (by kernel_rfl) (by kernel_rfl) (by kernel_rfl) (by kernel_rfl)
  have h10 := @run_callFunc_extern Tryd.prog 30 _ ReflectliteType.typeOf Tryd.func30 (by kernel_rfl) (by kernel_rfl) (by kernel_rfl) (by kernel_rfl)
  have h35 := @run_callFunc_extern Tryd.prog 83 _ (ReflectliteType.relation "AssignableTo" ReflectliteType.assignableTo) Tryd.func83 (by kernel_rfl) (by kernel_rfl) (by kernel_rfl) (by kernel_rfl)
  have h11 := @run_callFunc_extern Tryd.prog 39 _ (ReflectliteValue.method (ReflectliteValue.valueError "reflectlite.Value.Elem" 0) ReflectliteValue.elem) Tryd.func39 (by kernel_rfl) (by kernel_rfl) (by kernel_rfl) (by kernel_rfl)
  have h12 := @run_callFunc_extern Tryd.prog 40 _ ReflectliteValue.set Tryd.func40 (by kernel_rfl) (by kernel_rfl) (by kernel_rfl) (by kernel_rfl)
  have tO := to_105
  have mA := mt_asg
  have a25 := as_105
  have v25 := vo_105
  have f6 := vo_111
  have f7 := vt_111
  have mK := mt_kind
  have mE := mt_elem
  have mI := mt_impl
  have k27 := kd_111
  have k25 := kd_105
  have e27 := el_111
  have i25 := im_105
  have n8 := nil_111 ⟨w.heap.size, 0, none⟩ t ((w.alloc (.cells #[.pointer (some t)] 111)).alloc (.cells #[.pointer (some ⟨4, 111, none⟩), .pointer (some ⟨w.heap.size, 0, none⟩), .int .u64 150] 145)) (by simp)
  have hlt : 0 < w.heap.size := by
    rcases Nat.eq_zero_or_pos w.heap.size with h0 | h
    · simp [World.cell?, h0] at hg
    · exact h
  have hg2 : ((w.alloc (.cells #[.pointer (some t)] 111)).alloc (.cells #[.pointer (some ⟨4, 111, none⟩), .pointer (some ⟨w.heap.size, 0, none⟩), .int .u64 150] 145)).cell? ⟨0, 0, none⟩ = some (.iface 158 (.agg #[.pointer (some ⟨4, 65, none⟩)])) := by
    rw [World.cell?_alloc_lt _ _ ⟨0, 0, none⟩ (by simp), World.cell?_alloc_lt _ _ ⟨0, 0, none⟩ hlt]; exact hg
  have htl : t.block < w.heap.size := World.block_lt_of_cell? _ _ ht0
  have el := ve_111 ⟨w.heap.size, 0, none⟩ t (((w.alloc (.cells #[.pointer (some t)] 111)).alloc (.cells #[.pointer (some ⟨4, 111, none⟩), .pointer (some ⟨w.heap.size, 0, none⟩), .int .u64 150] 145)).alloc (.cells #[.pointer (some ⟨4, 111, none⟩), .pointer (some ⟨w.heap.size, 0, none⟩), .int .u64 150] 145)) (by rw [World.cell?_alloc_lt _ _ ⟨w.heap.size, 0, none⟩ (by simp; omega)]; simp)
  have st := set_105 t ⟨w.heap.size + 1 + 1 + 1, 0, none⟩ s old ((((w.alloc (.cells #[.pointer (some t)] 111)).alloc (.cells #[.pointer (some ⟨4, 111, none⟩), .pointer (some ⟨w.heap.size, 0, none⟩), .int .u64 150] 145)).alloc (.cells #[.pointer (some ⟨4, 111, none⟩), .pointer (some ⟨w.heap.size, 0, none⟩), .int .u64 150] 145)).alloc (.cells #[.string s] 105))
    (by rw [World.cell?_alloc_at _ _ _ _ (by simp)]; rfl)
    (by rw [World.cell?_alloc_lt _ _ t (by simp; omega), World.cell?_alloc_lt _ _ t (by simp; omega), World.cell?_alloc_lt _ _ t (by simp; omega), World.cell?_alloc_lt _ _ t htl]; exact ht0)
    (by rw [World.frozen?_alloc_old _ _ t (by simp; omega), World.frozen?_alloc_old _ _ t (by simp; omega), World.frozen?_alloc_old _ _ t (by simp; omega), World.frozen?_alloc_old _ _ t (Nat.ne_of_lt htl)]; exact hf0)
  go_enter Tryd.func23, Tryd.ntmps23
  go_wp2
  refine wp_loop_rounds 1 ?_
  rw [rounds_succ]
  go_wp2
  go_ret
  exact ⟨rfl, by repeat (first | exact Only.refl _ _ | refine Only.alloc ?_ _ | refine Only.setCell ?_ (by simp) _)⟩

set_option maxRecDepth 100000 in
theorem code_nil (w : World) : Calls Tryd.prog 15 #[.nilIface] w fun e w' => e = .returned (.int .i64 0) ∧ Only [] w w' := by
  go_enter Tryd.func15, Tryd.ntmps15
  go_wp2
  go_ret
  exact ⟨rfl, by repeat (first | exact Only.refl _ _ | refine Only.alloc ?_ _)⟩

set_option maxRecDepth 100000 in
set_option maxHeartbeats 4000000 in
theorem code_fmt (s : ByteArray) (w : World) (hg : w.cell? ⟨0, 0, none⟩ = some (.iface 158 (.agg #[.pointer (some ⟨4, 65, none⟩)]))) : Calls Tryd.prog 15 #[.iface 105 (.string s)] w fun e w' => e = .returned (.int .i64 1) ∧ Only [] w w' := by
  have hlt : 0 < w.heap.size := World.block_lt_of_cell? _ _ hg
  have hn := run_eql_iface_nil_left (P := Tryd.prog) w 105 (.string s) Tryd.underlying65
  have g1 : ((w.alloc (Obj.cells #[Value.string { data := #[] }] 105)).alloc (Obj.cells #[Value.string { data := #[] }] 106)).cell? { block := 0, off := 0 } = some (Value.iface 158 (Value.agg #[Value.pointer (some { block := 4, off := 65 })])) := by
    rw [World.cell?_alloc_lt _ _ ⟨0, 0, none⟩ (by simp), World.cell?_alloc_lt _ _ ⟨0, 0, none⟩ hlt]; exact hg
  have g2 : ((w.alloc (Obj.cells #[Value.string { data := #[] }] 105)).alloc (Obj.cells #[Value.string { data := #[] }] 106)).cell? { block := w.heap.size, off := 0 } = some (.string ⟨#[]⟩) := by
    rw [World.cell?_alloc_lt _ _ ⟨w.heap.size, 0, none⟩ (by simp)]; simp
  have g3 : ((w.alloc (Obj.cells #[Value.string { data := #[] }] 105)).alloc (Obj.cells #[Value.string { data := #[] }] 106)).frozen? { block := w.heap.size, off := 0 } = false := by
    rw [World.frozen?_alloc_old _ _ ⟨w.heap.size, 0, none⟩ (by simp)]; simp
  have G1 := Lib.hid g1; clear g1
  have G2 := Lib.hid g2; clear g2
  have G3 := Lib.hid g3; clear g3
  go_enter Tryd.func15, Tryd.ntmps15
  go_wp2_with (first
    | (go_at_call 22; refine (is_fmt _ _ _).mono ?_; rintro e w1 ⟨rfl, rfl⟩)
    | (go_at_call 23; refine (as_fmt s ⟨w.heap.size, 0, none⟩ (.string ⟨#[]⟩) _ G1.out G2.out G3.out).mono ?_; rintro e w2 ⟨rfl, hO⟩))
  go_ret
  exact ⟨rfl, (((Only.refl [] w).alloc _).alloc _).andThen hO (by simp)⟩
end Go.Proofs.YtdjilplpbaackaaDoor
