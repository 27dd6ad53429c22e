/-
  Seat b6604726aD: errors.As AT THE TARGET '**fs.PathError', Go's own text of errors.As and errors.as walked, after the guide's worked text (Derived/Test/ToyasAs.lean), turned to this program's numbers: 35: *fs.PathError, 49: **fs.PathError, 37: error, 107: reflectlite's rtype, 58: reflectlite.Value, 5: how many package-level variables the dump has.
-/
import Derived.Test.Qxb6604726aDoorProg
import Derived.WalkKit
import Derived.LaidEql
import Derived.Stop.Asserts
import Derived.RowKitTokens
namespace Go.Proofs.Qxb6604726aDoor
open Go.RowKit Go.Extern.Stop Go.Stop Go.Extern

/-- errors.As(nil, target). -/
theorem as_nil (t : Value) (w : World) :
    Calls Tryd.prog 18 #[.nilIface, t] w fun e w' => e = .returned (.bool false) ∧ w' = w := by
  go_enter Tryd.func18, Tryd.ntmps18
  go_wp2
  go_ret
  exact ⟨rfl, rfl⟩

/-! ### CLOSED FACTS ON THE MODEL's ENTRIES FOR internal/reflectlite, at this program's types -/
theorem Tryd.valueOf49 (t : Addr) (w : World) : (ReflectliteValue.unpack (.iface 49 (.pointer (some t)))).run Tryd.prog w
    = .ok (.agg #[.pointer (some ⟨5, 49, none⟩), .pointer (some ⟨w.heap.size, 0, none⟩), .int .u64 150]) (w.alloc (.cells #[.pointer (some t)] 49)) := by kernel_rfl
theorem Tryd.type49 (a : Addr) (w : World) : (ReflectliteValue.methodAny (ReflectliteValue.valueError "reflectlite.Value.Type" 0) (fun t _ _ _ => ReflectliteType.toType t) #[.agg #[.pointer (some ⟨5, 49, none⟩), .pointer (some a), .int .u64 150]]).run Tryd.prog w
    = .ok (.iface 107 (.agg #[.pointer (some ⟨5, 49, none⟩)])) w := by kernel_rfl
theorem Tryd.methodKind (h : Value) (w : World) : (Go.method 305 107 (.agg #[h]) "Kind").run Tryd.prog w = .ok (63, h) w := by kernel_rfl
theorem Tryd.kind49 (w : World) : ((ReflectliteType.abiMethod fun t => (fun a : Nat => Value.int IntKind.u8 (a : Int)) <$> Rtype.kind t) #[.pointer (some ⟨5, 49, none⟩)]).run Tryd.prog w = .ok (.int .u8 22) w := by kernel_rfl
theorem Tryd.kind35 (w : World) : ((ReflectliteType.abiMethod fun t => (fun a : Nat => Value.int IntKind.u8 (a : Int)) <$> Rtype.kind t) #[.pointer (some ⟨5, 35, none⟩)]).run Tryd.prog w = .ok (.int .u8 22) w := by kernel_rfl

/-! ### THE ENTRIES THAT READ OR WRITE MEMORY: laws with a premise on the cell -/
theorem rlm (z : Sem Value) (f : TypeId → Addr → Nat → Nat → Sem Value) (v : Value) :
    ReflectliteValue.method z f #[v] = (do match ← ReflectliteValue.parts v with | none => z | some (t, a, fl) => f t a fl (fl % 32)) := rfl
theorem Tryd.parts49 (a : Addr) (w : World) : (ReflectliteValue.parts (.agg #[.pointer (some ⟨5, 49, none⟩), .pointer (some a), .int .u64 150])).run Tryd.prog w = .ok (some (49, a, 150)) w := by kernel_rfl
/-- (Value).IsNil at the Value of a **fs.PathError that is not nil. -/
theorem Tryd.isNil49 (a p : Addr) (W : World) (ha : W.cell? a = some (.pointer (some p))) :
    (ReflectliteValue.method (ReflectliteValue.valueError "reflectlite.Value.IsNil" 0) ReflectliteValue.isNil #[.agg #[.pointer (some ⟨5, 49, none⟩), .pointer (some a), .int .u64 150]]).run Tryd.prog W = .ok (.bool false) W := by
  rw [rlm]
  simp only [Sem.run_bind, Tryd.parts49, Result.andThen]
  simp [ReflectliteValue.isNil, loadVar, isAgg, underlying, Tryd.underlying49, ha, Result.andThen]

theorem Tryd.methodElem (h : Value) (w : World) : (Go.method 305 107 (.agg #[h]) "Elem").run Tryd.prog w = .ok (78, .agg #[h]) w := by kernel_rfl
theorem Tryd.methodImplements (h : Value) (w : World) : (Go.method 305 107 (.agg #[h]) "Implements").run Tryd.prog w = .ok (79, .agg #[h]) w := by kernel_rfl
theorem Tryd.methodAssignableTo (h : Value) (w : World) : (Go.method 305 107 (.agg #[h]) "AssignableTo").run Tryd.prog w = .ok (76, .agg #[h]) w := by kernel_rfl
theorem Tryd.elem49 (w : World) : (ReflectliteType.method ReflectliteType.elem #[.agg #[.pointer (some ⟨5, 49, none⟩)]]).run Tryd.prog w = .ok (.iface 107 (.agg #[.pointer (some ⟨5, 35, none⟩)])) w := by kernel_rfl
theorem Tryd.implements35 (w : World) : (ReflectliteType.relation "Implements" ReflectliteType.implements_ #[.agg #[.pointer (some ⟨5, 35, none⟩)], .iface 107 (.agg #[.pointer (some ⟨5, 37, none⟩)])]).run Tryd.prog w = .ok (.bool true) w := by kernel_rfl
theorem Tryd.typeOf35 (v : Value) (w : World) : (ReflectliteType.typeOf #[.iface 35 v]).run Tryd.prog w = .ok (.iface 107 (.agg #[.pointer (some ⟨5, 35, none⟩)])) w := by kernel_rfl
theorem Tryd.assignable35 (w : World) : (ReflectliteType.relation "AssignableTo" ReflectliteType.assignableTo #[.agg #[.pointer (some ⟨5, 35, none⟩)], .iface 107 (.agg #[.pointer (some ⟨5, 35, none⟩)])]).run Tryd.prog w = .ok (.bool true) w := by kernel_rfl
theorem Tryd.valueOf35 (e : Addr) (w : World) : (ReflectliteValue.unpack (.iface 35 (.pointer (some e)))).run Tryd.prog w
    = .ok (.agg #[.pointer (some ⟨5, 35, none⟩), .pointer (some ⟨w.heap.size, 0, none⟩), .int .u64 150]) (w.alloc (.cells #[.pointer (some e)] 35)) := by kernel_rfl

theorem Tryd.elemOf49 (w : World) : (Rtype.elem? 49).run Tryd.prog w = .ok (some 35) w := by kernel_rfl
theorem Tryd.mk35 (p : Addr) (w : World) : (ReflectliteValue.mk 35 p ReflectliteValue.flagAddr).run Tryd.prog w = .ok (.agg #[.pointer (some ⟨5, 35, none⟩), .pointer (some p), .int .u64 406]) w := by kernel_rfl
/-- (Value).Elem at the Value of a **fs.PathError that is not nil: the Value of the *fs.PathError variable that it points to, addressable. -/
theorem Tryd.elemV49 (a p : Addr) (W : World) (ha : W.cell? a = some (.pointer (some p))) :
    (ReflectliteValue.method (ReflectliteValue.valueError "reflectlite.Value.Elem" 0) ReflectliteValue.elem #[.agg #[.pointer (some ⟨5, 49, none⟩), .pointer (some a), .int .u64 150]]).run Tryd.prog W
      = .ok (.agg #[.pointer (some ⟨5, 35, none⟩), .pointer (some p), .int .u64 406]) W := by
  rw [rlm]
  simp only [Sem.run_bind, Tryd.parts49, Result.andThen]
  simp [ReflectliteValue.elem, loadVar, isAgg, underlying, Tryd.underlying49, ha, Result.andThen, Tryd.elemOf49, Tryd.mk35]
/-- (Value).Set on two Values: what it does where neither is the zero Value and the types are one; the other ways stay unsaid. -/
theorem rls (v x : Value) : ∃ (z1 : Sem Value) (z2 : Sem PUnit) (z3 : TypeId → TypeId → Addr → Value → Sem Value), ReflectliteValue.set #[v, x] = (do
    let (some (dst, a, fl), some (src, b, _)) := (← ReflectliteValue.parts v, ← ReflectliteValue.parts x)
      | z1
    if fl / ReflectliteValue.flagAddr % 2 == 0 then z2
    let val ← loadVar src b
    if ← Rtype.directlyAssignable dst src then do
      storeVar dst a val
      pure (.tuple #[])
    else z3 dst src a val) := ⟨_, _, _, rfl⟩
theorem Tryd.parts35a (a : Addr) (w : World) : (ReflectliteValue.parts (.agg #[.pointer (some ⟨5, 35, none⟩), .pointer (some a), .int .u64 406])).run Tryd.prog w = .ok (some (35, a, 406)) w := by kernel_rfl
theorem Tryd.parts35 (a : Addr) (w : World) : (ReflectliteValue.parts (.agg #[.pointer (some ⟨5, 35, none⟩), .pointer (some a), .int .u64 150])).run Tryd.prog w = .ok (some (35, a, 150)) w := by kernel_rfl
theorem Tryd.direct35 (w : World) : (Rtype.directlyAssignable 35 35).run Tryd.prog w = .ok true w := by kernel_rfl
theorem Tryd.size35 (w : World) : (sizeOf 35).run Tryd.prog w = .ok 1 w := by kernel_rfl
/-- (Value).Set: the *fs.PathError variable at 'ta' gets what the Value's own variable 'b' holds. -/
theorem Tryd.set35 (ta b e : Addr) (old : Value) (W : World) (hb : W.cell? b = some (.pointer (some e))) (ht : W.cell? ta = some old) (hf : W.frozen? ta = false) :
    (ReflectliteValue.set #[.agg #[.pointer (some ⟨5, 35, none⟩), .pointer (some ta), .int .u64 406], .agg #[.pointer (some ⟨5, 35, none⟩), .pointer (some b), .int .u64 150]]).run Tryd.prog W
      = .ok (.tuple #[]) (W.setCell ta (.pointer (some e))) := by
  obtain ⟨z1, z2, z3, e⟩ := rls (.agg #[.pointer (some ⟨5, 35, none⟩), .pointer (some ta), .int .u64 406]) (.agg #[.pointer (some ⟨5, 35, none⟩), .pointer (some b), .int .u64 150])
  rw [e]
  simp only [Sem.run_bind, Tryd.parts35a, Tryd.parts35, Result.andThen]
  simp [ReflectliteValue.flagAddr, loadVar, isAgg, underlying, Tryd.underlying35, hb, Result.andThen, Tryd.direct35, storeVar, Value.cells, storeCells, Addr.add]
  rw [run_store Tryd.prog W ta _ _ (by rfl)]
  simp [ht, hf]

set_option maxHeartbeats 4000000 in
theorem as_hit (e t : Addr) (old : Value) (w : World) (hg : w.cell? ⟨0, 0, none⟩ = some (.iface 107 (.agg #[.pointer (some ⟨5, 37, none⟩)]))) (ht0 : w.cell? t = some old) (hf0 : w.frozen? t = false) :
    Calls Tryd.prog 18 #[.iface 35 (.pointer (some e)), .iface 49 (.pointer (some t))] w fun ev w' => ev = .returned (.bool true) ∧ w' = ((((w.alloc (.cells #[.pointer (some t)] 49)).alloc (.cells #[.pointer (some ⟨5, 49, none⟩), .pointer (some ⟨w.heap.size, 0, none⟩), .int .u64 150] 58)).alloc (.cells #[.pointer (some ⟨5, 49, none⟩), .pointer (some ⟨w.heap.size, 0, none⟩), .int .u64 150] 58)).alloc (.cells #[.pointer (some e)] 35)).setCell t (.pointer (some e)) := by
  have h6 := @run_callFunc_extern Tryd.prog 24 _ (fun args => ReflectliteValue.unpack (args.getD 0 (.tuple #[]))) Tryd.func24 (by kernel_rfl) (by kernel_rfl) (by kernel_rfl) (by kernel_rfl)
  have h7 := @run_callFunc_extern Tryd.prog 25 _ (ReflectliteValue.methodAny (ReflectliteValue.valueError "reflectlite.Value.Type" 0) (fun t _ _ _ => ReflectliteType.toType t)) Tryd.func25 (by kernel_rfl) (by kernel_rfl) (by kernel_rfl) (by kernel_rfl)
  have h8 := @run_callFunc_extern Tryd.prog 26 _ (ReflectliteValue.method (ReflectliteValue.valueError "reflectlite.Value.IsNil" 0) ReflectliteValue.isNil) Tryd.func26 (by kernel_rfl) (by kernel_rfl) (by kernel_rfl) (by kernel_rfl)
  have h27 := @run_callFunc_extern Tryd.prog 63 _ (ReflectliteType.abiMethod fun t => do pure (.int .u8 (← Rtype.kind t))) Tryd.func63 (by kernel_rfl) (by kernel_rfl) (by kernel_rfl) (by kernel_rfl)
  have h37 := @run_callFunc_extern Tryd.prog 78 _ (ReflectliteType.method ReflectliteType.elem) Tryd.func78 (by kernel_rfl) (by kernel_rfl) (by kernel_rfl) (by kernel_rfl)
  have h38 := @run_callFunc_extern Tryd.prog 79 _ (ReflectliteType.relation "Implements" ReflectliteType.implements_) Tryd.func79 (by kernel_rfl) (by kernel_rfl) (by kernel_rfl) (by kernel_rfl)
  have h10 := @run_callFunc_extern Tryd.prog 36 _ ReflectliteType.typeOf Tryd.func36 (by kernel_rfl) (by kernel_rfl) (by kernel_rfl) (by kernel_rfl)
  have h35 := @run_callFunc_extern Tryd.prog 76 _ (ReflectliteType.relation "AssignableTo" ReflectliteType.assignableTo) Tryd.func76 (by kernel_rfl) (by kernel_rfl) (by kernel_rfl) (by kernel_rfl)
  have h11 := @run_callFunc_extern Tryd.prog 37 _ (ReflectliteValue.method (ReflectliteValue.valueError "reflectlite.Value.Elem" 0) ReflectliteValue.elem) Tryd.func37 (by kernel_rfl) (by kernel_rfl) (by kernel_rfl) (by kernel_rfl)
  have h12 := @run_callFunc_extern Tryd.prog 38 _ ReflectliteValue.set Tryd.func38 (by kernel_rfl) (by kernel_rfl) (by kernel_rfl) (by kernel_rfl)
  have tO := Tryd.typeOf35
  have mA := Tryd.methodAssignableTo
  have a25 := Tryd.assignable35
  have v25 := Tryd.valueOf35
  have f6 := Tryd.valueOf49
  have f7 := Tryd.type49
  have mK := Tryd.methodKind
  have mE := Tryd.methodElem
  have mI := Tryd.methodImplements
  have k27 := Tryd.kind49
  have k25 := Tryd.kind35
  have e27 := Tryd.elem49
  have i25 := Tryd.implements35
  have n8 := Tryd.isNil49 ⟨w.heap.size, 0, none⟩ t ((w.alloc (.cells #[.pointer (some t)] 49)).alloc (.cells #[.pointer (some ⟨5, 49, none⟩), .pointer (some ⟨w.heap.size, 0, none⟩), .int .u64 150] 58)) (by simp)
  have hlt : 0 < w.heap.size := by
    rcases Nat.eq_zero_or_pos w.heap.size with h0 | h
    · simp [World.cell?, h0] at hg
    · exact h
  have hg2 : ((w.alloc (.cells #[.pointer (some t)] 49)).alloc (.cells #[.pointer (some ⟨5, 49, none⟩), .pointer (some ⟨w.heap.size, 0, none⟩), .int .u64 150] 58)).cell? ⟨0, 0, none⟩ = some (.iface 107 (.agg #[.pointer (some ⟨5, 37, none⟩)])) := by
    rw [World.cell?_alloc_lt _ _ ⟨0, 0, none⟩ (by simp), World.cell?_alloc_lt _ _ ⟨0, 0, none⟩ hlt]; exact hg
  have htl : t.block < w.heap.size := by
    rcases Nat.lt_or_ge t.block w.heap.size with h | h
    · exact h
    · simp [World.cell?, Array.getElem?_eq_none h] at ht0
  have el := Tryd.elemV49 ⟨w.heap.size, 0, none⟩ t (((w.alloc (.cells #[.pointer (some t)] 49)).alloc (.cells #[.pointer (some ⟨5, 49, none⟩), .pointer (some ⟨w.heap.size, 0, none⟩), .int .u64 150] 58)).alloc (.cells #[.pointer (some ⟨5, 49, none⟩), .pointer (some ⟨w.heap.size, 0, none⟩), .int .u64 150] 58)) (by rw [World.cell?_alloc_lt _ _ ⟨w.heap.size, 0, none⟩ (by simp; omega)]; simp)
  have st := Tryd.set35 t ⟨w.heap.size + 1 + 1 + 1, 0, none⟩ e old ((((w.alloc (.cells #[.pointer (some t)] 49)).alloc (.cells #[.pointer (some ⟨5, 49, none⟩), .pointer (some ⟨w.heap.size, 0, none⟩), .int .u64 150] 58)).alloc (.cells #[.pointer (some ⟨5, 49, none⟩), .pointer (some ⟨w.heap.size, 0, none⟩), .int .u64 150] 58)).alloc (.cells #[.pointer (some e)] 35))
    (by rw [World.cell?_alloc_at _ _ _ _ (by simp)]; rfl)
    (by rw [World.cell?_alloc_lt _ _ t (by simp; omega), World.cell?_alloc_lt _ _ t (by simp; omega), World.cell?_alloc_lt _ _ t (by simp; omega), World.cell?_alloc_lt _ _ t htl]; exact ht0)
    (by rw [World.frozen?_alloc_old _ _ t (by simp; omega), World.frozen?_alloc_old _ _ t (by simp; omega), World.frozen?_alloc_old _ _ t (by simp; omega), World.frozen?_alloc_old _ _ t (Nat.ne_of_lt htl)]; exact hf0)
  go_enter Tryd.func18, Tryd.ntmps18
  go_wp2
  refine wp_loop_rounds 1 ?_
  rw [rounds_succ]
  go_wp2
  go_ret
  exact ⟨rfl, rfl⟩
end Go.Proofs.Qxb6604726aDoor
