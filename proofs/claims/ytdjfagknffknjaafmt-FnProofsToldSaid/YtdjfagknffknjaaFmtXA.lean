/- errors.As at the program's own error type and fmt.Errorf at its one format, by their contracts; conditions: the variable errors.errorType reads as it is laid. -/
import Derived.Test.YtdjfagknffknjaaFmtProg
import Derived.WalkKit
import Derived.LaidEql
import Derived.Stop.Asserts
import Derived.RowKitTokens
import Derived.Laws.Rows
import Derived.Laws.Tables
import Derived.Laws.NewBlocks
import Derived.Stop.CallBack
import Derived.Stop.IfaceNil
import GoSem.ClaimData

section
namespace Go.Proofs.YtdjfagknffknjaaFmt.As
open Go.RowKit Go.Extern.Stop Go.Stop Go.Extern
/-- what the variable errors.errorType holds -/
abbrev errVal : Value := .iface 134 (.agg #[.pointer (some ⟨2, 65, none⟩)])
theorem valueOf86 (t : Addr) (w : World) : (ReflectliteValue.unpack (.iface 86 (.pointer (some t)))).run Tryf.prog w
    = .ok (.agg #[.pointer (some ⟨2, 86, none⟩), .pointer (some ⟨w.heap.size, 0, none⟩), .int .u64 150]) (w.alloc (.cells #[.pointer (some t)] 86)) := by kernel_rfl
theorem type86 (a : Addr) (w : World) : (ReflectliteValue.methodAny (ReflectliteValue.valueError "reflectlite.Value.Type" 0) (fun t _ _ _ => ReflectliteType.toType t) #[.agg #[.pointer (some ⟨2, 86, none⟩), .pointer (some a), .int .u64 150]]).run Tryf.prog w
    = .ok (.iface 134 (.agg #[.pointer (some ⟨2, 86, none⟩)])) w := by kernel_rfl
theorem methodKind (h : Value) (w : World) : (Go.method 279 134 (.agg #[h]) "Kind").run Tryf.prog w = .ok (89, h) w := by kernel_rfl
theorem kind86 (w : World) : ((ReflectliteType.abiMethod fun t => (fun a : Nat => Value.int IntKind.u8 (a : Int)) <$> Rtype.kind t) #[.pointer (some ⟨2, 86, none⟩)]).run Tryf.prog w = .ok (.int .u8 22) w := by kernel_rfl
theorem kind84 (w : World) : ((ReflectliteType.abiMethod fun t => (fun a : Nat => Value.int IntKind.u8 (a : Int)) <$> Rtype.kind t) #[.pointer (some ⟨2, 84, none⟩)]).run Tryf.prog w = .ok (.int .u8 25) w := by kernel_rfl
theorem rlm (z : Sem Value) (f : TypeId → Addr → Nat → Nat → Sem Value) (v : Value) :
    ReflectliteValue.method z f #[v] = (do match ← ReflectliteValue.parts v with | none => z | some (t, a, fl) => f t a fl (fl % 32)) := rfl
theorem parts86 (a : Addr) (w : World) : (ReflectliteValue.parts (.agg #[.pointer (some ⟨2, 86, none⟩), .pointer (some a), .int .u64 150])).run Tryf.prog w = .ok (some (86, a, 150)) w := by kernel_rfl
theorem isNil86 (a p : Addr) (W : World) (ha : W.cell? a = some (.pointer (some p))) :
    (ReflectliteValue.method (ReflectliteValue.valueError "reflectlite.Value.IsNil" 0) ReflectliteValue.isNil #[.agg #[.pointer (some ⟨2, 86, none⟩), .pointer (some a), .int .u64 150]]).run Tryf.prog W = .ok (.bool false) W := by
  rw [rlm]
  simp only [Sem.run_bind, parts86, Result.andThen]
  simp [ReflectliteValue.isNil, loadVar, isAgg, underlying, Tryf.underlying86, ha, Result.andThen]
theorem methodElem (h : Value) (w : World) : (Go.method 279 134 (.agg #[h]) "Elem").run Tryf.prog w = .ok (103, .agg #[h]) w := by kernel_rfl
theorem methodImplements (h : Value) (w : World) : (Go.method 279 134 (.agg #[h]) "Implements").run Tryf.prog w = .ok (104, .agg #[h]) w := by kernel_rfl
theorem methodAssignableTo (h : Value) (w : World) : (Go.method 279 134 (.agg #[h]) "AssignableTo").run Tryf.prog w = .ok (101, .agg #[h]) w := by kernel_rfl
theorem elem86 (w : World) : (ReflectliteType.method ReflectliteType.elem #[.agg #[.pointer (some ⟨2, 86, none⟩)]]).run Tryf.prog w = .ok (.iface 134 (.agg #[.pointer (some ⟨2, 84, none⟩)])) w := by kernel_rfl
theorem implements84 (w : World) : (ReflectliteType.relation "Implements" ReflectliteType.implements_ #[.agg #[.pointer (some ⟨2, 84, none⟩)], errVal]).run Tryf.prog w = .ok (.bool true) w := by kernel_rfl
theorem typeOf84 (v : Value) (w : World) : (ReflectliteType.typeOf #[.iface 84 v]).run Tryf.prog w = .ok (.iface 134 (.agg #[.pointer (some ⟨2, 84, none⟩)])) w := by kernel_rfl
theorem typeOf130 (v : Value) (w : World) : (ReflectliteType.typeOf #[.iface 130 v]).run Tryf.prog w = .ok (.iface 134 (.agg #[.pointer (some ⟨2, 130, none⟩)])) w := by kernel_rfl
theorem assignable84 (w : World) : (ReflectliteType.relation "AssignableTo" ReflectliteType.assignableTo #[.agg #[.pointer (some ⟨2, 84, none⟩)], .iface 134 (.agg #[.pointer (some ⟨2, 84, none⟩)])]).run Tryf.prog w = .ok (.bool true) w := by kernel_rfl
theorem assignable130 (w : World) : (ReflectliteType.relation "AssignableTo" ReflectliteType.assignableTo #[.agg #[.pointer (some ⟨2, 130, none⟩)], .iface 134 (.agg #[.pointer (some ⟨2, 84, none⟩)])]).run Tryf.prog w = .ok (.bool false) w := by kernel_rfl
theorem valueOf84 (x y : Value) (w : World) : (ReflectliteValue.unpack (.iface 84 (.agg #[x, y]))).run Tryf.prog w
    = .ok (.agg #[.pointer (some ⟨2, 84, none⟩), .pointer (some ⟨w.heap.size, 0, none⟩), .int .u64 153]) (w.alloc (.cells #[x, y] 84)) := by kernel_rfl
theorem elemOf86 (w : World) : (Rtype.elem? 86).run Tryf.prog w = .ok (some 84) w := by kernel_rfl
theorem mk84 (p : Addr) (w : World) : (ReflectliteValue.mk 84 p ReflectliteValue.flagAddr).run Tryf.prog w = .ok (.agg #[.pointer (some ⟨2, 84, none⟩), .pointer (some p), .int .u64 409]) w := by kernel_rfl
end Go.Proofs.YtdjfagknffknjaaFmt.As
end

section
namespace Go.Proofs.YtdjfagknffknjaaFmt.As
open Go.RowKit Go.Extern.Stop Go.Stop Go.Extern
theorem elemV86 (a p : Addr) (W : World) (ha : W.cell? a = some (.pointer (some p))) :
    (ReflectliteValue.method (ReflectliteValue.valueError "reflectlite.Value.Elem" 0) ReflectliteValue.elem #[.agg #[.pointer (some ⟨2, 86, none⟩), .pointer (some a), .int .u64 150]]).run Tryf.prog W
      = .ok (.agg #[.pointer (some ⟨2, 84, none⟩), .pointer (some p), .int .u64 409]) W := by
  rw [rlm]
  simp only [Sem.run_bind, parts86, Result.andThen]
  simp [ReflectliteValue.elem, loadVar, isAgg, underlying, Tryf.underlying86, ha, Result.andThen, elemOf86, mk84]
theorem rls (v x : Value) : ReflectliteValue.set #[v, x] = (do
    let (some (dst, a, fl), some (src, b, _)) := (← ReflectliteValue.parts v, ← ReflectliteValue.parts x)
      | unsupported (.noEntry "extern/(internal/reflectlite.Value).Set.zeroValue")
    if fl / ReflectliteValue.flagAddr % 2 == 0 then unsupported (.noEntry "extern/(internal/reflectlite.Value).Set.unaddressable")
    let val ← loadVar src b
    if ← Rtype.directlyAssignable dst src then storeVar dst a val
    else if ← Rtype.implements dst src then
      if (← Rtype.kind src) == 20 then
        match val with
        | .nilIface => unsupported (.noEntry "extern/reflectlite: a nil value of one interface type handed on as a value of another")
        | _ => storeVar dst a val
      else storeVar dst a (.iface src val)
    else panicString ("reflectlite.Set: value of type " ++ (← Rtype.spelt src) ++ " is not assignable to type " ++ (← Rtype.spelt dst))
    pure (.tuple #[])) := rfl
theorem parts84a (a : Addr) (w : World) : (ReflectliteValue.parts (.agg #[.pointer (some ⟨2, 84, none⟩), .pointer (some a), .int .u64 409])).run Tryf.prog w = .ok (some (84, a, 409)) w := by kernel_rfl
theorem parts84 (a : Addr) (w : World) : (ReflectliteValue.parts (.agg #[.pointer (some ⟨2, 84, none⟩), .pointer (some a), .int .u64 153])).run Tryf.prog w = .ok (some (84, a, 153)) w := by kernel_rfl
theorem direct84 (w : World) : (Rtype.directlyAssignable 84 84).run Tryf.prog w = .ok true w := by kernel_rfl
theorem set84 (t b : Nat) (x y ox oy : Value) (W : World) (hx : W.heap[b]? = some (.cells #[x, y] 84 (0, 0)))
    (ht : W.heap[t]? = some (.cells #[ox, oy] 84 (0, 0))) (h1 : x.oneCell' = true) (h2 : y.oneCell' = true) :
    (ReflectliteValue.set #[.agg #[.pointer (some ⟨2, 84, none⟩), .pointer (some ⟨t, 0, none⟩), .int .u64 409], .agg #[.pointer (some ⟨2, 84, none⟩), .pointer (some ⟨b, 0, none⟩), .int .u64 153]]).run Tryf.prog W
      = .ok (.tuple #[]) (W.setRow t #[x, y]) := by
  rw [rls]
  have hl := run_loadVar_row (P := Tryf.prog) W b 84 84 #[x, y] (0, 0) _ hx Tryf.underlying84 rfl (by kernel_rfl)
  have hs := run_storeVar_row (P := Tryf.prog) W t 84 84 #[ox, oy] #[x, y] ht (by kernel_rfl) rfl (by simp [h1, h2])
  simp only [Sem.run_bind, parts84a, parts84, Result.andThen]
  simp [ReflectliteValue.flagAddr, hl, Result.andThen, direct84, hs]
theorem setRow_below {B : Nat} {w W : World} (h : Below B w W) (t : Nat) (cs : Array Value) (ht : B ≤ t) : Below B w (W.setRow t cs) :=
  h.trans ⟨rfl, rfl, rfl, by simp [World.setRow], fun k hk => by
    simp only [World.setRow, Array.getElem?_modify]
    rw [if_neg (by omega)]⟩
set_option maxHeartbeats 4000000 in
theorem as_hit (x y ox oy : Value) (t : Nat) (w : World) (hg : w.cell? ⟨0, 0, none⟩ = some errVal) (ht : w.heap[t]? = some (.cells #[ox, oy] 84 (0, 0)))
    (hx1 : x.oneCell' = true) (hy1 : y.oneCell' = true) :
    Calls Tryf.prog 39 #[.iface 84 (.agg #[x, y]), .iface 86 (.pointer (some ⟨t, 0, none⟩))] w fun ev w' => ev = .returned (.bool true) ∧ w' = ((((w.alloc (.cells #[.pointer (some ⟨t, 0, none⟩)] 86)).alloc (.cells #[.pointer (some ⟨2, 86, none⟩), .pointer (some ⟨w.heap.size, 0, none⟩), .int .u64 150] 109)).alloc (.cells #[.pointer (some ⟨2, 86, none⟩), .pointer (some ⟨w.heap.size, 0, none⟩), .int .u64 150] 109)).alloc (.cells #[x, y] 84)).setRow t #[x, y] := by
  have h55 := @run_callFunc_extern Tryf.prog 55 _ (fun args => ReflectliteValue.unpack (args.getD 0 (.tuple #[]))) Tryf.func55 (by kernel_rfl) (by kernel_rfl) (by kernel_rfl) (by kernel_rfl)
  have h56 := @run_callFunc_extern Tryf.prog 56 _ (ReflectliteValue.methodAny (ReflectliteValue.valueError "reflectlite.Value.Type" 0) (fun t _ _ _ => ReflectliteType.toType t)) Tryf.func56 (by kernel_rfl) (by kernel_rfl) (by kernel_rfl) (by kernel_rfl)
  have h57 := @run_callFunc_extern Tryf.prog 57 _ (ReflectliteValue.method (ReflectliteValue.valueError "reflectlite.Value.IsNil" 0) ReflectliteValue.isNil) Tryf.func57 (by kernel_rfl) (by kernel_rfl) (by kernel_rfl) (by kernel_rfl)
  have h89 := @run_callFunc_extern Tryf.prog 89 _ (ReflectliteType.abiMethod fun t => do pure (.int .u8 (← Rtype.kind t))) Tryf.func89 (by kernel_rfl) (by kernel_rfl) (by kernel_rfl) (by kernel_rfl)
  have h103 := @run_callFunc_extern Tryf.prog 103 _ (ReflectliteType.method ReflectliteType.elem) Tryf.func103 (by kernel_rfl) (by kernel_rfl) (by kernel_rfl) (by kernel_rfl)
  have h104 := @run_callFunc_extern Tryf.prog 104 _ (ReflectliteType.relation "Implements" ReflectliteType.implements_) Tryf.func104 (by kernel_rfl) (by kernel_rfl) (by kernel_rfl) (by kernel_rfl)
  have h71 := @run_callFunc_extern Tryf.prog 71 _ ReflectliteType.typeOf Tryf.func71 (by kernel_rfl) (by kernel_rfl) (by kernel_rfl) (by kernel_rfl)
  have h101 := @run_callFunc_extern Tryf.prog 101 _ (ReflectliteType.relation "AssignableTo" ReflectliteType.assignableTo) Tryf.func101 (by kernel_rfl) (by kernel_rfl) (by kernel_rfl) (by kernel_rfl)
  have h72 := @run_callFunc_extern Tryf.prog 72 _ (ReflectliteValue.method (ReflectliteValue.valueError "reflectlite.Value.Elem" 0) ReflectliteValue.elem) Tryf.func72 (by kernel_rfl) (by kernel_rfl) (by kernel_rfl) (by kernel_rfl)
  have h73 := @run_callFunc_extern Tryf.prog 73 _ ReflectliteValue.set Tryf.func73 (by kernel_rfl) (by kernel_rfl) (by kernel_rfl) (by kernel_rfl)
  have tO := typeOf84
  have mA := methodAssignableTo
  have a25 := assignable84
  have v25 := valueOf84
  have f6 := valueOf86
  have f7 := type86
  have mK := methodKind
  have mE := methodElem
  have mI := methodImplements
  have k27 := kind86
  have k25 := kind84
  have e27 := elem86
  have i25 := implements84
  have n8 := isNil86 ⟨w.heap.size, 0, none⟩ ⟨t, 0, none⟩ ((w.alloc (.cells #[.pointer (some ⟨t, 0, none⟩)] 86)).alloc (.cells #[.pointer (some ⟨2, 86, none⟩), .pointer (some ⟨w.heap.size, 0, none⟩), .int .u64 150] 109)) (by simp)
  have hlt : 0 < w.heap.size := by
    rcases Nat.eq_zero_or_pos w.heap.size with h0 | h
    · simp [World.cell?, h0] at hg
    · exact h
  have hg2 : ((w.alloc (.cells #[.pointer (some ⟨t, 0, none⟩)] 86)).alloc (.cells #[.pointer (some ⟨2, 86, none⟩), .pointer (some ⟨w.heap.size, 0, none⟩), .int .u64 150] 109)).cell? ⟨0, 0, none⟩ = some errVal := by
    rw [World.cell?_alloc_lt _ _ ⟨0, 0, none⟩ (by simp), World.cell?_alloc_lt _ _ ⟨0, 0, none⟩ hlt]; exact hg
  have htl : t < w.heap.size := (Array.getElem?_eq_some_iff.1 ht).1
  have el := elemV86 ⟨w.heap.size, 0, none⟩ ⟨t, 0, none⟩ (((w.alloc (.cells #[.pointer (some ⟨t, 0, none⟩)] 86)).alloc (.cells #[.pointer (some ⟨2, 86, none⟩), .pointer (some ⟨w.heap.size, 0, none⟩), .int .u64 150] 109)).alloc (.cells #[.pointer (some ⟨2, 86, none⟩), .pointer (some ⟨w.heap.size, 0, none⟩), .int .u64 150] 109)) (by rw [World.cell?_alloc_lt _ _ ⟨w.heap.size, 0, none⟩ (by simp; omega)]; simp)
  have st := set84 t (w.heap.size + 1 + 1 + 1) x y ox oy ((((w.alloc (.cells #[.pointer (some ⟨t, 0, none⟩)] 86)).alloc (.cells #[.pointer (some ⟨2, 86, none⟩), .pointer (some ⟨w.heap.size, 0, none⟩), .int .u64 150] 109)).alloc (.cells #[.pointer (some ⟨2, 86, none⟩), .pointer (some ⟨w.heap.size, 0, none⟩), .int .u64 150] 109)).alloc (.cells #[x, y] 84))
    (by have := heap_alloc_new (((w.alloc (.cells #[.pointer (some ⟨t, 0, none⟩)] 86)).alloc (.cells #[.pointer (some ⟨2, 86, none⟩), .pointer (some ⟨w.heap.size, 0, none⟩), .int .u64 150] 109)).alloc (.cells #[.pointer (some ⟨2, 86, none⟩), .pointer (some ⟨w.heap.size, 0, none⟩), .int .u64 150] 109)) (.cells #[x, y] 84); simpa using this)
    (by rw [Below.heap_alloc _ _ _ (by simp; omega), Below.heap_alloc _ _ _ (by simp; omega), Below.heap_alloc _ _ _ (by simp; omega), Below.heap_alloc _ _ _ htl]; exact ht) hx1 hy1
  clear ht
  go_enter Tryf.func39, Tryf.ntmps39
  go_wp2
  refine wp_loop_rounds 1 ?_
  rw [rounds_succ]
  go_wp2
  go_ret
  exact ⟨rfl, rfl⟩
end Go.Proofs.YtdjfagknffknjaaFmt.As
end

section
namespace Go.Proofs.YtdjfagknffknjaaFmt.As
open Go.RowKit Go.Extern.Stop Go.Stop Go.Extern
theorem noAs (v : Value) (xT : TypeId) (w : World) : (Instr.typeAssert (.iface 130 v) xT 139 true).run Tryf.prog w = .ok (.tuple #[.nilIface, .bool false]) w := run_typeAssert_lacksB Tryf.underlying139 (by kernel_rfl) (by kernel_rfl) v xT w
theorem noUnwrap (v : Value) (xT : TypeId) (w : World) : (Instr.typeAssert (.iface 130 v) xT 142 true).run Tryf.prog w = .ok (.tuple #[.nilIface, .bool false]) w := run_typeAssert_lacksB Tryf.underlying142 (by kernel_rfl) (by kernel_rfl) v xT w
theorem noUnwraps (v : Value) (xT : TypeId) (w : World) : (Instr.typeAssert (.iface 130 v) xT 144 true).run Tryf.prog w = .ok (.tuple #[.nilIface, .bool false]) w := run_typeAssert_lacksB Tryf.underlying144 (by kernel_rfl) (by kernel_rfl) v xT w
set_option maxHeartbeats 4000000 in
theorem as_miss (v : Value) (t : Nat) (w : World) (hg : w.cell? ⟨0, 0, none⟩ = some errVal) :
    Calls Tryf.prog 39 #[.iface 130 v, .iface 86 (.pointer (some ⟨t, 0, none⟩))] w fun ev w' => ev = .returned (.bool false) ∧ w' = ((w.alloc (.cells #[.pointer (some ⟨t, 0, none⟩)] 86)).alloc (.cells #[.pointer (some ⟨2, 86, none⟩), .pointer (some ⟨w.heap.size, 0, none⟩), .int .u64 150] 109)).alloc (.cells #[.pointer (some ⟨2, 86, none⟩), .pointer (some ⟨w.heap.size, 0, none⟩), .int .u64 150] 109) := by
  have h55 := @run_callFunc_extern Tryf.prog 55 _ (fun args => ReflectliteValue.unpack (args.getD 0 (.tuple #[]))) Tryf.func55 (by kernel_rfl) (by kernel_rfl) (by kernel_rfl) (by kernel_rfl)
  have h56 := @run_callFunc_extern Tryf.prog 56 _ (ReflectliteValue.methodAny (ReflectliteValue.valueError "reflectlite.Value.Type" 0) (fun t _ _ _ => ReflectliteType.toType t)) Tryf.func56 (by kernel_rfl) (by kernel_rfl) (by kernel_rfl) (by kernel_rfl)
  have h57 := @run_callFunc_extern Tryf.prog 57 _ (ReflectliteValue.method (ReflectliteValue.valueError "reflectlite.Value.IsNil" 0) ReflectliteValue.isNil) Tryf.func57 (by kernel_rfl) (by kernel_rfl) (by kernel_rfl) (by kernel_rfl)
  have h89 := @run_callFunc_extern Tryf.prog 89 _ (ReflectliteType.abiMethod fun t => do pure (.int .u8 (← Rtype.kind t))) Tryf.func89 (by kernel_rfl) (by kernel_rfl) (by kernel_rfl) (by kernel_rfl)
  have h103 := @run_callFunc_extern Tryf.prog 103 _ (ReflectliteType.method ReflectliteType.elem) Tryf.func103 (by kernel_rfl) (by kernel_rfl) (by kernel_rfl) (by kernel_rfl)
  have h104 := @run_callFunc_extern Tryf.prog 104 _ (ReflectliteType.relation "Implements" ReflectliteType.implements_) Tryf.func104 (by kernel_rfl) (by kernel_rfl) (by kernel_rfl) (by kernel_rfl)
  have h71 := @run_callFunc_extern Tryf.prog 71 _ ReflectliteType.typeOf Tryf.func71 (by kernel_rfl) (by kernel_rfl) (by kernel_rfl) (by kernel_rfl)
  have h101 := @run_callFunc_extern Tryf.prog 101 _ (ReflectliteType.relation "AssignableTo" ReflectliteType.assignableTo) Tryf.func101 (by kernel_rfl) (by kernel_rfl) (by kernel_rfl) (by kernel_rfl)
  have tO := typeOf130
  have mA := methodAssignableTo
  have a25 := assignable130
  have f6 := valueOf86
  have f7 := type86
  have mK := methodKind
  have mE := methodElem
  have mI := methodImplements
  have k27 := kind86
  have k25 := kind84
  have e27 := elem86
  have i25 := implements84
  have nA := noAs
  have nU := noUnwrap
  have nV := noUnwraps
  have n8 := isNil86 ⟨w.heap.size, 0, none⟩ ⟨t, 0, none⟩ ((w.alloc (.cells #[.pointer (some ⟨t, 0, none⟩)] 86)).alloc (.cells #[.pointer (some ⟨2, 86, none⟩), .pointer (some ⟨w.heap.size, 0, none⟩), .int .u64 150] 109)) (by simp)
  have hlt : 0 < w.heap.size := by
    rcases Nat.eq_zero_or_pos w.heap.size with h0 | h
    · simp [World.cell?, h0] at hg
    · exact h
  have hg2 : ((w.alloc (.cells #[.pointer (some ⟨t, 0, none⟩)] 86)).alloc (.cells #[.pointer (some ⟨2, 86, none⟩), .pointer (some ⟨w.heap.size, 0, none⟩), .int .u64 150] 109)).cell? ⟨0, 0, none⟩ = some errVal := by
    rw [World.cell?_alloc_lt _ _ ⟨0, 0, none⟩ (by simp), World.cell?_alloc_lt _ _ ⟨0, 0, none⟩ hlt]; exact hg
  go_enter Tryf.func39, Tryf.ntmps39
  go_wp2
  refine wp_loop_rounds 1 ?_
  rw [rounds_succ]
  go_wp2
  go_ret
  exact ⟨rfl, rfl⟩
/-- errors.New -/
theorem new_any (s : ByteArray) (w : World) : Calls Tryf.prog 50 #[.string s] w fun e w' => e = .returned (.iface 130 (.pointer (some ⟨w.heap.size, 0, none⟩))) ∧ Below w.heap.size w w' := by
  go_enter Tryf.func50, Tryf.ntmps50
  go_wp2
  go_ret
  exact ⟨rfl, (Below.refl _ _).alloc (Nat.le_refl _) _⟩
/-- What an error is: none, a mismatch of roots, another one. -/
inductive IsErr : Value → Nat → Prop where
  | nil : IsErr .nilIface 0
  | mismatch (x y : Value) (hx : x.oneCell' = true) (hy : y.oneCell' = true) : IsErr (.iface 84 (.agg #[x, y])) 1
  | other (v : Value) : IsErr (.iface 130 v) 2
theorem faultOf_any (v : Value) (n : Nat) (w : World) (hv : IsErr v n) (hg : w.cell? ⟨0, 0, none⟩ = some errVal) :
    Calls Tryf.prog 27 #[v] w fun e w' => e = .returned (.int .i64 n) ∧ Below w.heap.size w w' := by
  have hlt : 0 < w.heap.size := by
    rcases Nat.eq_zero_or_pos w.heap.size with h0 | h
    · simp [World.cell?, h0] at hg
    · exact h
  have hb0 := (Below.refl w.heap.size w).alloc (Nat.le_refl _) (.cells #[.slice none 0 0, .slice none 0 0] 84)
  have hg2 : (w.alloc (.cells #[.slice none 0 0, .slice none 0 0] 84)).cell? ⟨0, 0, none⟩ = some errVal := by
    rw [World.cell?_alloc_lt _ _ ⟨0, 0, none⟩ hlt]; exact hg
  have hn := heap_alloc_new w (.cells #[.slice none 0 0, .slice none 0 0] 84)
  cases hv with
  | nil =>
    go_enter Tryf.func27, Tryf.ntmps27
    go_wp2
    go_ret
    exact ⟨rfl, (Below.refl _ _).alloc (Nat.le_refl _) _⟩
  | mismatch x y hx hy =>
    have C := as_hit x y _ _ _ _ hg2 hn hx hy
    clear hn hg2 hg
    go_enter Tryf.func27, Tryf.ntmps27
    go_wp2_with (go_at_call 39; refine C.mono ?_; rintro e w' ⟨rfl, rfl⟩)
    go_ret
    refine ⟨rfl, ?_⟩
    exact setRow_below ((((hb0.alloc hb0.size _).alloc (by simp; omega) _).alloc (by simp; omega) _).alloc (by simp; omega) _) _ _ (Nat.le_refl _)
  | other v =>
    have C := as_miss v w.heap.size _ hg2
    clear hn hg2 hg
    go_enter Tryf.func27, Tryf.ntmps27
    go_wp2_with (go_at_call 39; refine C.mono ?_; rintro e w' ⟨rfl, rfl⟩)
    go_ret
    refine ⟨rfl, ?_⟩
    exact (((hb0.alloc hb0.size _).alloc (by simp; omega) _).alloc (by simp; omega) _)
end Go.Proofs.YtdjfagknffknjaaFmt.As
end

section
namespace Go.Proofs.YtdjfagknffknjaaFmt.Fm
open Go.RowKit Go.Extern.Stop Go.Stop Go.Extern
/-- "wrong proof size %d, want %d" -/
abbrev wrongSize : ByteArray := ⟨#[119, 114, 111, 110, 103, 32, 112, 114, 111, 111, 102, 32, 115, 105, 122, 101, 32, 37, 100, 44, 32, 119, 97, 110, 116, 32, 37, 100]⟩
theorem call60 (args : Array Value) (w : World) : (callFunc 60 args).run Tryf.prog w = ((FmtStop.errorf #[9, 120] #[65] args).run Tryf.prog w).andThen fun v w' => .ok (.value v) w' :=
  run_callFunc_extern Tryf.func60 (by kernel_rfl) (by kernel_rfl) (by kernel_rfl) (by kernel_rfl) args w
theorem guard (name : String) (w : World) : (FmtStop.guard name).run Tryf.prog w = .ok () w := by kernel_rfl
theorem fmt0 : FmtStop.printed? ⟨#[119, 114, 111, 110, 103, 32, 112, 114, 111, 111, 102, 32, 115, 105, 122, 101, 32, 37, 100, 44, 32, 119, 97, 110, 116, 32, 37, 100]⟩ 2 = some [(0, 100, false), (1, 100, false)] := by kernel_rfl
theorem fmt0r (w : World) : (FmtDoors.printed ⟨#[119, 114, 111, 110, 103, 32, 112, 114, 111, 111, 102, 32, 115, 105, 122, 101, 32, 37, 100, 44, 32, 119, 97, 110, 116, 32, 37, 100]⟩ 2).run Tryf.prog w = .ok [(0, 100, false), (1, 100, false)] w := by kernel_rfl
def shape3 : List UInt8 := [5, 3, 0, 0, 0, 0, 0, 0, 0, 105, 110, 116]
theorem op3_100w (name : String) (x : Int) (w : World) : (FmtStop.operand name true 100 false (.iface 3 (.int .i64 x))).run Tryf.prog w = .ok (shape3, Go.Extern.Stop.digits 8 (x % 2 ^ 64).toNat) w := by kernel_rfl
theorem op3_100 (name : String) (x : Int) (w : World) : (FmtStop.operand name false 100 false (.iface 3 (.int .i64 x))).run Tryf.prog w = .ok (shape3, Go.Extern.Stop.digits 8 (x % 2 ^ 64).toNat) w := by kernel_rfl
theorem ptr130 (w : World) : (FmtStop.ptrTo "errors.errorString").run Tryf.prog w = .ok 130 w := by kernel_rfl
theorem elem130 (w : World) : (elemOf 130).run Tryf.prog w = .ok 132 w := by kernel_rfl
theorem errorf_any (F : Interp) (a b : Int) (blk : Nat) (w : World) (hF : F.answers w.tape)
    (hc0 : w.cell? ⟨blk, 0, none⟩ = some (.iface 3 (.int .i64 a))) (hc1 : w.cell? ⟨blk, 1, none⟩ = some (.iface 3 (.int .i64 b))) :
    Calls Tryf.prog 42 #[.string wrongSize, .slice (some ⟨blk, 0, none⟩) 2 2] w fun e w' =>
      e = .returned (.iface 130 (.pointer (some ⟨w.heap.size, 0, none⟩))) ∧ Below w.heap.size w w' := by
  have hF' : ∀ i name reading k range, w.tape i (.extern (word name reading k) range) = F name reading k := hF
  have e1 := call60
  have e2 := guard
  have e3 := fmt0
  have e4 := fmt0r
  have e5 := op3_100w
  have e6 := op3_100
  have e7 := ptr130
  have e8 := elem130
  go_enter Tryf.func42, Tryf.ntmps42
  go_wp2
  go_ret
  exact ⟨rfl, ((Below.refl _ _).alloc (Nat.le_refl _) _).drew⟩
end Go.Proofs.YtdjfagknffknjaaFmt.Fm
end
