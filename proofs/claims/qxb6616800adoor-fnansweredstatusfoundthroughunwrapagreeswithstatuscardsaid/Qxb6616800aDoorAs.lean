import Derived.Test.Qxb6616800aDoorProg
import Derived.WalkKit
import Derived.WalkLawsBesides
import Derived.WalkSpells
import Derived.Below
import Derived.Outline
import Derived.LaidEql
import Derived.Stop.Asserts
import Derived.RowKitTokens
namespace Go.Proofs.Qxb6616800aDoor
open Go.RowKit Go.Extern.Stop Go.Stop Go.Extern

/-! ### Closed facts on the model's entries for internal/reflectlite: 34: *gitexec.Error · 44: exitStatus · 46: *exitStatus · 63: *exec.ExitError · 64: **exec.ExitError · 40: error · 70: rtype; one package-level variable -/
theorem valueOf46 (t : Addr) (w : World) : (ReflectliteValue.unpack (.iface 46 (.pointer (some t)))).run Tryd.prog w
    = .ok (.agg #[.pointer (some ⟨1, 46, none⟩), .pointer (some ⟨w.heap.size, 0, none⟩), .int .u64 150]) (w.alloc (.cells #[.pointer (some t)] 46)) := by kernel_rfl
theorem valueOf64 (t : Addr) (w : World) : (ReflectliteValue.unpack (.iface 64 (.pointer (some t)))).run Tryd.prog w
    = .ok (.agg #[.pointer (some ⟨1, 64, none⟩), .pointer (some ⟨w.heap.size, 0, none⟩), .int .u64 150]) (w.alloc (.cells #[.pointer (some t)] 64)) := by kernel_rfl
theorem valueOf44 (n : Int) (w : World) : (ReflectliteValue.unpack (.iface 44 (.int .i64 n))).run Tryd.prog w
    = .ok (.agg #[.pointer (some ⟨1, 44, none⟩), .pointer (some ⟨w.heap.size, 0, none⟩), .int .u64 130]) (w.alloc (.cells #[.int .i64 n] 44)) := by kernel_rfl
theorem type46 (a : Addr) (w : World) : (ReflectliteValue.methodAny (ReflectliteValue.valueError "reflectlite.Value.Type" 0) (fun t _ _ _ => ReflectliteType.toType t) #[.agg #[.pointer (some ⟨1, 46, none⟩), .pointer (some a), .int .u64 150]]).run Tryd.prog w
    = .ok (.iface 70 (.agg #[.pointer (some ⟨1, 46, none⟩)])) w := by kernel_rfl
theorem type64 (a : Addr) (w : World) : (ReflectliteValue.methodAny (ReflectliteValue.valueError "reflectlite.Value.Type" 0) (fun t _ _ _ => ReflectliteType.toType t) #[.agg #[.pointer (some ⟨1, 64, none⟩), .pointer (some a), .int .u64 150]]).run Tryd.prog w
    = .ok (.iface 70 (.agg #[.pointer (some ⟨1, 64, none⟩)])) w := by kernel_rfl
theorem methodKind (h : Value) (w : World) : (Go.method 306 70 (.agg #[h]) "Kind").run Tryd.prog w = .ok (46, h) w := by kernel_rfl
theorem methodElem (h : Value) (w : World) : (Go.method 306 70 (.agg #[h]) "Elem").run Tryd.prog w = .ok (63, .agg #[h]) w := by kernel_rfl
theorem methodImplements (h : Value) (w : World) : (Go.method 306 70 (.agg #[h]) "Implements").run Tryd.prog w = .ok (64, .agg #[h]) w := by kernel_rfl
theorem methodAssignableTo (h : Value) (w : World) : (Go.method 306 70 (.agg #[h]) "AssignableTo").run Tryd.prog w = .ok (61, .agg #[h]) w := by kernel_rfl
theorem methodUnwrap (p : Addr) (w : World) : (Go.method 306 34 (.pointer (some p)) "Unwrap").run Tryd.prog w = .ok (53, .pointer (some p)) w := by kernel_rfl
theorem kind46 (w : World) : ((ReflectliteType.abiMethod fun t => (fun a : Nat => Value.int IntKind.u8 (a : Int)) <$> Rtype.kind t) #[.pointer (some ⟨1, 46, none⟩)]).run Tryd.prog w = .ok (.int .u8 22) w := by kernel_rfl
theorem kind64 (w : World) : ((ReflectliteType.abiMethod fun t => (fun a : Nat => Value.int IntKind.u8 (a : Int)) <$> Rtype.kind t) #[.pointer (some ⟨1, 64, none⟩)]).run Tryd.prog w = .ok (.int .u8 22) w := by kernel_rfl
theorem kind44 (w : World) : ((ReflectliteType.abiMethod fun t => (fun a : Nat => Value.int IntKind.u8 (a : Int)) <$> Rtype.kind t) #[.pointer (some ⟨1, 44, none⟩)]).run Tryd.prog w = .ok (.int .u8 2) w := by kernel_rfl
theorem kind63 (w : World) : ((ReflectliteType.abiMethod fun t => (fun a : Nat => Value.int IntKind.u8 (a : Int)) <$> Rtype.kind t) #[.pointer (some ⟨1, 63, none⟩)]).run Tryd.prog w = .ok (.int .u8 22) w := by kernel_rfl
theorem elem46 (w : World) : (ReflectliteType.method ReflectliteType.elem #[.agg #[.pointer (some ⟨1, 46, none⟩)]]).run Tryd.prog w = .ok (.iface 70 (.agg #[.pointer (some ⟨1, 44, none⟩)])) w := by kernel_rfl
theorem elem64 (w : World) : (ReflectliteType.method ReflectliteType.elem #[.agg #[.pointer (some ⟨1, 64, none⟩)]]).run Tryd.prog w = .ok (.iface 70 (.agg #[.pointer (some ⟨1, 63, none⟩)])) w := by kernel_rfl
theorem implements44 (w : World) : (ReflectliteType.relation "Implements" ReflectliteType.implements_ #[.agg #[.pointer (some ⟨1, 44, none⟩)], .iface 70 (.agg #[.pointer (some ⟨1, 40, none⟩)])]).run Tryd.prog w = .ok (.bool true) w := by kernel_rfl
theorem implements63 (w : World) : (ReflectliteType.relation "Implements" ReflectliteType.implements_ #[.agg #[.pointer (some ⟨1, 63, none⟩)], .iface 70 (.agg #[.pointer (some ⟨1, 40, none⟩)])]).run Tryd.prog w = .ok (.bool true) w := by kernel_rfl
theorem typeOf34 (v : Value) (w : World) : (ReflectliteType.typeOf #[.iface 34 v]).run Tryd.prog w = .ok (.iface 70 (.agg #[.pointer (some ⟨1, 34, none⟩)])) w := by kernel_rfl
theorem typeOf44 (v : Value) (w : World) : (ReflectliteType.typeOf #[.iface 44 v]).run Tryd.prog w = .ok (.iface 70 (.agg #[.pointer (some ⟨1, 44, none⟩)])) w := by kernel_rfl
theorem assign34_44 (w : World) : (ReflectliteType.relation "AssignableTo" ReflectliteType.assignableTo #[.agg #[.pointer (some ⟨1, 34, none⟩)], .iface 70 (.agg #[.pointer (some ⟨1, 44, none⟩)])]).run Tryd.prog w = .ok (.bool false) w := by kernel_rfl
theorem assign44_44 (w : World) : (ReflectliteType.relation "AssignableTo" ReflectliteType.assignableTo #[.agg #[.pointer (some ⟨1, 44, none⟩)], .iface 70 (.agg #[.pointer (some ⟨1, 44, none⟩)])]).run Tryd.prog w = .ok (.bool true) w := by kernel_rfl
theorem assign44_63 (w : World) : (ReflectliteType.relation "AssignableTo" ReflectliteType.assignableTo #[.agg #[.pointer (some ⟨1, 44, none⟩)], .iface 70 (.agg #[.pointer (some ⟨1, 63, none⟩)])]).run Tryd.prog w = .ok (.bool false) w := by kernel_rfl
theorem ta34_75 (v : Value) (w : World) : (Instr.typeAssert (.iface 34 v) 40 75 true).run Tryd.prog w = .ok (.tuple #[.nilIface, .bool false]) w := run_typeAssert_lacksB Tryd.underlying75 (by kernel_rfl) (by kernel_rfl) v 40 w
theorem ta34_78 (v : Value) (w : World) : (Instr.typeAssert (.iface 34 v) 40 78 true).run Tryd.prog w = .ok (.tuple #[.iface 34 v, .bool true]) w := by kernel_rfl
theorem ta44_75 (v : Value) (w : World) : (Instr.typeAssert (.iface 44 v) 40 75 true).run Tryd.prog w = .ok (.tuple #[.nilIface, .bool false]) w := run_typeAssert_lacksB Tryd.underlying75 (by kernel_rfl) (by kernel_rfl) v 40 w
theorem ta44_78 (v : Value) (w : World) : (Instr.typeAssert (.iface 44 v) 40 78 true).run Tryd.prog w = .ok (.tuple #[.nilIface, .bool false]) w := run_typeAssert_lacksB Tryd.underlying78 (by kernel_rfl) (by kernel_rfl) v 40 w
theorem ta44_80 (v : Value) (w : World) : (Instr.typeAssert (.iface 44 v) 40 80 true).run Tryd.prog w = .ok (.tuple #[.nilIface, .bool false]) w := run_typeAssert_lacksB Tryd.underlying80 (by kernel_rfl) (by kernel_rfl) v 40 w

/-! ### The entries that read or write memory -/
theorem rlm (z : Sem Value) (f : TypeId → Addr → Nat → Nat → Sem Value) (v : Value) :
    ReflectliteValue.method z f #[v] = (do match ← ReflectliteValue.parts v with | none => z | some (t, a, fl) => f t a fl (fl % 32)) := rfl
theorem parts46 (a : Addr) (w : World) : (ReflectliteValue.parts (.agg #[.pointer (some ⟨1, 46, none⟩), .pointer (some a), .int .u64 150])).run Tryd.prog w = .ok (some (46, a, 150)) w := by kernel_rfl
theorem parts64 (a : Addr) (w : World) : (ReflectliteValue.parts (.agg #[.pointer (some ⟨1, 64, none⟩), .pointer (some a), .int .u64 150])).run Tryd.prog w = .ok (some (64, a, 150)) w := by kernel_rfl
theorem isNil46 (a p : Addr) (W : World) (ha : W.cell? a = some (.pointer (some p))) :
    (ReflectliteValue.method (ReflectliteValue.valueError "reflectlite.Value.IsNil" 0) ReflectliteValue.isNil #[.agg #[.pointer (some ⟨1, 46, none⟩), .pointer (some a), .int .u64 150]]).run Tryd.prog W = .ok (.bool false) W := by
  rw [rlm]
  simp only [Sem.run_bind, parts46, Result.andThen]
  simp [ReflectliteValue.isNil, loadVar, isAgg, underlying, Tryd.underlying46, ha, Result.andThen]
theorem isNil64 (a p : Addr) (W : World) (ha : W.cell? a = some (.pointer (some p))) :
    (ReflectliteValue.method (ReflectliteValue.valueError "reflectlite.Value.IsNil" 0) ReflectliteValue.isNil #[.agg #[.pointer (some ⟨1, 64, none⟩), .pointer (some a), .int .u64 150]]).run Tryd.prog W = .ok (.bool false) W := by
  rw [rlm]
  simp only [Sem.run_bind, parts64, Result.andThen]
  simp [ReflectliteValue.isNil, loadVar, isAgg, underlying, Tryd.underlying64, ha, Result.andThen]
theorem elemOf46 (w : World) : (Rtype.elem? 46).run Tryd.prog w = .ok (some 44) w := by kernel_rfl
theorem mk44 (p : Addr) (w : World) : (ReflectliteValue.mk 44 p ReflectliteValue.flagAddr).run Tryd.prog w = .ok (.agg #[.pointer (some ⟨1, 44, none⟩), .pointer (some p), .int .u64 386]) w := by kernel_rfl
theorem elemV46 (a p : Addr) (W : World) (ha : W.cell? a = some (.pointer (some p))) :
    (ReflectliteValue.method (ReflectliteValue.valueError "reflectlite.Value.Elem" 0) ReflectliteValue.elem #[.agg #[.pointer (some ⟨1, 46, none⟩), .pointer (some a), .int .u64 150]]).run Tryd.prog W
      = .ok (.agg #[.pointer (some ⟨1, 44, none⟩), .pointer (some p), .int .u64 386]) W := by
  rw [rlm]
  simp only [Sem.run_bind, parts46, Result.andThen]
  simp [ReflectliteValue.elem, loadVar, isAgg, underlying, Tryd.underlying46, ha, Result.andThen, elemOf46, mk44]
theorem rls (v x : Value) : ∃ (U1 : Sem Value) (U2 : Sem PUnit) (E : TypeId → TypeId → Addr → Value → Sem Value), ReflectliteValue.set #[v, x] = (do
    let (some (dst, a, fl), some (src, b, _)) := (← ReflectliteValue.parts v, ← ReflectliteValue.parts x) | U1
    if fl / ReflectliteValue.flagAddr % 2 == 0 then U2
    let val ← loadVar src b
    if ← Rtype.directlyAssignable dst src then
      storeVar dst a val
      pure (.tuple #[])
    else E dst src a val) := ⟨_, _, _, rfl⟩
theorem parts44a (a : Addr) (w : World) : (ReflectliteValue.parts (.agg #[.pointer (some ⟨1, 44, none⟩), .pointer (some a), .int .u64 386])).run Tryd.prog w = .ok (some (44, a, 386)) w := by kernel_rfl
theorem parts44 (a : Addr) (w : World) : (ReflectliteValue.parts (.agg #[.pointer (some ⟨1, 44, none⟩), .pointer (some a), .int .u64 130])).run Tryd.prog w = .ok (some (44, a, 130)) w := by kernel_rfl
theorem direct44 (w : World) : (Rtype.directlyAssignable 44 44).run Tryd.prog w = .ok true w := by kernel_rfl
theorem size44 (w : World) : (sizeOf 44).run Tryd.prog w = .ok 1 w := by kernel_rfl
theorem set44 (ta b : Addr) (n : Int) (old : Value) (W : World) (hb : W.cell? b = some (.int .i64 n)) (ht : W.cell? ta = some old) (hf : W.frozen? ta = false) :
    (ReflectliteValue.set #[.agg #[.pointer (some ⟨1, 44, none⟩), .pointer (some ta), .int .u64 386], .agg #[.pointer (some ⟨1, 44, none⟩), .pointer (some b), .int .u64 130]]).run Tryd.prog W
      = .ok (.tuple #[]) (W.setCell ta (.int .i64 n)) := by
  obtain ⟨U1, U2, E, e⟩ := rls (.agg #[.pointer (some ⟨1, 44, none⟩), .pointer (some ta), .int .u64 386]) (.agg #[.pointer (some ⟨1, 44, none⟩), .pointer (some b), .int .u64 130])
  rw [e]
  simp only [Sem.run_bind, parts44a, parts44, Result.andThen]
  simp [ReflectliteValue.flagAddr, loadVar, isAgg, underlying, Tryd.underlying44, hb, Result.andThen, direct44, storeVar, Value.cells, storeCells, Addr.add]
  rw [run_store Tryd.prog W ta _ _ (by rfl)]
  simp [ht, hf]
end Go.Proofs.Qxb6616800aDoor
