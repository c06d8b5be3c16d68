import Derived.Test.Qxb6616800aDoorAs
namespace Go.Proofs.Qxb6616800aDoor
open Go.RowKit Go.Extern.Stop Go.Stop Go.Extern

set_option maxHeartbeats 4000000 in
set_option maxRecDepth 100000 in
theorem as_unwrap (pb po : Nat) (n : Int) (t : Addr) (old : Value) (w : World) (hg : w.cell? ⟨0, 0, none⟩ = some (.iface 70 (.agg #[.pointer (some ⟨1, 40, none⟩)]))) (ht0 : w.cell? t = some old) (hf0 : w.frozen? t = false) (hp : w.cell? ⟨pb, po + 2, none⟩ = some (.iface 44 (.int .i64 n))) :
    Calls Tryd.prog 12 #[.iface 34 (.pointer (some ⟨pb, po, none⟩)), .iface 46 (.pointer (some t))] w fun ev w' => ev = .returned (.bool true) ∧ w' = ((((w.alloc (.cells #[.pointer (some t)] 46)).alloc (.cells #[.pointer (some ⟨1, 46, none⟩), .pointer (some ⟨w.heap.size, 0, none⟩), .int .u64 150] 53)).alloc (.cells #[.pointer (some ⟨1, 46, none⟩), .pointer (some ⟨w.heap.size, 0, none⟩), .int .u64 150] 53)).alloc (.cells #[.int .i64 n] 44)).setCell t (.int .i64 n) := by
  have h14 := @run_callFunc_extern Tryd.prog 14 _ (fun args => ReflectliteValue.unpack (args.getD 0 (.tuple #[]))) Tryd.func14 (by kernel_rfl) (by kernel_rfl) (by kernel_rfl) (by kernel_rfl)
  have h15 := @run_callFunc_extern Tryd.prog 15 _ (ReflectliteValue.methodAny (ReflectliteValue.valueError "reflectlite.Value.Type" 0) (fun t _ _ _ => ReflectliteType.toType t)) Tryd.func15 (by kernel_rfl) (by kernel_rfl) (by kernel_rfl) (by kernel_rfl)
  have h16 := @run_callFunc_extern Tryd.prog 16 _ (ReflectliteValue.method (ReflectliteValue.valueError "reflectlite.Value.IsNil" 0) ReflectliteValue.isNil) Tryd.func16 (by kernel_rfl) (by kernel_rfl) (by kernel_rfl) (by kernel_rfl)
  have h46 := @run_callFunc_extern Tryd.prog 46 _ (ReflectliteType.abiMethod fun t => do pure (.int .u8 (← Rtype.kind t))) Tryd.func46 (by kernel_rfl) (by kernel_rfl) (by kernel_rfl) (by kernel_rfl)
  have h63 := @run_callFunc_extern Tryd.prog 63 _ (ReflectliteType.method ReflectliteType.elem) Tryd.func63 (by kernel_rfl) (by kernel_rfl) (by kernel_rfl) (by kernel_rfl)
  have h64 := @run_callFunc_extern Tryd.prog 64 _ (ReflectliteType.relation "Implements" ReflectliteType.implements_) Tryd.func64 (by kernel_rfl) (by kernel_rfl) (by kernel_rfl) (by kernel_rfl)
  have h20 := @run_callFunc_extern Tryd.prog 20 _ ReflectliteType.typeOf Tryd.func20 (by kernel_rfl) (by kernel_rfl) (by kernel_rfl) (by kernel_rfl)
  have h61 := @run_callFunc_extern Tryd.prog 61 _ (ReflectliteType.relation "AssignableTo" ReflectliteType.assignableTo) Tryd.func61 (by kernel_rfl) (by kernel_rfl) (by kernel_rfl) (by kernel_rfl)
  have h21 := @run_callFunc_extern Tryd.prog 21 _ (ReflectliteValue.method (ReflectliteValue.valueError "reflectlite.Value.Elem" 0) ReflectliteValue.elem) Tryd.func21 (by kernel_rfl) (by kernel_rfl) (by kernel_rfl) (by kernel_rfl)
  have h22 := @run_callFunc_extern Tryd.prog 22 _ ReflectliteValue.set Tryd.func22 (by kernel_rfl) (by kernel_rfl) (by kernel_rfl) (by kernel_rfl)
  have tO := typeOf44
  have tP := typeOf34
  have aP := assign34_44
  have x1 := ta34_75
  have x2 := ta34_78
  have mU := methodUnwrap
  have hpl : pb < w.heap.size := World.block_lt_of_cell? w _ hp
  have mA := methodAssignableTo
  have a44 := assign44_44
  have v44 := valueOf44
  have f6 := valueOf46
  have f7 := type46
  have mK := methodKind
  have mE := methodElem
  have mI := methodImplements
  have k46 := kind46
  have k44 := kind44
  have e46 := elem46
  have i44 := implements44
  have n8 := isNil46 ⟨w.heap.size, 0, none⟩ t ((w.alloc (.cells #[.pointer (some t)] 46)).alloc (.cells #[.pointer (some ⟨1, 46, none⟩), .pointer (some ⟨w.heap.size, 0, none⟩), .int .u64 150] 53)) (by simp)
  have hlt : 0 < w.heap.size := World.block_lt_of_cell? w _ hg
  have hg2 : ((w.alloc (.cells #[.pointer (some t)] 46)).alloc (.cells #[.pointer (some ⟨1, 46, none⟩), .pointer (some ⟨w.heap.size, 0, none⟩), .int .u64 150] 53)).cell? ⟨0, 0, none⟩ = some (.iface 70 (.agg #[.pointer (some ⟨1, 40, none⟩)])) := by
    rw [World.cell?_alloc_lt _ _ ⟨0, 0, none⟩ (by simp), World.cell?_alloc_lt _ _ ⟨0, 0, none⟩ hlt]; exact hg
  have htl : t.block < w.heap.size := World.block_lt_of_cell? w _ ht0
  have el := elemV46 ⟨w.heap.size, 0, none⟩ t (((w.alloc (.cells #[.pointer (some t)] 46)).alloc (.cells #[.pointer (some ⟨1, 46, none⟩), .pointer (some ⟨w.heap.size, 0, none⟩), .int .u64 150] 53)).alloc (.cells #[.pointer (some ⟨1, 46, none⟩), .pointer (some ⟨w.heap.size, 0, none⟩), .int .u64 150] 53)) (by rw [World.cell?_alloc_lt _ _ ⟨w.heap.size, 0, none⟩ (by simp; omega)]; simp)
  have st := set44 t ⟨w.heap.size + 1 + 1 + 1, 0, none⟩ n old ((((w.alloc (.cells #[.pointer (some t)] 46)).alloc (.cells #[.pointer (some ⟨1, 46, none⟩), .pointer (some ⟨w.heap.size, 0, none⟩), .int .u64 150] 53)).alloc (.cells #[.pointer (some ⟨1, 46, none⟩), .pointer (some ⟨w.heap.size, 0, none⟩), .int .u64 150] 53)).alloc (.cells #[.int .i64 n] 44))
    (by rw [World.cell?_alloc_at _ _ _ _ (by simp)]; rfl)
    (by rw [World.cell?_alloc_lt _ _ t (by simp; omega), World.cell?_alloc_lt _ _ t (by simp; omega), World.cell?_alloc_lt _ _ t (by simp; omega), World.cell?_alloc_lt _ _ t htl]; exact ht0)
    (by rw [World.frozen?_alloc_old _ _ t (by simp; omega), World.frozen?_alloc_old _ _ t (by simp; omega), World.frozen?_alloc_old _ _ t (by simp; omega), World.frozen?_alloc_old _ _ t (Nat.ne_of_lt htl)]; exact hf0)
  have hp3 : (((w.alloc (.cells #[.pointer (some t)] 46)).alloc (.cells #[.pointer (some ⟨1, 46, none⟩), .pointer (some ⟨w.heap.size, 0, none⟩), .int .u64 150] 53)).alloc (.cells #[.pointer (some ⟨1, 46, none⟩), .pointer (some ⟨w.heap.size, 0, none⟩), .int .u64 150] 53)).cell? ⟨pb, po + 2, none⟩ = some (.iface 44 (.int .i64 n)) := by
    rw [World.cell?_alloc_lt _ _ ⟨pb, po + 2, none⟩ (by simp; omega), World.cell?_alloc_lt _ _ ⟨pb, po + 2, none⟩ (by simp; omega), World.cell?_alloc_lt _ _ ⟨pb, po + 2, none⟩ hpl]; exact hp
  go_enter Tryd.func12, Tryd.ntmps12
  go_wp2
  refine wp_loop_rounds 2 ?_
  rw [rounds_succ]
  go_wp2
  rw [rounds_succ]
  go_wp2
  go_ret
  exact ⟨rfl, rfl⟩
end Go.Proofs.Qxb6616800aDoor
