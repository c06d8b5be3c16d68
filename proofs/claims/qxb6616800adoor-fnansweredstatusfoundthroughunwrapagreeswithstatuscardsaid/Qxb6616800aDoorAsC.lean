import Derived.Test.Qxb6616800aDoorAs
namespace Go.Proofs.Qxb6616800aDoor
open Go.RowKit Go.Extern.Stop Go.Stop Go.Extern

set_option maxHeartbeats 4000000 in
set_option maxRecDepth 100000 in
theorem as_miss (n : Int) (t : Addr) (w : World) (hg : w.cell? ⟨0, 0, none⟩ = some (.iface 70 (.agg #[.pointer (some ⟨1, 40, none⟩)]))) :
    Calls Tryd.prog 12 #[.iface 44 (.int .i64 n), .iface 64 (.pointer (some t))] w fun ev w' => ev = .returned (.bool false) ∧ w' = ((w.alloc (.cells #[.pointer (some t)] 64)).alloc (.cells #[.pointer (some ⟨1, 64, none⟩), .pointer (some ⟨w.heap.size, 0, none⟩), .int .u64 150] 53)).alloc (.cells #[.pointer (some ⟨1, 64, none⟩), .pointer (some ⟨w.heap.size, 0, none⟩), .int .u64 150] 53) := by
  have h14 := @run_callFunc_extern Tryd.prog 14 _ (fun args => ReflectliteValue.unpack (args.getD 0 (.tuple #[]))) Tryd.func14 (by kernel_rfl) (by kernel_rfl) (by kernel_rfl) (by kernel_rfl)
  have h15 := @run_callFunc_extern Tryd.prog 15 _ (ReflectliteValue.methodAny (ReflectliteValue.valueError "reflectlite.Value.Type" 0) (fun t _ _ _ => ReflectliteType.toType t)) Tryd.func15 (by kernel_rfl) (by kernel_rfl) (by kernel_rfl) (by kernel_rfl)
  have h16 := @run_callFunc_extern Tryd.prog 16 _ (ReflectliteValue.method (ReflectliteValue.valueError "reflectlite.Value.IsNil" 0) ReflectliteValue.isNil) Tryd.func16 (by kernel_rfl) (by kernel_rfl) (by kernel_rfl) (by kernel_rfl)
  have h46 := @run_callFunc_extern Tryd.prog 46 _ (ReflectliteType.abiMethod fun t => do pure (.int .u8 (← Rtype.kind t))) Tryd.func46 (by kernel_rfl) (by kernel_rfl) (by kernel_rfl) (by kernel_rfl)
  have h63 := @run_callFunc_extern Tryd.prog 63 _ (ReflectliteType.method ReflectliteType.elem) Tryd.func63 (by kernel_rfl) (by kernel_rfl) (by kernel_rfl) (by kernel_rfl)
  have h64 := @run_callFunc_extern Tryd.prog 64 _ (ReflectliteType.relation "Implements" ReflectliteType.implements_) Tryd.func64 (by kernel_rfl) (by kernel_rfl) (by kernel_rfl) (by kernel_rfl)
  have h20 := @run_callFunc_extern Tryd.prog 20 _ ReflectliteType.typeOf Tryd.func20 (by kernel_rfl) (by kernel_rfl) (by kernel_rfl) (by kernel_rfl)
  have h61 := @run_callFunc_extern Tryd.prog 61 _ (ReflectliteType.relation "AssignableTo" ReflectliteType.assignableTo) Tryd.func61 (by kernel_rfl) (by kernel_rfl) (by kernel_rfl) (by kernel_rfl)
  have h21 := @run_callFunc_extern Tryd.prog 21 _ (ReflectliteValue.method (ReflectliteValue.valueError "reflectlite.Value.Elem" 0) ReflectliteValue.elem) Tryd.func21 (by kernel_rfl) (by kernel_rfl) (by kernel_rfl) (by kernel_rfl)
  have h22 := @run_callFunc_extern Tryd.prog 22 _ ReflectliteValue.set Tryd.func22 (by kernel_rfl) (by kernel_rfl) (by kernel_rfl) (by kernel_rfl)
  have tO := typeOf44
  have mA := methodAssignableTo
  have a44 := assign44_63
  have f6 := valueOf64
  have f7 := type64
  have mK := methodKind
  have mE := methodElem
  have mI := methodImplements
  have k64 := kind64
  have k63 := kind63
  have e64 := elem64
  have i63 := implements63
  have x1 := ta44_75
  have x2 := ta44_78
  have x3 := ta44_80
  have n8 := isNil64 ⟨w.heap.size, 0, none⟩ t ((w.alloc (.cells #[.pointer (some t)] 64)).alloc (.cells #[.pointer (some ⟨1, 64, none⟩), .pointer (some ⟨w.heap.size, 0, none⟩), .int .u64 150] 53)) (by simp)
  have hlt : 0 < w.heap.size := World.block_lt_of_cell? w _ hg
  have hg2 : ((w.alloc (.cells #[.pointer (some t)] 64)).alloc (.cells #[.pointer (some ⟨1, 64, none⟩), .pointer (some ⟨w.heap.size, 0, none⟩), .int .u64 150] 53)).cell? ⟨0, 0, none⟩ = some (.iface 70 (.agg #[.pointer (some ⟨1, 40, none⟩)])) := by
    rw [World.cell?_alloc_lt _ _ ⟨0, 0, none⟩ (by simp), World.cell?_alloc_lt _ _ ⟨0, 0, none⟩ hlt]; exact hg
  go_enter Tryd.func12, Tryd.ntmps12
  go_wp2
  refine wp_loop_rounds 1 ?_
  rw [rounds_succ]
  go_wp2
  go_ret
  exact ⟨rfl, rfl⟩
end Go.Proofs.Qxb6616800aDoor
