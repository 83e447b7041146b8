/-
  errors.As (15) and errors.as (19), at a target that is a pointer to a pointer to Refusal.
-/
import Derived.Test.Qxb6605725aDoorFacts
namespace Go.Proofs.Qxb6605725aDoor
open Go.RowKit Go.Extern.Stop Go.Stop Go.Extern

/-- errors.As(nil, target). -/
theorem as_nil (t : Value) (w : World) :
    Calls Tryd.prog 15 #[.nilIface, t] w fun e w' => e = .returned (.bool false) ∧ w' = w := by
  go_enter Tryd.func15, Tryd.ntmps15
  go_wp2
  go_ret
  exact ⟨rfl, rfl⟩

/-- reflectlite's Value of the target. -/
def tval (n : Nat) : Value := .agg #[.pointer (some ⟨1, 39, none⟩), .pointer (some ⟨n, 0, none⟩), .int .u64 150]
/-- reflectlite's type of what the target points to. -/
def ttyp : Value := .iface 61 (.agg #[.pointer (some ⟨1, 31, none⟩)])

set_option maxHeartbeats 4000000 in
/-- errors.As at an error that is not nil: what errors.as says. -/
theorem as_of (T : TypeId) (x : Value) (t : Addr) (b : Bool) (Q : World → Prop) (w : World) (hg : w.cell? ⟨0, 0, none⟩ = some (.iface 61 (.agg #[.pointer (some ⟨1, 35, none⟩)])))
    (h19 : Calls Tryd.prog 19 #[.iface T x, .iface 39 (.pointer (some t)), tval w.heap.size, ttyp] ((w.alloc (.cells #[.pointer (some t)] 39)).alloc (.cells #[.pointer (some ⟨1, 39, none⟩), .pointer (some ⟨w.heap.size, 0, none⟩), .int .u64 150] 50)) fun e w' => e = .returned (.bool b) ∧ Q w') :
    Calls Tryd.prog 15 #[.iface T x, .iface 39 (.pointer (some t))] w fun e w' => e = .returned (.bool b) ∧ Q w' := by
  have h16 := @run_callFunc_extern Tryd.prog 16 _ (fun args => ReflectliteValue.unpack (args.getD 0 (.tuple #[]))) Tryd.func16 (by kernel_rfl) (by kernel_rfl) (by kernel_rfl) (by kernel_rfl)
  have h17 := @run_callFunc_extern Tryd.prog 17 _ (ReflectliteValue.methodAny (ReflectliteValue.valueError "reflectlite.Value.Type" 0) (fun t _ _ _ => ReflectliteType.toType t)) Tryd.func17 (by kernel_rfl) (by kernel_rfl) (by kernel_rfl) (by kernel_rfl)
  have h18 := @run_callFunc_extern Tryd.prog 18 _ (ReflectliteValue.method (ReflectliteValue.valueError "reflectlite.Value.IsNil" 0) ReflectliteValue.isNil) Tryd.func18 (by kernel_rfl) (by kernel_rfl) (by kernel_rfl) (by kernel_rfl)
  have h37 := @run_callFunc_extern Tryd.prog 37 _ (ReflectliteType.abiMethod fun t => do pure (.int .u8 (← Rtype.kind t))) Tryd.func37 (by kernel_rfl) (by kernel_rfl) (by kernel_rfl) (by kernel_rfl)
  have h50 := @run_callFunc_extern Tryd.prog 50 _ (ReflectliteType.method ReflectliteType.elem) Tryd.func50 (by kernel_rfl) (by kernel_rfl) (by kernel_rfl) (by kernel_rfl)
  have h51 := @run_callFunc_extern Tryd.prog 51 _ (ReflectliteType.relation "Implements" ReflectliteType.implements_) Tryd.func51 (by kernel_rfl) (by kernel_rfl) (by kernel_rfl) (by kernel_rfl)
  have f16 := valueOf39
  have f17 := type39
  have k39 := kind39
  have k31 := kind31
  have e39 := elem39
  have i31 := implements31
  have n18 := isNil39 ⟨w.heap.size, 0, none⟩ t ((w.alloc (.cells #[.pointer (some t)] 39)).alloc (.cells #[.pointer (some ⟨1, 39, none⟩), .pointer (some ⟨w.heap.size, 0, none⟩), .int .u64 150] 50)) (by simp)
  have hlt : 0 < w.heap.size := by
    rcases Nat.eq_zero_or_pos w.heap.size with h0 | h
    · simp [World.cell?, h0] at hg
    · exact h
  have hg2 : ((w.alloc (.cells #[.pointer (some t)] 39)).alloc (.cells #[.pointer (some ⟨1, 39, none⟩), .pointer (some ⟨w.heap.size, 0, none⟩), .int .u64 150] 50)).cell? ⟨0, 0, none⟩ = some (.iface 61 (.agg #[.pointer (some ⟨1, 35, none⟩)])) := by
    rw [World.cell?_alloc_lt _ _ ⟨0, 0, none⟩ (by simp), World.cell?_alloc_lt _ _ ⟨0, 0, none⟩ hlt]; exact hg
  have mK := methodKind
  have mE := methodElem
  have mI := methodImplements
  go_enter Tryd.func15, Tryd.ntmps15
  go_wp2_with fail
  refine h19.mono ?_
  rintro e w' ⟨rfl, hq⟩
  go_wp2_with fail
  go_ret
  exact ⟨rfl, hq⟩

end Go.Proofs.Qxb6605725aDoor
