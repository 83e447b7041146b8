/-
  errors.as (19): at a Refusal; at what errors.New makes; at what errors.Join makes.
-/
import Derived.Test.Qxb6605725aDoorAs
import Derived.Stop.Asserts
import Derived.Lib.SmallJoins
import Derived.Maps.AppendAt
namespace Go.Proofs.Qxb6605725aDoor
open Go.RowKit Go.Extern.Stop Go.Stop Go.Extern

/-! ### type assertions, with comma-ok -/
theorem noAs40 (v : Value) (w : World) : (Instr.typeAssert (.iface 40 v) 35 66 true).run Tryd.prog w = .ok (.tuple #[.nilIface, .bool false]) w := run_typeAssert_lacksB Tryd.underlying66 (by kernel_rfl) (by kernel_rfl) v 35 w
theorem noOne40 (v : Value) (w : World) : (Instr.typeAssert (.iface 40 v) 35 69 true).run Tryd.prog w = .ok (.tuple #[.nilIface, .bool false]) w := run_typeAssert_lacksB Tryd.underlying69 (by kernel_rfl) (by kernel_rfl) v 35 w
theorem noMany40 (v : Value) (w : World) : (Instr.typeAssert (.iface 40 v) 35 71 true).run Tryd.prog w = .ok (.tuple #[.nilIface, .bool false]) w := run_typeAssert_lacksB Tryd.underlying71 (by kernel_rfl) (by kernel_rfl) v 35 w
theorem noAs44 (v : Value) (w : World) : (Instr.typeAssert (.iface 44 v) 35 66 true).run Tryd.prog w = .ok (.tuple #[.nilIface, .bool false]) w := run_typeAssert_lacksB Tryd.underlying66 (by kernel_rfl) (by kernel_rfl) v 35 w
theorem noOne44 (v : Value) (w : World) : (Instr.typeAssert (.iface 44 v) 35 69 true).run Tryd.prog w = .ok (.tuple #[.nilIface, .bool false]) w := run_typeAssert_lacksB Tryd.underlying69 (by kernel_rfl) (by kernel_rfl) v 35 w
theorem many44 (v : Value) (w : World) : (Instr.typeAssert (.iface 44 v) 35 71 true).run Tryd.prog w = .ok (.tuple #[.iface 44 v, .bool true]) w := run_typeAssert_hasB Tryd.underlying71 (by kernel_rfl) v 35 w

/-- The target: block tb is one variable, a pointer to a Refusal. -/
def Target (w : World) (tb : Nat) (v : Value) : Prop := w.heap[tb]? = some (.cells #[v] 31 (0, 0))
theorem Target.kept {w w' : World} {row : Option Nat} {tb : Nat} {v : Value} (h : Target w tb v) (hg : w.grownBy w' row) (hne : some tb ≠ row) : Target w' tb v := by
  unfold Target at *
  rw [hg.block tb (Array.getElem?_eq_some_iff.1 h).1 hne]
  exact h
theorem Target.alloc {w : World} {tb : Nat} {v : Value} (h : Target w tb v) (o : Obj) : Target (w.alloc o) tb v := h.kept (World.grownBy_alloc w o none) (by simp)
theorem Target.set {w : World} {tb : Nat} {v : Value} (h : Target w tb v) (u : Value) : Target (w.setCell ⟨tb, 0, none⟩ u) tb u := Joins.block_setCell h u
theorem grown_setCell (w : World) (R i : Nat) (v : Value) : w.grownBy (w.setCell ⟨R, i, none⟩ v) (some R) :=
  ⟨rfl, rfl, rfl, by simp [World.setCell], fun k _ hk => Below.heap_setCell _ _ _ _ (fun e => hk (by rw [e]))⟩
theorem grown_any {w w' : World} (h : w.grownBy w' none) (row : Option Nat) : w.grownBy w' row := ⟨h.os, h.tape, h.output, h.size, fun k hk _ => h.block k hk (by simp)⟩

set_option maxHeartbeats 4000000 in
/-- The error IS a Refusal: true; the target gets it. -/
theorem as19_hit (e : Addr) (tb n : Nat) (old : Value) (w : World) (hn : w.cell? ⟨n, 0, none⟩ = some (.pointer (some ⟨tb, 0, none⟩))) (ht : Target w tb old) :
    Calls Tryd.prog 19 #[.iface 31 (.pointer (some e)), .iface 39 (.pointer (some ⟨tb, 0, none⟩)), tval n, ttyp] w fun ev w' => ev = .returned (.bool true) ∧ w.grownBy w' (some tb) ∧ Target w' tb (.pointer (some e)) := by
  have h16 := @run_callFunc_extern Tryd.prog 16 _ (fun args => ReflectliteValue.unpack (args.getD 0 (.tuple #[]))) Tryd.func16 (by kernel_rfl) (by kernel_rfl) (by kernel_rfl) (by kernel_rfl)
  have h20 := @run_callFunc_extern Tryd.prog 20 _ ReflectliteType.typeOf Tryd.func20 (by kernel_rfl) (by kernel_rfl) (by kernel_rfl) (by kernel_rfl)
  have h48 := @run_callFunc_extern Tryd.prog 48 _ (ReflectliteType.relation "AssignableTo" ReflectliteType.assignableTo) Tryd.func48 (by kernel_rfl) (by kernel_rfl) (by kernel_rfl) (by kernel_rfl)
  have h21 := @run_callFunc_extern Tryd.prog 21 _ (ReflectliteValue.method (ReflectliteValue.valueError "reflectlite.Value.Elem" 0) ReflectliteValue.elem) Tryd.func21 (by kernel_rfl) (by kernel_rfl) (by kernel_rfl) (by kernel_rfl)
  have h22 := @run_callFunc_extern Tryd.prog 22 _ ReflectliteValue.set Tryd.func22 (by kernel_rfl) (by kernel_rfl) (by kernel_rfl) (by kernel_rfl)
  have tO := typeOf31
  have mA := methodAssignableTo
  have a31 := assignable31
  have v31 := valueOf31
  have hnl := World.block_lt_of_cell? _ _ hn
  simp only at hnl
  have el := elemV39 ⟨n, 0, none⟩ ⟨tb, 0, none⟩ (w.alloc (.cells #[.pointer (some ⟨1, 39, none⟩), .pointer (some ⟨n, 0, none⟩), .int .u64 150] 50)) (by rw [World.cell?_alloc_lt _ _ ⟨n, 0, none⟩ hnl]; exact hn)
  have ht2 := (ht.alloc (.cells #[.pointer (some ⟨1, 39, none⟩), .pointer (some ⟨n, 0, none⟩), .int .u64 150] 50)).alloc (.cells #[.pointer (some e)] 31)
  have st := set31 ⟨tb, 0, none⟩ ⟨w.heap.size + 1, 0, none⟩ e old ((w.alloc (.cells #[.pointer (some ⟨1, 39, none⟩), .pointer (some ⟨n, 0, none⟩), .int .u64 150] 50)).alloc (.cells #[.pointer (some e)] 31))
    (by rw [World.cell?_alloc_at _ _ _ _ (by simp)]; rfl) (Joins.cell_of_block ht2 0) (Joins.unfrozen_of_block ht2 0)
  have hfin : Target (((w.alloc (.cells #[.pointer (some ⟨1, 39, none⟩), .pointer (some ⟨n, 0, none⟩), .int .u64 150] 50)).alloc (.cells #[.pointer (some e)] 31)).setCell ⟨tb, 0, none⟩ (.pointer (some e))) tb (.pointer (some e)) := ht2.set _
  have hgr : w.grownBy (((w.alloc (.cells #[.pointer (some ⟨1, 39, none⟩), .pointer (some ⟨n, 0, none⟩), .int .u64 150] 50)).alloc (.cells #[.pointer (some e)] 31)).setCell ⟨tb, 0, none⟩ (.pointer (some e))) (some tb) :=
    ((World.grownBy_alloc w _ _).trans (World.grownBy_alloc _ _ _)).trans (grown_setCell _ _ _ _)
  unfold tval ttyp
  clear ht ht2
  go_enter Tryd.func19, Tryd.ntmps19
  go_wp2_with fail
  refine wp_loop_rounds 1 ?_
  rw [rounds_succ]
  go_wp2_with fail
  go_ret
  exact ⟨rfl, hgr, hfin⟩

set_option maxHeartbeats 4000000 in
/-- The error is one that errors.New makes: false. -/
theorem as19_plain (x : Value) (t : Value) (n : Nat) (w : World) :
    Calls Tryd.prog 19 #[.iface 40 x, t, tval n, ttyp] w fun ev w' => ev = .returned (.bool false) ∧ w.grownBy w' none := by
  have h20 := @run_callFunc_extern Tryd.prog 20 _ ReflectliteType.typeOf Tryd.func20 (by kernel_rfl) (by kernel_rfl) (by kernel_rfl) (by kernel_rfl)
  have h48 := @run_callFunc_extern Tryd.prog 48 _ (ReflectliteType.relation "AssignableTo" ReflectliteType.assignableTo) Tryd.func48 (by kernel_rfl) (by kernel_rfl) (by kernel_rfl) (by kernel_rfl)
  have tO := typeOf40
  have mA := methodAssignableTo
  have a40 := assignable40
  have t1 := noAs40
  have t2 := noOne40
  have t3 := noMany40
  unfold tval ttyp
  go_enter Tryd.func19, Tryd.ntmps19
  go_wp2_with fail
  refine wp_loop_rounds 1 ?_
  rw [rounds_succ]
  go_wp2_with fail
  go_ret
  exact ⟨rfl, World.grownBy_alloc _ _ _⟩

theorem unwrap_any (jb : Nat) (v : Value) (w : World) (h : w.cell? ⟨jb, 0, none⟩ = some v) : Calls Tryd.prog 43 #[.pointer (some ⟨jb, 0, none⟩)] w fun e w' => e = .returned v ∧ w' = w := by
  go_enter Tryd.func43, Tryd.ntmps43
  go_wp2
  go_ret
  exact ⟨rfl, rfl⟩

end Go.Proofs.Qxb6605725aDoor
