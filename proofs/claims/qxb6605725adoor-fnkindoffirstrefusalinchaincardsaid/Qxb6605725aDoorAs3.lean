/-
  errors.as (19) at what errors.Join makes.
-/
import Derived.Test.Qxb6605725aDoorJoin
namespace Go.Proofs.Qxb6605725aDoor
open Go.RowKit Go.Extern.Stop Go.Stop Go.Extern

/-- The slice's cells. -/
theorem row_cell {w : World} {base n g cap : Nat} {xs : List Value} (hr : w.ownsRow base 35 1 (.slice (some ⟨g, 0, none⟩) n cap) n xs) (j : Nat) (x : Value) (hx : xs[j]? = some x) : w.cell? ⟨g, j, none⟩ = some x := by
  have h := World.ownsRow.cells hr (g := g) rfl j x hx
  have e : (⟨g, 0, none⟩ : Addr).add j = ⟨g, j, none⟩ := by unfold Addr.add; split <;> simp_all
  rw [e] at h
  exact h

set_option maxHeartbeats 4000000 in
/-- A plain error first, then a Refusal: true; the target gets it. -/
theorem as19_join_hit (J g cap : Nat) (x0 : Value) (e : Addr) (tb n : Nat) (old : Value) (w : World) (hn : w.cell? ⟨n, 0, none⟩ = some (.pointer (some ⟨tb, 0, none⟩))) (ht : Target w tb old)
    (hj : JoinAt w J (.slice (some ⟨g, 0, none⟩) 3 cap)) (h0 : w.cell? ⟨g, 0, none⟩ = some (.iface 40 x0)) (h1 : w.cell? ⟨g, 1, none⟩ = some (.iface 31 (.pointer (some e)))) :
    Calls Tryd.prog 19 #[.iface 44 (.pointer (some ⟨J, 0, none⟩)), .iface 39 (.pointer (some ⟨tb, 0, none⟩)), tval n, ttyp] w fun ev w' => ev = .returned (.bool true) ∧ w.grownBy w' (some tb) ∧ Target w' tb (.pointer (some e)) := by
  have h20 := @run_callFunc_extern Tryd.prog 20 _ ReflectliteType.typeOf Tryd.func20 (by kernel_rfl) (by kernel_rfl) (by kernel_rfl) (by kernel_rfl)
  have h48 := @run_callFunc_extern Tryd.prog 48 _ (ReflectliteType.relation "AssignableTo" ReflectliteType.assignableTo) Tryd.func48 (by kernel_rfl) (by kernel_rfl) (by kernel_rfl) (by kernel_rfl)
  have tO := typeOf44
  have mA := methodAssignableTo
  have a44 := assignable44
  have t1 := noAs44
  have t2 := noOne44
  have t3 := many44
  have mU := methodUnwrap
  have hgl := World.block_lt_of_cell? _ _ h0
  have hnl := World.block_lt_of_cell? _ _ hn
  simp only at hgl hnl
  have HN : Hid (w.cell? ⟨n, 0, none⟩ = some (.pointer (some ⟨tb, 0, none⟩))) := hn
  have HT : Hid (Target w tb old) := ht
  have HJ : Hid (JoinAt w J (.slice (some ⟨g, 0, none⟩) 3 cap)) := hj
  have hjc := Joins.cell_of_block hj 0
  clear hn ht hj
  unfold tval ttyp
  go_enter Tryd.func19, Tryd.ntmps19
  go_wp2_with fail
  refine wp_loop_rounds 1 ?_
  rw [rounds_succ]
  go_wp2_with fail
  go_wp2_with (go_at_call 43; refine (unwrap_any J _ _ ((World.cell?_alloc_lt _ _ ⟨J, 0, none⟩ HJ.out.lt).trans hjc)).mono ?_; rintro ev w' ⟨rfl, rfl⟩)
  refine wp_loop_rounds 2 ?_
  rw [rounds_succ]
  go_wp2_with fail
  have hp := as19_plain x0 (.iface 39 (.pointer (some ⟨tb, 0, none⟩))) n (w.alloc (.cells #[.pointer (some ⟨1, 39, none⟩), .pointer (some ⟨n, 0, none⟩), .int .u64 150] 50))
  unfold tval ttyp at hp
  refine hp.mono ?_
  rintro ev w1 ⟨rfl, hg1⟩
  clear hp
  have hb6 := (hg1.block w.heap.size (by simp) (by simp)).trans (heap_alloc_new w _)
  have b0 := Joins.cell_of_block hb6 0
  have b1 := Joins.cell_of_block hb6 1
  have b2 := Joins.cell_of_block hb6 2
  have h1' : w1.cell? ⟨g, 1, none⟩ = some (.iface 31 (.pointer (some e))) := (hg1.cell_far ⟨g, 1, none⟩ (by simp; omega) (by simp)).trans ((World.cell?_alloc_lt _ _ ⟨g, 1, none⟩ hgl).trans h1)
  have HQ : Hid (Calls Tryd.prog 19 #[.iface 31 (.pointer (some e)), .iface 39 (.pointer (some ⟨tb, 0, none⟩)), .agg #[.pointer (some ⟨1, 39, none⟩), .pointer (some ⟨n, 0, none⟩), .int .u64 150], .iface 61 (.agg #[.pointer (some ⟨1, 31, none⟩)])] w1 fun ev w' => ev = .returned (.bool true) ∧ w1.grownBy w' (some tb) ∧ Target w' tb (.pointer (some e))) := by
    have h := as19_hit e tb n old w1 ((hg1.cell_far ⟨n, 0, none⟩ (by simp; omega) (by simp)).trans ((World.cell?_alloc_lt _ _ ⟨n, 0, none⟩ hnl).trans HN.out)) ((HT.out.alloc _).kept hg1 (by simp))
    unfold tval ttyp at h
    exact h
  have HG : Hid (w.grownBy w1 (some tb)) := grown_any ((World.grownBy_alloc w _ _).trans hg1) _
  clear hg1 hb6 h0 h1
  go_wp2_with fail
  rw [rounds_succ]
  go_wp2_with fail
  refine HQ.out.mono ?_
  rintro ev w2 ⟨rfl, hg2, ht2⟩
  clear HQ
  have hgf := HG.out.trans hg2
  go_wp2_with fail
  go_ret
  exact ⟨rfl, hgf, ht2⟩

set_option maxHeartbeats 4000000 in
/-- Two plain errors: false. -/
theorem as19_join_miss (J g cap : Nat) (x0 x1 : Value) (t : Value) (n : Nat) (w : World)
    (hj : JoinAt w J (.slice (some ⟨g, 0, none⟩) 2 cap)) (h0 : w.cell? ⟨g, 0, none⟩ = some (.iface 40 x0)) (h1 : w.cell? ⟨g, 1, none⟩ = some (.iface 40 x1)) :
    Calls Tryd.prog 19 #[.iface 44 (.pointer (some ⟨J, 0, none⟩)), t, tval n, ttyp] w fun ev w' => ev = .returned (.bool false) ∧ w.grownBy w' none := by
  have h20 := @run_callFunc_extern Tryd.prog 20 _ ReflectliteType.typeOf Tryd.func20 (by kernel_rfl) (by kernel_rfl) (by kernel_rfl) (by kernel_rfl)
  have h48 := @run_callFunc_extern Tryd.prog 48 _ (ReflectliteType.relation "AssignableTo" ReflectliteType.assignableTo) Tryd.func48 (by kernel_rfl) (by kernel_rfl) (by kernel_rfl) (by kernel_rfl)
  have tO := typeOf44
  have mA := methodAssignableTo
  have a44 := assignable44
  have t1 := noAs44
  have t2 := noOne44
  have t3 := many44
  have mU := methodUnwrap
  have hgl := World.block_lt_of_cell? _ _ h0
  simp only at hgl
  have HJ : Hid (JoinAt w J (.slice (some ⟨g, 0, none⟩) 2 cap)) := hj
  have hjc := Joins.cell_of_block hj 0
  clear hj
  unfold tval ttyp
  go_enter Tryd.func19, Tryd.ntmps19
  go_wp2_with fail
  refine wp_loop_rounds 1 ?_
  rw [rounds_succ]
  go_wp2_with fail
  go_wp2_with (go_at_call 43; refine (unwrap_any J _ _ ((World.cell?_alloc_lt _ _ ⟨J, 0, none⟩ HJ.out.lt).trans hjc)).mono ?_; rintro ev w' ⟨rfl, rfl⟩)
  refine wp_loop_rounds 3 ?_
  rw [rounds_succ]
  go_wp2_with fail
  have hp := as19_plain x0 t n (w.alloc (.cells #[.pointer (some ⟨1, 39, none⟩), .pointer (some ⟨n, 0, none⟩), .int .u64 150] 50))
  unfold tval ttyp at hp
  refine hp.mono ?_
  rintro ev w1 ⟨rfl, hg1⟩
  clear hp
  have hb6 := (hg1.block w.heap.size (by simp) (by simp)).trans (heap_alloc_new w _)
  have b0 := Joins.cell_of_block hb6 0
  have b1 := Joins.cell_of_block hb6 1
  have b2 := Joins.cell_of_block hb6 2
  have h1' : w1.cell? ⟨g, 1, none⟩ = some (.iface 40 x1) := (hg1.cell_far ⟨g, 1, none⟩ (by simp; omega) (by simp)).trans ((World.cell?_alloc_lt _ _ ⟨g, 1, none⟩ hgl).trans h1)
  have HQ : Hid (Calls Tryd.prog 19 #[.iface 40 x1, t, .agg #[.pointer (some ⟨1, 39, none⟩), .pointer (some ⟨n, 0, none⟩), .int .u64 150], .iface 61 (.agg #[.pointer (some ⟨1, 31, none⟩)])] w1 fun ev w' => ev = .returned (.bool false) ∧ w1.grownBy w' none) := by
    have h := as19_plain x1 t n w1
    unfold tval ttyp at h
    exact h
  have HG : Hid (w.grownBy w1 none) := (World.grownBy_alloc w _ _).trans hg1
  clear hg1 hb6 h0 h1
  go_wp2_with fail
  rw [rounds_succ]
  go_wp2_with fail
  refine HQ.out.mono ?_
  rintro ev w2 ⟨rfl, hg2⟩
  clear HQ
  have hgf := HG.out.trans hg2
  go_wp2_with fail
  rw [rounds_succ]
  go_wp2_with fail
  go_ret
  exact ⟨rfl, hgf⟩

end Go.Proofs.Qxb6605725aDoor
