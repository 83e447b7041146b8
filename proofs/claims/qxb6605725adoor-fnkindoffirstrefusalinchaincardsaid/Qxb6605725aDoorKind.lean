/-
  KindOf (12): of nil, of a Refusal, of what errors.New makes; by errors.as.
-/
import Derived.Test.Qxb6605725aDoorAs2
namespace Go.Proofs.Qxb6605725aDoor
open Go.RowKit Go.Extern.Stop Go.Stop Go.Extern

/-- The listed variable holds reflectlite's type of 'error'. -/
def Var0 (w : World) : Prop := w.cell? ⟨0, 0, none⟩ = some (.iface 61 (.agg #[.pointer (some ⟨1, 35, none⟩)]))
theorem Var0.pos {w : World} (h : Var0 w) : 0 < w.heap.size := by have := World.block_lt_of_cell? _ _ h; simpa using this
theorem Var0.below {w w' : World} {B : Nat} (h : Var0 w) (hb : Below B w w') (hB : 0 < B) : Var0 w' := (hb.cell (p := ⟨0, 0, none⟩) hB).trans h
theorem Var0.alloc {w : World} (h : Var0 w) (o : Obj) : Var0 (w.alloc o) := by
  unfold Var0
  rw [World.cell?_alloc_lt _ _ ⟨0, 0, none⟩ h.pos]
  exact h

theorem kind_nil (w : World) : Calls Tryd.prog 12 #[.nilIface] w fun e w' => e = .returned (.int .i64 0) ∧ Below w.heap.size w w' := by
  go_enter Tryd.func12, Tryd.ntmps12
  go_wp2_with (go_at_call 15; refine (as_nil _ _).mono ?_; rintro e w' ⟨rfl, rfl⟩)
  go_ret
  exact ⟨rfl, (Below.refl _ _).alloc (Nat.le_refl _) _⟩

/-- The world in which errors.as is called. -/
def W19 (w : World) : World := ((w.alloc (.cells #[.pointer none] 31)).alloc (.cells #[.pointer (some ⟨w.heap.size, 0, none⟩)] 39)).alloc (.cells #[.pointer (some ⟨1, 39, none⟩), .pointer (some ⟨w.heap.size + 1, 0, none⟩), .int .u64 150] 50)
theorem W19_below (w : World) : Below w.heap.size w (W19 w) := by
  unfold W19
  exact (((Below.refl _ w).alloc (Nat.le_refl _) _).alloc (by simp) _).alloc (by simp; omega) _
theorem W19_target (w : World) : Target (W19 w) w.heap.size (.pointer none) := by
  unfold W19
  have h : Target (w.alloc (.cells #[.pointer none] 31)) w.heap.size (.pointer none) := heap_alloc_new w _
  exact (h.alloc _).alloc _
theorem W19_own (w : World) : (W19 w).cell? ⟨w.heap.size + 1, 0, none⟩ = some (.pointer (some ⟨w.heap.size, 0, none⟩)) := by
  unfold W19
  rw [World.cell?_alloc_lt _ _ ⟨w.heap.size + 1, 0, none⟩ (by simp)]
  rw [World.cell?_alloc_at _ _ _ _ (by simp)]
  rfl

theorem W19_size (w : World) : w.heap.size < (W19 w).heap.size := by simp [W19]; omega

theorem as_at (T : TypeId) (x : Value) (b : Bool) (Q : World → Prop) (w : World) (hg : Var0 w)
    (h19 : Calls Tryd.prog 19 #[.iface T x, .iface 39 (.pointer (some ⟨w.heap.size, 0, none⟩)), tval (w.heap.size + 1), ttyp] (W19 w) fun e w' => e = .returned (.bool b) ∧ Q w') :
    Calls Tryd.prog 15 #[.iface T x, .iface 39 (.pointer (some ⟨w.heap.size, 0, none⟩))] (w.alloc (.cells #[.pointer none] 31)) fun e w' => e = .returned (.bool b) ∧ Q w' := by
  refine as_of T x ⟨w.heap.size, 0, none⟩ b Q (w.alloc (.cells #[.pointer none] 31)) (hg.alloc _) ?_
  rw [World.size_alloc]
  exact h19

set_option maxHeartbeats 1000000 in
/-- errors.as finds a Refusal: its kind. -/
theorem kind_hit (T : TypeId) (x : Value) (eb : Nat) (k : Int) (w : World) (hg : Var0 w) (hk : w.cell? ⟨eb, 0, none⟩ = some (.int .i64 k))
    (h19 : Calls Tryd.prog 19 #[.iface T x, .iface 39 (.pointer (some ⟨w.heap.size, 0, none⟩)), tval (w.heap.size + 1), ttyp] (W19 w) fun e w' => e = .returned (.bool true) ∧ (W19 w).grownBy w' (some w.heap.size) ∧ Target w' w.heap.size (.pointer (some ⟨eb, 0, none⟩))) :
    Calls Tryd.prog 12 #[.iface T x] w fun e w' => e = .returned (.int .i64 k) ∧ Below w.heap.size w w' := by
  have hcon := as_at T x true _ w hg h19
  have hel := World.block_lt_of_cell? _ _ hk
  simp only at hel
  clear h19
  go_enter Tryd.func12, Tryd.ntmps12
  go_wp2_with fail
  refine hcon.mono ?_
  rintro e w' ⟨rfl, hgr, ht⟩
  have hb : Below w.heap.size w w' := (W19_below w).grown hgr (Nat.le_of_lt (W19_size w)) (fun b hb => by cases hb; exact Nat.le_refl _)
  have c1 := Joins.cell_of_block ht 0
  have c2 := (hb.cell (p := ⟨eb, 0, none⟩) hel).trans hk
  clear hcon hgr ht
  go_wp2_with fail
  go_ret
  exact ⟨rfl, hb⟩

set_option maxHeartbeats 1000000 in
/-- errors.as finds none: 0. -/
theorem kind_miss (T : TypeId) (x : Value) (w : World) (hg : Var0 w)
    (h19 : Calls Tryd.prog 19 #[.iface T x, .iface 39 (.pointer (some ⟨w.heap.size, 0, none⟩)), tval (w.heap.size + 1), ttyp] (W19 w) fun e w' => e = .returned (.bool false) ∧ (W19 w).grownBy w' none) :
    Calls Tryd.prog 12 #[.iface T x] w fun e w' => e = .returned (.int .i64 0) ∧ Below w.heap.size w w' := by
  have hcon := as_at T x false _ w hg h19
  clear h19
  go_enter Tryd.func12, Tryd.ntmps12
  go_wp2_with fail
  refine hcon.mono ?_
  rintro e w' ⟨rfl, hgr⟩
  have hb : Below w.heap.size w w' := (W19_below w).grown hgr (Nat.le_of_lt (W19_size w)) (fun b hb => by cases hb)
  clear hcon hgr
  go_wp2_with fail
  go_ret
  exact ⟨rfl, hb⟩

/-- ZZKindOfRefusal (6). -/
theorem refusal_any (k : Int) (m : ByteArray) (w : World) (hg : Var0 w) : Calls Tryd.prog 6 #[.int .i64 k, .string m] w fun e w' => e = .returned (.int .i64 k) ∧ Below w.heap.size w w' := by
  have hcon := kind_hit 31 (.pointer (some ⟨w.heap.size, 0, none⟩)) w.heap.size k (w.alloc (.cells #[.int .i64 k, .string m] 33)) (hg.alloc _) (by rw [World.cell?_alloc_at _ _ _ _ rfl]; rfl)
    (as19_hit _ _ _ _ _ (W19_own _) (W19_target _))
  go_enter Tryd.func6, Tryd.ntmps6
  go_wp2_with fail
  refine hcon.mono ?_
  rintro e w' ⟨rfl, hb⟩
  have hb0 : Below w.heap.size w w' := ((Below.refl _ w).alloc (Nat.le_refl _) _).trans (hb.mono (by simp))
  clear hcon
  go_wp2_with fail
  go_ret
  exact ⟨rfl, hb0⟩

/-- errors.New (13). -/
theorem new_any (m : ByteArray) (w : World) : Calls Tryd.prog 13 #[.string m] w fun e w' => e = .returned (.iface 40 (.pointer (some ⟨w.heap.size, 0, none⟩))) ∧ w' = w.alloc (.cells #[.string m] 42) := by
  go_enter Tryd.func13, Tryd.ntmps13
  go_wp2
  go_ret
  exact ⟨rfl, rfl⟩

/-- ZZKindOfPlain (7). -/
theorem plain_any (m : ByteArray) (w : World) (hg : Var0 w) : Calls Tryd.prog 7 #[.string m] w fun e w' => e = .returned (.int .i64 0) ∧ Below w.heap.size w w' := by
  have hcon := kind_miss 40 (.pointer (some ⟨w.heap.size, 0, none⟩)) (w.alloc (.cells #[.string m] 42)) (hg.alloc _) (as19_plain _ _ _ _)
  go_enter Tryd.func7, Tryd.ntmps7
  go_wp2_with fail
  refine (new_any m w).mono ?_
  rintro e w1 ⟨rfl, rfl⟩
  go_wp2_with fail
  refine hcon.mono ?_
  rintro e w' ⟨rfl, hb⟩
  have hb0 : Below w.heap.size w w' := ((Below.refl _ w).alloc (Nat.le_refl _) _).trans (hb.mono (by simp))
  clear hcon
  go_wp2_with fail
  go_ret
  exact ⟨rfl, hb0⟩

/-- ZZKindOfNil (8). -/
theorem nil_any (w : World) : Calls Tryd.prog 8 #[] w fun e w' => e = .returned (.int .i64 0) ∧ Below w.heap.size w w' := by
  have hcon := kind_nil w
  go_enter Tryd.func8, Tryd.ntmps8
  go_wp2_with fail
  refine hcon.mono ?_
  rintro e w' ⟨rfl, hb⟩
  clear hcon
  go_wp2_with fail
  go_ret
  exact ⟨rfl, hb⟩

end Go.Proofs.Qxb6605725aDoor
