/-
  ZZKindOfJoined (10), ZZKindOfJoinedPlain (11), zzBytes (9).
-/
import Derived.Test.Qxb6605725aDoorAs3
namespace Go.Proofs.Qxb6605725aDoor
open Go.RowKit Go.Extern.Stop Go.Stop Go.Extern

/-- KindOf (12) of a joined error: a plain one, then a Refusal. -/
theorem kind_joined (J B : Nat) (v x0 x2 : Value) (eb : Nat) (k : Int) (w : World) (hg : Var0 w) (hk : w.cell? ⟨eb, 0, none⟩ = some (.int .i64 k)) (hj : JoinAt w J v)
    (hr : w.ownsRow B 35 1 v 3 [.iface 40 x0, .iface 31 (.pointer (some ⟨eb, 0, none⟩)), x2]) :
    Calls Tryd.prog 12 #[.iface 44 (.pointer (some ⟨J, 0, none⟩))] w fun e w' => e = .returned (.int .i64 k) ∧ Below w.heap.size w w' := by
  obtain ⟨g, cap, rfl, _, hgl⟩ := hr.form (by decide)
  refine kind_hit 44 _ eb k w hg hk (as19_join_hit J g cap x0 ⟨eb, 0, none⟩ _ _ _ _ (W19_own w) (W19_target w) ?_ ?_ ?_)
  · unfold W19
    exact ((hj.alloc _).alloc _).alloc _
  · exact ((W19_below w).cell (p := ⟨g, 0, none⟩) hgl).trans (row_cell hr 0 _ rfl)
  · exact ((W19_below w).cell (p := ⟨g, 1, none⟩) hgl).trans (row_cell hr 1 _ rfl)

/-- KindOf (12) of a joined error: two plain ones. -/
theorem kind_joined_plain (J B : Nat) (v x0 x1 : Value) (w : World) (hg : Var0 w) (hj : JoinAt w J v) (hr : w.ownsRow B 35 1 v 2 [.iface 40 x0, .iface 40 x1]) :
    Calls Tryd.prog 12 #[.iface 44 (.pointer (some ⟨J, 0, none⟩))] w fun e w' => e = .returned (.int .i64 0) ∧ Below w.heap.size w w' := by
  obtain ⟨g, cap, rfl, _, hgl⟩ := hr.form (by decide)
  refine kind_miss 44 _ w hg (as19_join_miss J g cap x0 x1 _ _ _ ?_ ?_ ?_)
  · unfold W19
    exact ((hj.alloc _).alloc _).alloc _
  · exact ((W19_below w).cell (p := ⟨g, 0, none⟩) hgl).trans (row_cell hr 0 _ rfl)
  · exact ((W19_below w).cell (p := ⟨g, 1, none⟩) hgl).trans (row_cell hr 1 _ rfl)

theorem laid_cells (w : World) (es : List Value) (sb : Nat) (h : sb = w.heap.size) (j : Nat) (hj : j < es.length) : (w.alloc (.cells es.toArray 35)).cell? ⟨sb, 0 + j, none⟩ = some es[j] := by
  subst h
  rw [Nat.zero_add, Joins.cell_of_block (heap_alloc_new w (.cells es.toArray 35)) j]
  simp [List.getElem?_eq_getElem hj]

/-- The world in which ZZKindOfJoined calls errors.Join; the errors. -/
def WJ (o : ByteArray) (k1 : Int) (m1 : ByteArray) (k2 : Int) (m2 : ByteArray) (w : World) : World :=
  ((w.alloc (.cells #[.string o] 42)).alloc (.cells #[.int .i64 k1, .string m1] 33)).alloc (.cells #[.int .i64 k2, .string m2] 33)
def errs3 (w : World) : List Value := [.iface 40 (.pointer (some ⟨w.heap.size, 0, none⟩)), .iface 31 (.pointer (some ⟨w.heap.size + 1, 0, none⟩)), .iface 31 (.pointer (some ⟨w.heap.size + 1 + 1, 0, none⟩))]
theorem WJ_size (o : ByteArray) (k1 : Int) (m1 : ByteArray) (k2 : Int) (m2 : ByteArray) (w : World) : (WJ o k1 m1 k2 m2 w).heap.size = w.heap.size + 1 + 1 + 1 := by simp [WJ]
theorem WJ_below (o : ByteArray) (k1 : Int) (m1 : ByteArray) (k2 : Int) (m2 : ByteArray) (w : World) : Below w.heap.size w (WJ o k1 m1 k2 m2 w) := by
  unfold WJ
  exact (((Below.refl _ w).alloc (Nat.le_refl _) _).alloc (by simp) _).alloc (by simp; omega) _
theorem WJ_kind (o : ByteArray) (k1 : Int) (m1 : ByteArray) (k2 : Int) (m2 : ByteArray) (w : World) : (WJ o k1 m1 k2 m2 w).cell? ⟨w.heap.size + 1, 0, none⟩ = some (.int .i64 k1) := by
  unfold WJ
  rw [World.cell?_alloc_lt _ _ ⟨w.heap.size + 1, 0, none⟩ (by simp), World.cell?_alloc_at _ _ _ _ (by simp)]
  rfl

/-- errors.Join and KindOf of what it makes. -/
theorem join3 (o : ByteArray) (k1 : Int) (m1 : ByteArray) (k2 : Int) (m2 : ByteArray) (w : World) (hg : Var0 w) :
    Calls Tryd.prog 14 #[.slice (some ⟨w.heap.size + 1 + 1 + 1, 0, none⟩) 3 3] ((WJ o k1 m1 k2 m2 w).alloc (.cells #[.iface 40 (.pointer (some ⟨w.heap.size, 0, none⟩)), .iface 31 (.pointer (some ⟨w.heap.size + 1, 0, none⟩)), .iface 31 (.pointer (some ⟨w.heap.size + 1 + 1, 0, none⟩))] 35))
      fun e w1 => ∃ J, e = .returned (.iface 44 (.pointer (some ⟨J, 0, none⟩))) ∧ Calls Tryd.prog 12 #[.iface 44 (.pointer (some ⟨J, 0, none⟩))] w1 fun e w' => e = .returned (.int .i64 k1) ∧ Below w.heap.size w w' := by
  have hs := WJ_size o k1 m1 k2 m2 w
  have hb := (WJ_below o k1 m1 k2 m2 w).alloc (o := .cells (errs3 w).toArray 35) (by omega)
  have hsz : ((WJ o k1 m1 k2 m2 w).alloc (.cells (errs3 w).toArray 35)).heap.size = w.heap.size + 1 + 1 + 1 + 1 := by simp [hs]
  have h := join_any (errs3 w) (w.heap.size + 1 + 1 + 1) 0 3 ((WJ o k1 m1 k2 m2 w).alloc (.cells (errs3 w).toArray 35)) (by simp [errs3]) (by simp [errs3])
    (by
      intro j hj
      have : j = 0 ∨ j = 1 ∨ j = 2 := by simp [errs3] at hj; omega
      rcases this with rfl | rfl | rfl <;> exact ⟨_, _, rfl⟩)
    (by omega) (fun j hj => laid_cells _ _ _ hs.symm j hj)
  refine Calls.mono h ?_
  rintro e w1 ⟨J, v, rfl, hj, hr, hb1⟩
  refine ⟨J, rfl, ?_⟩
  have hb2 : Below w.heap.size w w1 := hb.trans (hb1.mono (by omega))
  have hk : w1.cell? ⟨w.heap.size + 1, 0, none⟩ = some (.int .i64 k1) := by
    rw [hb1.cell (p := ⟨w.heap.size + 1, 0, none⟩) (by simp only [hsz]; omega), World.cell?_alloc_lt _ _ ⟨w.heap.size + 1, 0, none⟩ (by simp only [hs]; omega)]
    exact WJ_kind o k1 m1 k2 m2 w
  refine (kind_joined J _ v _ _ (w.heap.size + 1) k1 w1 (hg.below hb2 hg.pos) hk hj hr).mono ?_
  rintro e w2 ⟨rfl, hb3⟩
  exact ⟨rfl, hb2.trans (hb3.mono hb2.size)⟩

set_option maxHeartbeats 2000000 in
theorem joined_any (o : ByteArray) (k1 : Int) (m1 : ByteArray) (k2 : Int) (m2 : ByteArray) (w : World) (hg : Var0 w) :
    Calls Tryd.prog 10 #[.string o, .int .i64 k1, .string m1, .int .i64 k2, .string m2] w fun e w' => e = .returned (.int .i64 k1) ∧ Below w.heap.size w w' := by
  have hcon := join3 o k1 m1 k2 m2 w hg
  clear hg
  go_enter Tryd.func10, Tryd.ntmps10
  go_wp2_with fail
  refine (new_any o w).mono ?_
  rintro e w1 ⟨rfl, rfl⟩
  go_wp2_with fail
  refine hcon.mono ?_
  rintro e w1 ⟨J, rfl, h12⟩
  clear hcon
  go_wp2_with fail
  refine h12.mono ?_
  rintro e w2 ⟨rfl, hb⟩
  clear h12
  go_wp2_with fail
  go_ret
  exact ⟨rfl, hb⟩

def WP (a b : ByteArray) (w : World) : World := (w.alloc (.cells #[.string a] 42)).alloc (.cells #[.string b] 42)
def errs2 (w : World) : List Value := [.iface 40 (.pointer (some ⟨w.heap.size, 0, none⟩)), .iface 40 (.pointer (some ⟨w.heap.size + 1, 0, none⟩))]
theorem WP_size (a b : ByteArray) (w : World) : (WP a b w).heap.size = w.heap.size + 1 + 1 := by simp [WP]
theorem WP_below (a b : ByteArray) (w : World) : Below w.heap.size w (WP a b w) := by
  unfold WP
  exact ((Below.refl _ w).alloc (Nat.le_refl _) _).alloc (by simp) _

theorem join2 (a b : ByteArray) (w : World) (hg : Var0 w) :
    Calls Tryd.prog 14 #[.slice (some ⟨w.heap.size + 1 + 1, 0, none⟩) 2 2] ((WP a b w).alloc (.cells #[.iface 40 (.pointer (some ⟨w.heap.size, 0, none⟩)), .iface 40 (.pointer (some ⟨w.heap.size + 1, 0, none⟩))] 35))
      fun e w1 => ∃ J, e = .returned (.iface 44 (.pointer (some ⟨J, 0, none⟩))) ∧ Calls Tryd.prog 12 #[.iface 44 (.pointer (some ⟨J, 0, none⟩))] w1 fun e w' => e = .returned (.int .i64 0) ∧ Below w.heap.size w w' := by
  have hs := WP_size a b w
  have hb := (WP_below a b w).alloc (o := .cells (errs2 w).toArray 35) (by omega)
  have hsz : ((WP a b w).alloc (.cells (errs2 w).toArray 35)).heap.size = w.heap.size + 1 + 1 + 1 := by simp [hs]
  have h := join_any (errs2 w) (w.heap.size + 1 + 1) 0 2 ((WP a b w).alloc (.cells (errs2 w).toArray 35)) (by simp [errs2]) (by simp [errs2])
    (by
      intro j hj
      have : j = 0 ∨ j = 1 := by simp [errs2] at hj; omega
      rcases this with rfl | rfl <;> exact ⟨_, _, rfl⟩)
    (by omega) (fun j hj => laid_cells _ _ _ hs.symm j hj)
  refine Calls.mono h ?_
  rintro e w1 ⟨J, v, rfl, hj, hr, hb1⟩
  refine ⟨J, rfl, ?_⟩
  have hb2 : Below w.heap.size w w1 := hb.trans (hb1.mono (by omega))
  refine (kind_joined_plain J _ v _ _ w1 (hg.below hb2 hg.pos) hj hr).mono ?_
  rintro e w2 ⟨rfl, hb3⟩
  exact ⟨rfl, hb2.trans (hb3.mono hb2.size)⟩

set_option maxHeartbeats 2000000 in
theorem joined_plain_any (a b : ByteArray) (w : World) (hg : Var0 w) :
    Calls Tryd.prog 11 #[.string a, .string b] w fun e w' => e = .returned (.int .i64 0) ∧ Below w.heap.size w w' := by
  have hcon := join2 a b w hg
  clear hg
  go_enter Tryd.func11, Tryd.ntmps11
  go_wp2_with fail
  refine (new_any a w).mono ?_
  rintro e w1 ⟨rfl, rfl⟩
  go_wp2_with fail
  refine (new_any b _).mono ?_
  rintro e w1 ⟨rfl, rfl⟩
  go_wp2_with fail
  refine hcon.mono ?_
  rintro e w1 ⟨J, rfl, h12⟩
  clear hcon
  go_wp2_with fail
  refine h12.mono ?_
  rintro e w2 ⟨rfl, hb⟩
  clear h12
  go_wp2_with fail
  go_ret
  exact ⟨rfl, hb⟩

end Go.Proofs.Qxb6605725aDoor
