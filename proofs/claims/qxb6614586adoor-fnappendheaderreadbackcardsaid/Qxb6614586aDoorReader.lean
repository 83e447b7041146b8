/-
  The reader: ZZnewReader (8), take (15), u8 (14), ZZreaderU8 (9), ZZreaderErr (10), ZZreaderRest (11); zzBytes (5).
-/
import Derived.Test.Qxb6614586aDoorClone
import Derived.Lib.SmallJoins
import Derived.LaidEql
namespace Go.Proofs.Qxb6614586aDoor
open Go.ChangeShapes Go.WideShapes Go.RowKit

theorem zzBytes_any (a : Option Addr) (n cap : Nat) (t : Int) (w : World) (hn : n ≤ maxLen) :
    Calls Tryd.prog 5 #[.slice a n cap, .int .u8 t] w fun e w' => e = .returned (.bool (decide ((n : Int) ≤ 1048576))) ∧ w' = w := by
  unfold maxLen at hn
  by_cases h : (n : Int) ≤ 1048576
  · have h' : ¬ (1048576 : Int) < (n : Int) := by omega
    rw [decide_eq_true h]
    go_enter Tryd.func5, Tryd.ntmps5
    go_wp2
    go_ret
    exact ⟨rfl, rfl⟩
  · have h' : (1048576 : Int) < (n : Int) := by omega
    rw [decide_eq_false h]
    go_enter Tryd.func5, Tryd.ntmps5
    go_wp2
    go_ret
    exact ⟨rfl, rfl⟩

/-- Block R is a reader: what is left, and its error. -/
def ReadAt (w : World) (R : Nat) (bv ev : Value) : Prop := w.heap[R]? = some (.cells #[bv, ev] 36 (0, 0))
theorem ReadAt.cells {w : World} {R : Nat} {bv ev : Value} (h : ReadAt w R bv ev) : w.cell? ⟨R, 0, none⟩ = some bv ∧ w.cell? ⟨R, 1, none⟩ = some ev ∧ ∀ i, w.frozen? ⟨R, i, none⟩ = false :=
  ⟨Joins.cell_of_block h 0, Joins.cell_of_block h 1, fun i => Joins.unfrozen_of_block h i⟩
theorem ReadAt.set0 {w : World} {R : Nat} {bv ev : Value} (h : ReadAt w R bv ev) (v : Value) : ReadAt (w.setCell ⟨R, 0, none⟩ v) R v ev := Joins.block_setCell h v
theorem ReadAt.set1 {w : World} {R : Nat} {bv ev : Value} (h : ReadAt w R bv ev) (v : Value) : ReadAt (w.setCell ⟨R, 1, none⟩ v) R bv v := Joins.block_setCell h v
theorem ReadAt.lt {w : World} {R : Nat} {bv ev : Value} (h : ReadAt w R bv ev) : R < w.heap.size := (Array.getElem?_eq_some_iff.1 h).1

theorem ReadAt.kept {w w' : World} {row : Option Nat} {R : Nat} {bv ev : Value} (h : ReadAt w R bv ev) (hg : w.grownBy w' row) (hne : some R ≠ row) : ReadAt w' R bv ev := by
  unfold ReadAt at *
  rw [hg.block R (Array.getElem?_eq_some_iff.1 h).1 hne]
  exact h
theorem ReadAt.alloc {w : World} {R : Nat} {bv ev : Value} (h : ReadAt w R bv ev) (o : Obj) : ReadAt (w.alloc o) R bv ev := h.kept (World.grownBy_alloc w o none) (by simp)

theorem grown_setCell (w : World) (R i : Nat) (v : Value) : w.grownBy (w.setCell ⟨R, i, none⟩ v) (some R) :=
  ⟨rfl, rfl, rfl, by simp [World.setCell], fun k _ hk => Below.heap_setCell _ _ _ _ (fun e => hk (by rw [e]))⟩

theorem newReader_any (a : Option Addr) (n cap : Nat) (w : World) :
    Calls Tryd.prog 8 #[.slice a n cap] w fun e w' => e = .returned (.pointer (some ⟨w.heap.size, 0, none⟩)) ∧ ReadAt w' w.heap.size (.slice a n cap) .nilIface ∧ Below w.heap.size w w' := by
  go_enter Tryd.func8, Tryd.ntmps8
  go_wp2
  go_ret
  exact ⟨rfl, heap_alloc_new w _, (Below.refl _ _).alloc (Nat.le_refl _) _⟩

/-- A byte is there: it is handed over, and the reader stands behind it. -/
theorem u8_yes (R g p m c : Nat) (x : Int) (w : World) (hc : m + 1 ≤ c) (hcm : c ≤ maxLen) (hr : ReadAt w R (.slice (some ⟨g, p, none⟩) (m + 1) c) .nilIface) (hx : w.cell? ⟨g, p, none⟩ = some (.int .u8 x)) (hne : g ≠ R) :
    Calls Tryd.prog 9 #[.pointer (some ⟨R, 0, none⟩)] w fun e w' => e = .returned (.int .u8 x) ∧ ∃ q, ReadAt w' R (.slice (some ⟨g, q, none⟩) m (c - 1)) .nilIface ∧ (0 < m → q = p + 1) ∧ w.grownBy w' (some R) := by
  obtain ⟨r0, r1, rf⟩ := hr.cells
  unfold maxLen at hcm
  go_enter Tryd.func9, Tryd.ntmps9
  go_wp2
  · go_ret
    exact ⟨rfl, p, hr.set0 _, fun h0 => by omega, grown_setCell _ _ _ _⟩
  · go_ret
    exact ⟨rfl, p + 1, hr.set0 _, fun _ => rfl, grown_setCell _ _ _ _⟩

theorem make1 (w : World) : (Instr.makeSlice 22 (.int .i64 1) (.int .i64 1)).run Tryd.prog w = .ok (.slice (some ⟨w.heap.size, 0, none⟩) 1 1) (w.alloc (.cells #[.int .u8 0] 5)) := by kernel_rfl

/-- No byte is there: 0 is handed over, and the reader's error is the sentinel. -/
theorem u8_no (R c : Nat) (a : Option Addr) (E : Value) (T : TypeId) (x : Value) (w : World) (hr : ReadAt w R (.slice a 0 c) .nilIface) (hE : E = .iface T x) (h0 : w.cell? ⟨0, 0, none⟩ = some E) :
    Calls Tryd.prog 9 #[.pointer (some ⟨R, 0, none⟩)] w fun e w' => e = .returned (.int .u8 0) ∧ ReadAt w' R (.slice a 0 c) E ∧ w.grownBy w' (some R) := by
  obtain ⟨r0, r1, rf⟩ := hr.cells
  have hlt := hr.lt
  have hmk := make1
  subst hE
  go_enter Tryd.func9, Tryd.ntmps9
  go_wp2
  go_ret
  exact ⟨rfl, (hr.set1 _).alloc _, (grown_setCell _ _ _ _).trans (World.grownBy_alloc _ _ _)⟩

theorem err_any (R : Nat) (bv ev : Value) (w : World) (hr : ReadAt w R bv ev) :
    Calls Tryd.prog 10 #[.pointer (some ⟨R, 0, none⟩)] w fun e w' => e = .returned ev ∧ w' = w := by
  obtain ⟨r0, r1, rf⟩ := hr.cells
  go_enter Tryd.func10, Tryd.ntmps10
  go_wp2
  go_ret
  exact ⟨rfl, rfl⟩

theorem rest_any (R : Nat) (bv ev : Value) (w : World) (hr : ReadAt w R bv ev) :
    Calls Tryd.prog 11 #[.pointer (some ⟨R, 0, none⟩)] w fun e w' => e = .returned bv ∧ w' = w := by
  obtain ⟨r0, r1, rf⟩ := hr.cells
  go_enter Tryd.func11, Tryd.ntmps11
  go_wp2
  go_ret
  exact ⟨rfl, rfl⟩

end Go.Proofs.Qxb6614586aDoor
