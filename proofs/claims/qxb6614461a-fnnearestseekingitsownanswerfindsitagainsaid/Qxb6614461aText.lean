/-
  ZZnewText (10): a Text over the lines; its marks are nil.
-/
import Derived.Test.Qxb6614461aLines
import Derived.WalkKit
import Derived.Deep.AppendLies
import Derived.Deep.RegionLaw
import Derived.Lib.SmallJoins
namespace Go.Proofs.Qxb6614461a
open Go.ChangeShapes Go.WideShapes Go.RowKit

theorem Try.info41 : (Try.prog.info? 41).map (fun i => (i.zero, i.size, i.bytes)) = some (some (.agg #[.int .i64 0, .int .i64 0]), 2, 16) := by kernel_rfl

/-- Block T holds a Text: its bytes, its lines, its marks. -/
def TextAt (w : World) (T : Nat) (tv lv mv : Value) : Prop := w.heap[T]? = some (.cells #[tv, lv, mv] 46 (0, 0))

theorem TextAt.cells {w : World} {T : Nat} {tv lv mv : Value} (h : TextAt w T tv lv mv) : w.cell? ⟨T, 0, none⟩ = some tv ∧ w.cell? ⟨T, 1, none⟩ = some lv ∧ w.cell? ⟨T, 2, none⟩ = some mv ∧ (∀ i, w.frozen? ⟨T, i, none⟩ = false) :=
  ⟨Joins.cell_of_block h 0, Joins.cell_of_block h 1, Joins.cell_of_block h 2, fun i => Joins.unfrozen_of_block h i⟩
theorem TextAt.kept {w w' : World} {row : Option Nat} {T : Nat} {tv lv mv : Value} (h : TextAt w T tv lv mv) (hg : w.grownBy w' row) (hne : some T ≠ row) : TextAt w' T tv lv mv := by
  unfold TextAt at *
  rw [hg.block T (Array.getElem?_eq_some_iff.1 h).1 hne]
  exact h
theorem TextAt.alloc {w : World} {T : Nat} {tv lv mv : Value} (h : TextAt w T tv lv mv) (o : Obj) : TextAt (w.alloc o) T tv lv mv := h.kept (World.grownBy_alloc w o none) (by simp)
theorem TextAt.lt {w : World} {T : Nat} {tv lv mv : Value} (h : TextAt w T tv lv mv) : T < w.heap.size := (Array.getElem?_eq_some_iff.1 h).1

theorem TextAt.set1 {w : World} {T : Nat} {tv lv mv : Value} (h : TextAt w T tv lv mv) (v : Value) : TextAt (w.setCell ⟨T, 1, none⟩ v) T tv v mv := Joins.block_setCell h v
theorem TextAt.set2 {w : World} {T : Nat} {tv lv mv : Value} (h : TextAt w T tv lv mv) (v : Value) : TextAt (w.setCell ⟨T, 2, none⟩ v) T tv lv v := Joins.block_setCell h v

/-- A draw ahead of it makes no odds. -/
theorem undrew {w w1 : World} {row : Option Nat} (h : w.drew.grownBy w1 row) : w.grownBy w1 row := ⟨h.os, h.tape, h.output, h.size, h.block⟩

/-- What the append leaves of the rest of memory. -/
theorem app_rest {w wr w1 : World} {o : Obj} {lv : Value} {tv mv : Value} {k : Nat} {xs : List Value} {e : TypeId} {sz T : Nat} (hb : Below T w wr) (ht : TextAt wr T tv lv mv) (hrow : wr.ownsRow (T + 1) e sz lv k xs) (hg : (wr.alloc o).grownBy w1 lv.ownBlock) :
    TextAt w1 T tv lv mv ∧ Below T w w1 ∧ (∀ b o, b < T → w1.cell? ⟨b, o, none⟩ = wr.cell? ⟨b, o, none⟩) := by
  have hT := ht.lt
  have hne : some T ≠ lv.ownBlock := fun h => by have := (hrow.lt T h.symm).1; omega
  refine ⟨(ht.alloc o).kept hg hne, (hb.alloc (by omega) o).grown hg (by simp; omega) (fun k hk => by have := (hrow.lt k hk).1; omega), fun b p hbT => ?_⟩
  have h1 : w1.cell? ⟨b, p, none⟩ = (wr.alloc o).cell? ⟨b, p, none⟩ := hg.cell_far ⟨b, p, none⟩ (by simp; omega) (fun h => by have := (hrow.lt b h.symm).1; omega)
  rw [h1]
  exact World.cell?_of_block (Below.heap_alloc wr o b (by omega))

set_option maxHeartbeats 4000000 in
theorem newText_any (ta : Option Addr) (tn tc : Nat) (A E : Nat → Int) (b1 o1 c1 b2 o2 c2 n : Nat) (w : World) (hn : n ≤ 1048577) (hb1 : b1 < w.heap.size) (hb2 : b2 < w.heap.size)
    (hA : ∀ j, j < n → w.cell? ⟨b1, o1 + j, none⟩ = some (.int .i64 (A j))) (hE : ∀ j, j < n → w.cell? ⟨b2, o2 + j, none⟩ = some (.int .i64 (E j))) :
    Calls Try.prog 10 #[.slice ta tn tc, .slice (some ⟨b1, o1, none⟩) n c1, .slice (some ⟨b2, o2, none⟩) n c2] w fun r w' => ∃ lv, r = .returned (.pointer (some ⟨w.heap.size, 0, none⟩)) ∧ TextAt w' w.heap.size (.slice ta tn tc) lv (.map none) ∧ Below w.heap.size w w' := by
  obtain ⟨i0, hi, hz0, hz1, hz2⟩ := info_parts Try.info41
  have HA : Hid (∀ j, j < n → w.cell? ⟨b1, o1 + j, none⟩ = some (.int .i64 (A j))) := hA
  have HE : Hid (∀ j, j < n → w.cell? ⟨b2, o2 + j, none⟩ = some (.int .i64 (E j))) := hE
  clear hA hE
  go_enter Try.func10, Try.ntmps10
  go_wp2
  go_loopw [8] (fun i wr => ∃ (k : Nat) (lv : Value) (xs : List Value), k ≤ n ∧ i = .int .i64 k ∧ TextAt wr w.heap.size (.slice ta tn tc) lv (.map none) ∧ wr.ownsRow (w.heap.size + 1) 41 2 lv k xs ∧ Below w.heap.size w wr)
    (fun i _ => n - (intOf i).toNat)
  case atStart => exact ⟨0, .slice none 0 0, [], Nat.zero_le _, rfl, heap_alloc_new w _, World.ownsRow_nil _ _ _ _, (Below.refl _ _).alloc (Nat.le_refl _) _⟩
  case round =>
    obtain ⟨k, lv, xs, hk, rfl, ht, hrow, hb⟩ := hrel
    have hsz := hb.size
    have htl := ht.lt
    by_cases hlt : k < n
    · have ca : wr.cell? ⟨b1, o1 + k, none⟩ = some (.int .i64 (A k)) := (hb.cell (by exact hb1)).trans (HA.out k hlt)
      have ce : wr.cell? ⟨b2, o2 + k, none⟩ = some (.int .i64 (E k)) := (hb.cell (by exact hb2)).trans (HE.out k hlt)
      obtain ⟨ct0, ct1, ct2, ctf⟩ := ht.cells
      generalize A k = x at *
      generalize E k = y at *
      go_wp2
      go_region_law (refine step_append_lies _ rfl (.tmp 28) (.tmp 38) 43 rfl (w.heap.size + 1) 41 i0 (.agg #[.int .i64 0, .int .i64 0]) 2 16 Try.underlying43 hi hz0 hz1 hz2 rfl (by decide) lv k xs rfl (by exact hrow.alloc _) ⟨wr.heap.size, 0, none⟩ 1 1 [.int .i64 x, .int .i64 y] rfl rfl (by exact World.news_of_block (cs := #[.int .i64 x, .int .i64 y]) (heap_alloc_new wr _)) (ints_oneCell .i64 [x, y]) (by decide) (by unfold maxLen; omega) (by omega) (by simp; omega) (wr.heap.size + 1) (by simp) ?_; intro g cap w1 hown1 hgrow hat hlt1; obtain ⟨ht1, hb1', hcells⟩ := app_rest hb ht hrow (undrew hgrow); obtain ⟨cu0, cu1, cu2, cuf⟩ := ht1.cells)
      all_goals
        go_wp2
        go_roundw
        case rel => exact ⟨k + 1, _, _, by omega, by go_num, ht1.set1 _, ownsRow_setCell_below hown1 (Nat.lt_succ_self _) _, hb1'.setCell (Nat.le_refl _) _⟩
        case measure => simp [intOf]; omega
    · go_wp2
      go_ret
      exact ⟨lv, rfl, ht, hb⟩

end Go.Proofs.Qxb6614461a
