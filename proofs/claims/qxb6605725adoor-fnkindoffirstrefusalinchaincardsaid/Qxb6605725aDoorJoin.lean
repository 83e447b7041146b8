/-
  errors.Join (14), at errors none of which is nil.
-/
import Derived.Test.Qxb6605725aDoorKind
import Derived.Deep.AppendLies
namespace Go.Proofs.Qxb6605725aDoor
open Go.RowKit Go.Extern.Stop Go.Stop Go.Extern

theorem Tryd.info35 : (Tryd.prog.info? 35).map (fun i => (i.zero, i.size, i.bytes)) = some (some .nilIface, 1, 16) := by kernel_rfl

/-- Block J is what errors.Join makes: one field, the slice of errors. -/
def JoinAt (w : World) (J : Nat) (v : Value) : Prop := w.heap[J]? = some (.cells #[v] 46 (0, 0))
theorem JoinAt.kept {w w' : World} {row : Option Nat} {J : Nat} {v : Value} (h : JoinAt w J v) (hg : w.grownBy w' row) (hne : some J ≠ row) : JoinAt w' J v := by
  unfold JoinAt at *
  rw [hg.block J (Array.getElem?_eq_some_iff.1 h).1 hne]
  exact h
theorem JoinAt.alloc {w : World} {J : Nat} {v : Value} (h : JoinAt w J v) (o : Obj) : JoinAt (w.alloc o) J v := h.kept (World.grownBy_alloc w o none) (by simp)
theorem JoinAt.set {w : World} {J : Nat} {v : Value} (h : JoinAt w J v) (u : Value) : JoinAt (w.setCell ⟨J, 0, none⟩ u) J u := Joins.block_setCell h u
theorem JoinAt.lt {w : World} {J : Nat} {v : Value} (h : JoinAt w J v) : J < w.heap.size := (Array.getElem?_eq_some_iff.1 h).1
/-- The slice's row is another block. -/
theorem JoinAt.ne {w : World} {J base n : Nat} {v u : Value} {xs : List Value} (h : JoinAt w J v) (hr : w.ownsRow base 35 1 u n xs) : u.ownBlock ≠ some J := by
  rcases hr.2 with ⟨rfl, _⟩ | ⟨g, cap, cur, rfl, _, hg, _⟩
  · simp [Value.ownBlock]
  · intro e
    simp [Value.ownBlock] at e
    subst e
    unfold JoinAt at h
    rw [h] at hg
    simp at hg

/-- What an append onto the slice, and its store into the field, leave. -/
theorem join_step {w wr w1 : World} {o : Obj} {B J n : Nat} {v : Value} {xs : List Value} (hb : Below B w wr) (hB : B ≤ J) (hj : JoinAt wr J v) (hr : wr.ownsRow B 35 1 v n xs) (hg : (wr.alloc o).grownBy w1 v.ownBlock) :
    JoinAt w1 J v ∧ Below B w w1 := by
  have hlt := hj.lt
  exact ⟨(hj.alloc o).kept hg (fun e => hj.ne hr e.symm), (hb.alloc (by omega) o).grown hg (by simp; omega) (fun k hk => (hr.lt k hk).1)⟩

theorem take_snoc (es : List Value) (k : Nat) (h : k < es.length) : es.take (k + 1) = es.take k ++ [es[k]] := List.take_succ_eq_append_getElem h

set_option maxHeartbeats 4000000 in
theorem join_any (es : List Value) (sb so c : Nat) (w : World) (hm : 1 ≤ es.length) (hm2 : es.length ≤ 1000) (hes : ∀ j (hj : j < es.length), ∃ T x, es[j] = .iface T x) (hsb : sb < w.heap.size)
    (hc : ∀ j (hj : j < es.length), w.cell? ⟨sb, so + j, none⟩ = some es[j]) :
    Calls Tryd.prog 14 #[.slice (some ⟨sb, so, none⟩) es.length c] w fun e w' => ∃ J v, e = .returned (.iface 44 (.pointer (some ⟨J, 0, none⟩))) ∧ JoinAt w' J v ∧ w'.ownsRow w.heap.size 35 1 v es.length es ∧ Below w.heap.size w w' := by
  obtain ⟨i0, hi, hz0, hz1, hz2⟩ := info_parts Tryd.info35
  have HC : Hid (∀ j (hj : j < es.length), w.cell? ⟨sb, so + j, none⟩ = some es[j]) := hc
  have HE : Hid (∀ j (hj : j < es.length), ∃ T x, es[j] = .iface T x) := hes
  clear hc hes
  go_enter Tryd.func14, Tryd.ntmps14
  go_wp2_with fail
  go_loop [3, 11] (fun n i => ∃ k : Nat, k ≤ es.length ∧ n = .int .i64 k ∧ i = .int .i64 k) (fun _ i => es.length - (intOf i).toNat)
  case atStart => exact ⟨0, Nat.zero_le _, rfl, rfl⟩
  case round =>
    obtain ⟨k, hk, rfl, rfl⟩ := hrel
    by_cases hlt : k < es.length
    · obtain ⟨T, x, hx⟩ := HE.out k hlt
      have c1 : w.cell? ⟨sb, so + k, none⟩ = some (.iface T x) := by rw [← hx]; exact HC.out k hlt
      clear hx
      have hk2 : (k : Int) < (es.length : Int) := by omega
      go_wp2_with fail
      go_round
      case rel => exact ⟨k + 1, by omega, by go_num, by go_num⟩
      case measure => simp [intOf]; omega
    · obtain rfl : k = es.length := by omega
      have hne : ((es.length : Int) == 0) = false := beq_eq_false_iff_ne.2 (by omega)
      go_wp2_with (at_make; refine wpList_make_own _ rfl (.const (.int .i64 0)) (.tmp 22) 43 rfl w.heap.size 35 i0 .nilIface 1 Tryd.underlying43 hi hz0 hz1 .i64 .i64 _ es.length rfl rfl (by simp) (by rw [hz2]; omega) (by unfold maxLen; omega) (Nat.le_refl _) ?_; intro w1 hown hgrow)
      have hb1 : Below w.heap.size w w1 := (Below.refl _ _).grown hgrow (Nat.le_refl _) (fun k hk => by cases hk)
      have hs1 := hb1.size
      go_loopw [28] (fun i wr => ∃ (k : Nat) (v : Value), k ≤ es.length ∧ i = .int .i64 k ∧ JoinAt wr w1.heap.size v ∧ wr.ownsRow w.heap.size 35 1 v k (es.take k) ∧ Below w.heap.size w wr) (fun i _ => es.length - (intOf i).toNat)
      case atStart => exact ⟨0, _, Nat.zero_le _, rfl, heap_alloc_new w1 _, hown.alloc _, hb1.alloc hs1 _⟩
      case round =>
        clear hown hgrow hb1
        obtain ⟨k, v, hk, rfl, hj, hr, hb⟩ := hrel
        by_cases hlt : k < es.length
        · obtain ⟨T, x, hx⟩ := HE.out k hlt
          have c1 : wr.cell? ⟨sb, so + k, none⟩ = some (.iface T x) := by rw [← hx]; exact (hb.cell (by exact hsb)).trans (HC.out k hlt)
          have HT : Hid (es.take (k + 1) = es.take k ++ [.iface T x]) := by rw [← hx]; exact take_snoc es k hlt
          clear hx
          have hk2 : (k : Int) < (es.length : Int) := by omega
          have j0 := Joins.cell_of_block hj 0
          have hjl := hj.lt
          go_wp2_with (at_builtin; refine wpList_append_lies _ rfl (.tmp 38) (.tmp 40) 43 rfl w.heap.size 35 i0 .nilIface 1 16 Tryd.underlying43 hi hz0 hz1 hz2 rfl (by decide) v k (es.take k) rfl (hr.alloc _) ⟨wr.heap.size, 0, none⟩ 1 1 [.iface T x] rfl rfl (cell_one_new _ _ _) (by simp [Value.oneCell']) (by decide) (by unfold maxLen; omega) (by omega) (by simp; omega) (wr.heap.size + 1) (by simp) ?_; intro g cap w2 hr' hg2 _ _; obtain ⟨hj2, hb2⟩ := join_step hb hs1 hj hr hg2; have j1 := Joins.cell_of_block hj2 0; have jf := Joins.unfrozen_of_block hj2 0)
          go_roundw
          case rel => exact ⟨k + 1, _, by omega, by go_num, hj2.set _, by rw [HT.out]; exact ownsRow_setCell_other hr' (hj2.ne hr') _, hb2.setCell hs1 _⟩
          case measure => simp [intOf]; omega
        · obtain rfl : k = es.length := by omega
          rw [List.take_length] at hr
          go_wp2_with fail
          go_ret
          exact ⟨w1.heap.size, v, rfl, hj, hr, hb⟩

end Go.Proofs.Qxb6605725aDoor
