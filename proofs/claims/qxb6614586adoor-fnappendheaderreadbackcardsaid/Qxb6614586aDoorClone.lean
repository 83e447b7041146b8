/-
  zzCloneBytes, appendHeader, ZZappendHeader, and what a slice of bytes of the call's own is.
-/
import Derived.Test.Qxb6614586aDoorRows
import Derived.WalkKit
import Derived.WalkSpells
import Derived.Maps.AppendAt
import Derived.Deep.AppendLies
import Derived.Below
namespace Go.Proofs.Qxb6614586aDoor
open Go.ChangeShapes Go.WideShapes Go.RowKit

theorem Tryd.info5 : (Tryd.prog.info? 5).map (fun i => (i.zero, i.size, i.bytes)) = some (some (.int .u8 0), 1, 1) := by kernel_rfl

/-- A slice of the call's own that holds these bytes. -/
def Bytes (w : World) (base : Nat) (v : Value) (A : List Int) : Prop := w.ownsRow base 5 1 v A.length (A.map (Value.int .u8))

theorem Bytes.nil (w : World) (base : Nat) : Bytes w base (.slice none 0 0) [] := World.ownsRow_nil _ _ _ _
theorem Bytes.kept {w w' : World} {base : Nat} {v : Value} {A : List Int} {row : Option Nat} (h : Bytes w base v A) (hg : w.grownBy w' row) (hne : v.ownBlock = none ∨ v.ownBlock ≠ row) : Bytes w' base v A := World.ownsRow.kept h hg hne
/-- What it looks like where it is not nil. -/
theorem Bytes.form {w : World} {base : Nat} {v : Value} {A : List Int} (h : Bytes w base v A) : (v = .slice none 0 0 ∧ A = []) ∨
    ∃ g o cap, v = .slice (some ⟨g, o, none⟩) A.length cap ∧ v.ownBlock = some g ∧ base ≤ g ∧ g < w.heap.size ∧ ∀ j, j < A.length → w.cell? ⟨g, o + j, none⟩ = some (.int .u8 (A.getD j 0)) := by
  rcases h.2 with ⟨hv, hn⟩ | ⟨g, cap, cur, hv, hb, hg, _⟩
  · exact .inl ⟨hv, List.length_eq_zero_iff.1 hn⟩
  · refine .inr ⟨g, 0, cap, hv, by rw [hv]; rfl, hb, (Array.getElem?_eq_some_iff.1 hg).1, fun j hj => ?_⟩
    subst hv
    have := World.ownsRow.cells h (g := g) rfl j (.int .u8 (A.getD j 0)) (by simp [List.getElem?_map, List.getD_eq_getElem?_getD, List.getElem?_eq_getElem hj])
    have e : (⟨g, 0, none⟩ : Addr).add j = ⟨g, 0 + j, none⟩ := by unfold Addr.add; split <;> simp_all
    rw [e] at this
    exact this

/-- zzCloneBytes at nil: nil. -/
theorem clone_nil (w : World) : Calls Tryd.prog 6 #[.slice none 0 0] w fun e w' => e = .returned (.slice none 0 0) ∧ w' = w := by
  have hq := fun wx => Lib.run_eql_slice_nil (P := Tryd.prog) wx 22 5 none 0 0 0 0 Tryd.underlying22
  go_enter Tryd.func6, Tryd.ntmps6
  go_wp2
  go_ret
  exact ⟨rfl, rfl⟩

theorem take_all {n : Nat} {g : Nat → Int} {xs : List Value} (hl : xs.length = n) (h : ∀ j, j < n → xs[j]? = some (.int .u8 (g j))) : xs = ((List.range n).map g).map (Value.int .u8) := by
  apply List.ext_getElem?
  intro j
  by_cases hj : j < n
  · rw [h j hj]; simp [hj]
  · rw [List.getElem?_eq_none (by omega), List.getElem?_eq_none (by simp; omega)]

set_option maxHeartbeats 2000000 in
/-- zzCloneBytes at a slice that is not nil: its bytes in new memory. -/
theorem clone_some (x : Addr) (n cap : Nat) (g : Nat → Int) (w : World) (hn : n ≤ 1048576) (hx : 0 < n → ∃ b off, x = ⟨b, off, none⟩ ∧ b < w.heap.size ∧ ∀ j, j < n → w.cell? ⟨b, off + j, none⟩ = some (.int .u8 (g j))) :
    Calls Tryd.prog 6 #[.slice (some x) n cap] w fun e w' => ∃ v, e = .returned v ∧ v ≠ .slice none 0 0 ∧ Bytes w' w.heap.size v ((List.range n).map g) ∧ Below w.heap.size w w' := by
  have hq := fun wx => Lib.run_eql_slice_nil (P := Tryd.prog) wx 22 5 (some x) n cap 0 0 Tryd.underlying22
  obtain ⟨i0, hi, hz0, hz1, hz2⟩ := info_parts Tryd.info5
  by_cases h0 : n = 0
  · subst h0
    clear hx
    go_enter Tryd.func6, Tryd.ntmps6
    go_wp2_with (at_make; refine wpList_make_full _ rfl (.tmp 8) (.tmp 8) 22 rfl w.heap.size 5 i0 (.int .u8 0) 1 Tryd.underlying22 hi hz0 hz1 .i64 .i64 _ _ 0 rfl rfl (by simp) (by simp) (by omega) (by unfold maxLen; omega) (Nat.le_refl _) ?_; intro w1 hown hgrow)
    refine wp_loop_rounds 1 ?_
    rw [rounds_succ]
    go_wp2
    go_ret
    exact ⟨_, rfl, by simp, by simpa [Bytes, madeCells] using hown, (Below.refl _ _).grown hgrow (Nat.le_refl _) (fun k hk => by cases hk)⟩
  · obtain ⟨b, off, rfl, hb, hc⟩ := hx (by omega)
    have HC : Hid (∀ j, j < n → w.cell? ⟨b, off + j, none⟩ = some (.int .u8 (g j))) := hc
    clear hc
    go_enter Tryd.func6, Tryd.ntmps6
    go_wp2_with (at_make; refine wpList_make_full _ rfl (.tmp 8) (.tmp 8) 22 rfl w.heap.size 5 i0 (.int .u8 0) 1 Tryd.underlying22 hi hz0 hz1 .i64 .i64 _ _ n rfl rfl (by simp) (by simp) (by rw [hz2]; omega) (by unfold maxLen; omega) (Nat.le_refl _) ?_; intro w1 hown hgrow)
    have hb1 : Below w.heap.size w w1 := (Below.refl _ _).grown hgrow (Nat.le_refl _) (fun k hk => by cases hk)
    clear hgrow
    go_loopw [4] (fun i wr => ∃ (k : Nat) (xs : List Value), k ≤ n ∧ i = .int .i64 k ∧ wr.ownsRow w.heap.size 5 1 (.slice (some ⟨w.heap.size, 0, none⟩) n n) n xs ∧ Hid (∀ j, j < k → xs[j]? = some (.int .u8 (g j))) ∧ Below w.heap.size w wr) (fun i _ => n - (intOf i).toNat)
    case atStart => exact ⟨0, _, Nat.zero_le _, rfl, hown, fun j hj => by omega, hb1⟩
    case round =>
      clear hown hb1
      obtain ⟨k, xs, hk, rfl, hown, HX, hbl⟩ := hrel
      have hlx : xs.length = n * 1 := hown.1
      by_cases hlt : k < n
      · have c1 : wr.cell? ⟨b, off + k, none⟩ = some (.int .u8 (g k)) := (hbl.cell (by exact hb)).trans (HC.out k hlt)
        have c2 : wr.cell? ⟨w.heap.size, k, none⟩ = some (xs[k]'(by omega)) := by rw [hown.cellAt k (by omega), List.getElem?_eq_getElem]
        have c3 := hown.frozenAt k
        have hst := hown.stored k (.int .u8 (g k))
        have HX2 : Hid (∀ j, j < k + 1 → (xs.set k (.int .u8 (g k)))[j]? = some (.int .u8 (g j))) := fun j hj => by
          by_cases e : j = k
          · subst e; rw [List.getElem?_set_self (by omega)]
          · rw [List.getElem?_set_ne (fun h => e h.symm)]; exact HX.out j (by omega)
        obtain ⟨hst1, hst2⟩ := hst
        have hbl2 := hbl.setCell (p := ⟨w.heap.size, k, none⟩) (Nat.le_refl _) (.int .u8 (g k))
        generalize xs[k] = y at c2
        clear hst2
        go_wp2
        go_roundw
        case rel => exact ⟨k + 1, _, by omega, by go_num, hst1, HX2, hbl2⟩
        case measure => simp [intOf]; omega
      · obtain rfl : k = n := by omega
        go_wp2
        go_ret
        have e := take_all (by omega : xs.length = k) HX.out
        refine ⟨_, rfl, by simp, ?_, hbl⟩
        unfold Bytes
        rw [← e]
        simpa using hown

set_option maxHeartbeats 2000000 in
/-- appendHeader: two bytes more, behind what was there or in new memory. -/
theorem appendHeader_any (base : Nat) (v : Value) (A : List Int) (t : Int) (w : World) (hA : A.length ≤ 1048576) (hbase : base ≤ w.heap.size) (hv : Bytes w base v A) :
    Calls Tryd.prog 13 #[v, .int .u8 t] w fun e w' => ∃ v', e = .returned v' ∧ Bytes w' base v' (A ++ [t, 1]) ∧ w.grownBy w' v.ownBlock ∧ (v'.ownBlock = v.ownBlock ∨ v'.ownBlock = some (w.heap.size + 1)) := by
  obtain ⟨i0, hi, hz0, hz1, hz2⟩ := info_parts Tryd.info5
  unfold Bytes at hv
  go_enter Tryd.func13, Tryd.ntmps13
  go_wp2_with (at_builtin; refine wpList_append_own_at _ rfl (.tmp 5) (.tmp 7) 22 rfl base 5 i0 (.int .u8 0) 1 1 Tryd.underlying22 hi hz0 hz1 hz2 rfl (by decide) v _ _ rfl (hv.alloc _) ⟨w.heap.size, 0, none⟩ 2 2 [.int .u8 t, .int .u8 1] rfl rfl (by exact World.news_of_block (cs := #[.int .u8 t, .int .u8 1]) (heap_alloc_new w _)) (ints_oneCell .u8 [t, 1]) (by unfold maxLen; omega) (by omega) (by simp; omega) ?_; intro v' w1 hown hgrow _ hloc)
  go_ret
  refine ⟨v', rfl, ?_, (World.grownBy_alloc w _ _).trans hgrow, by simpa using hloc⟩
  unfold Bytes
  simpa using hown

/-- ZZappendHeader: the same. -/
theorem ZZappendHeader_any (base : Nat) (v : Value) (A : List Int) (t : Int) (w : World) (hA : A.length ≤ 1048576) (hbase : base ≤ w.heap.size) (hv : Bytes w base v A) :
    Calls Tryd.prog 7 #[v, .int .u8 t] w fun e w' => ∃ v', e = .returned v' ∧ Bytes w' base v' (A ++ [t, 1]) ∧ w.grownBy w' v.ownBlock ∧ (v'.ownBlock = v.ownBlock ∨ v'.ownBlock = some (w.heap.size + 1)) := by
  have hcon := appendHeader_any base v A t w hA hbase hv
  clear hv
  go_enter Tryd.func7, Tryd.ntmps7
  go_wp2_with fail
  refine hcon.mono ?_
  rintro e w1 ⟨v', rfl, h1, h2, h3⟩
  go_wp2_with fail
  go_ret
  exact ⟨v', rfl, h1, h2, h3⟩

theorem range_getD (A : List Int) : (List.range A.length).map (fun j => A.getD j 0) = A := by
  apply List.ext_getElem
  · simp
  · intro i h1 h2
    simp only [List.getElem_map, List.getElem_range]
    rw [List.getD_eq_getElem?_getD, List.getElem?_eq_getElem h2]
    rfl

/-- zzCloneBytes at a slice of the call's own: the same bytes in new memory. -/
theorem clone_bytes (base : Nat) (v : Value) (A : List Int) (w : World) (hA : A.length ≤ 1048576) (hv : Bytes w base v A) :
    Calls Tryd.prog 6 #[v] w fun e w' => ∃ v', e = .returned v' ∧ Bytes w' w.heap.size v' A ∧ Below w.heap.size w w' := by
  rcases hv.form with ⟨rfl, rfl⟩ | ⟨g, o, cap, rfl, _, _, hg, hc⟩
  · refine (clone_nil w).mono ?_
    rintro e w' ⟨rfl, rfl⟩
    exact ⟨_, rfl, Bytes.nil _ _, Below.refl _ _⟩
  · refine (clone_some ⟨g, o, none⟩ A.length cap (fun j => A.getD j 0) w hA (fun _ => ⟨g, o, rfl, hg, hc⟩)).mono ?_
    rintro e w' ⟨v', rfl, _, h1, h2⟩
    rw [range_getD] at h1
    exact ⟨v', rfl, h1, h2⟩

/-- What stood in memory stands while nothing of it is written. -/
theorem grown_of_below {w w' : World} (h : Below w.heap.size w w') : w.grownBy w' none := ⟨h.os, h.tape, h.output, h.size, fun k hk _ => h.block k hk⟩
theorem Bytes.below {w w' : World} {base : Nat} {v : Value} {A : List Int} (h : Bytes w base v A) (hb : Below w.heap.size w w') : Bytes w' base v A := h.kept (grown_of_below hb) (by cases v.ownBlock <;> simp)
theorem Bytes.quiet {w w' : World} {base : Nat} {v : Value} {A : List Int} (h : Bytes w base v A) (hg : w.grownBy w' none) : Bytes w' base v A := h.kept hg (by cases v.ownBlock <;> simp)
theorem Bytes.lt {w : World} {base : Nat} {v : Value} {A : List Int} (h : Bytes w base v A) : ∀ k, v.ownBlock = some k → base ≤ k ∧ k < w.heap.size := World.ownsRow.lt h

end Go.Proofs.Qxb6614586aDoor
