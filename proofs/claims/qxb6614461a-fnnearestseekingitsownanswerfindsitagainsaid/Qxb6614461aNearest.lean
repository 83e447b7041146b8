/-
  nearest (13), ZZnearest (9).
-/
import Derived.Test.Qxb6614461aBuild
import Derived.Test.Qxb6614461aSearch
import Derived.Maps.OwnSet
import Derived.RegionTactic
namespace Go.Proofs.Qxb6614461a
open Go.ChangeShapes Go.WideShapes Go.RowKit
open Go.Sort (grow grow_empty grow_grow alloc_eq_grow)
open Go.Shelf Go.Lib

/-- What a look-up at n gives, whatever the marks' map is. -/
theorem Marks.look {w : World} {T k : Nat} {mv : Value} {V : Int → Value} {L : Int → List (Int × Int × Int)} (h : Marks w T k mv V L) (n : Int) (hn : (Lit.int .i64 n).wf = true) :
    (Instr.lookup 44 mv (.int .i64 n) false).run Try.prog w = .ok (V n) w := by
  rcases h.map with ⟨rfl, hV⟩ | ⟨b, rfl, _, hb⟩
  · rw [hV n]
    exact Maps.look_nil (w := w) false law3 Try.underlying44 (zero47 w) (Maps.keyOf_int_mk Try.underlying3 hn)
  · exact hb.look n hn

theorem Marks.alloc {w : World} {T k : Nat} {mv : Value} {V : Int → Value} {L : Int → List (Int × Int × Int)} (h : Marks w T k mv V L) (o : Obj) : Marks (w.alloc o) T k mv V L := by
  refine ⟨?_, fun n => (h.row n).alloc o, h.apart⟩
  rcases h.map with h1 | ⟨b, h1, h2, h3⟩
  · exact .inl h1
  · exact .inr ⟨b, h1, h2, h3.alloc o⟩

theorem spots_len (L : List (Int × Int × Int)) : (spots L).length = L.length * 3 := by
  induction L with
  | nil => rfl
  | cons a r ih => simp [spots] at ih ⊢; omega
theorem spots_at : ∀ (L : List (Int × Int × Int)) (i : Nat) (h : i < L.length), (spots L)[i * 3]? = some (.int .i64 (L[i]).1) ∧ (spots L)[i * 3 + 1]? = some (.int .i64 (L[i]).2.1) ∧ (spots L)[i * 3 + 2]? = some (.int .i64 (L[i]).2.2)
  | [], i, h => by simp at h
  | s :: r, 0, h => by simp [spots]
  | s :: r, i + 1, h => by
    have ih := spots_at r i (by simpa using h)
    have e : ∀ j, (spots (s :: r))[(i + 1) * 3 + j]? = (spots r)[i * 3 + j]? := fun j => by
      show (([.int .i64 s.1, .int .i64 s.2.1, .int .i64 s.2.2] ++ spots r : List Value))[(i + 1) * 3 + j]? = _
      rw [List.getElem?_append_right (by simp; omega)]
      congr 1
      simp
      omega
    have e0 := e 0
    simp only [Nat.add_zero] at e0
    rw [e0, e 1, e 2]
    exact ih

/-- What a row of marks looks like. -/
theorem marks_form {w : World} {base : Nat} {v : Value} {M : List (Int × Int × Int)} (h : w.ownsRow base 38 3 v M.length (spots M)) (hM : 0 < M.length) :
    ∃ b o cap, v = .slice (some ⟨b, o, none⟩) M.length cap ∧ b < w.heap.size ∧ ∀ i (hi : i < M.length), w.cell? ⟨b, o + i * 3, none⟩ = some (.int .i64 (M[i]).1) ∧ w.cell? ⟨b, o + i * 3 + 1, none⟩ = some (.int .i64 (M[i]).2.1) ∧ w.cell? ⟨b, o + i * 3 + 2, none⟩ = some (.int .i64 (M[i]).2.2) := by
  obtain ⟨g, cap, hv, hb, hl⟩ := World.ownsRow.form h hM
  subst hv
  have hc := World.ownsRow.cells h (g := g) rfl
  have e : ∀ j, (⟨g, 0, none⟩ : Addr).add j = ⟨g, 0 + j, none⟩ := fun j => by unfold Addr.add; split <;> simp_all
  refine ⟨g, 0, cap, rfl, hl, fun i hi => ?_⟩
  obtain ⟨s1, s2, s3⟩ := spots_at M i hi
  have a1 := hc _ _ s1
  have a2 := hc _ _ s2
  have a3 := hc _ _ s3
  rw [e] at a1 a2 a3
  exact ⟨a1, a2, a3⟩

/-- The world in which nearest calls sort.Search. -/
def W13 (w : World) (st en : Int) (f v : Value) : World :=
  (((w.alloc (.cells #[.int .i64 st, .int .i64 en] 41)).alloc (.cells #[f] 42)).alloc (.cells #[.int .i64 0, .int .i64 0, .int .i64 0] 38)).alloc (.cells #[v] 47)
theorem W13_size (w : World) (st en : Int) (f v : Value) : (W13 w st en f v).heap.size = w.heap.size + 1 + 1 + 1 + 1 := by simp [W13]
theorem W13_old (w : World) (st en : Int) (f v : Value) {b : Nat} (h : b < w.heap.size) : (W13 w st en f v).heap[b]? = w.heap[b]? := by
  unfold W13
  rw [Below.heap_alloc _ _ b (by simp; omega), Below.heap_alloc _ _ b (by simp; omega), Below.heap_alloc _ _ b (by simp; omega), Below.heap_alloc _ _ b h]
theorem W13_0 (w : World) (st en : Int) (f v : Value) : (W13 w st en f v).heap[w.heap.size]? = some (.cells #[.int .i64 st, .int .i64 en] 41 (0, 0)) := by
  unfold W13
  rw [Below.heap_alloc _ _ _ (by simp; omega), Below.heap_alloc _ _ _ (by simp; omega), Below.heap_alloc _ _ _ (by simp), heap_alloc_new]
theorem W13_1 (w : World) (st en : Int) (f v : Value) : (W13 w st en f v).heap[w.heap.size + 1]? = some (.cells #[f] 42 (0, 0)) := by
  unfold W13
  rw [Below.heap_alloc _ _ _ (by simp), Below.heap_alloc _ _ _ (by simp)]
  have := heap_alloc_new (w.alloc (.cells #[.int .i64 st, .int .i64 en] 41)) (.cells #[f] 42)
  rwa [World.size_alloc] at this
theorem W13_2 (w : World) (st en : Int) (f v : Value) : (W13 w st en f v).heap[w.heap.size + 1 + 1]? = some (.cells #[.int .i64 0, .int .i64 0, .int .i64 0] 38 (0, 0)) := by
  unfold W13
  rw [Below.heap_alloc _ _ _ (by simp)]
  have := heap_alloc_new ((w.alloc (.cells #[.int .i64 st, .int .i64 en] 41)).alloc (.cells #[f] 42)) (.cells #[.int .i64 0, .int .i64 0, .int .i64 0] 38)
  rwa [World.size_alloc, World.size_alloc] at this
theorem W13_3 (w : World) (st en : Int) (f v : Value) : (W13 w st en f v).heap[w.heap.size + 1 + 1 + 1]? = some (.cells #[v] 47 (0, 0)) := by
  unfold W13
  have := heap_alloc_new (((w.alloc (.cells #[.int .i64 st, .int .i64 en] 41)).alloc (.cells #[f] 42)).alloc (.cells #[.int .i64 0, .int .i64 0, .int .i64 0] 38)) (.cells #[v] 47)
  rwa [World.size_alloc, World.size_alloc, World.size_alloc] at this
theorem W13_below (w : World) (st en : Int) (f v : Value) : Below w.heap.size w (W13 w st en f v) := by
  unfold W13
  exact ((((Below.refl _ w).alloc (Nat.le_refl _) _).alloc (by simp) _).alloc (by simp; omega) _).alloc (by simp; omega) _

/-- Behind the search: what nearest reads and writes there. -/
theorem after_search {w w2 : World} {st en : Int} {f v : Value} {q : Nat} {os : Array Obj} (hw : w2 = grow ((W13 w st en f v).drewN q) os) :
    w2.cell? ⟨w.heap.size, 0, none⟩ = some (.int .i64 st) ∧ w2.cell? ⟨w.heap.size + 1 + 1 + 1, 0, none⟩ = some v ∧ w2.cell? ⟨w.heap.size + 1 + 1, 0, none⟩ = some (.int .i64 0) ∧ w2.cell? ⟨w.heap.size + 1 + 1, 1, none⟩ = some (.int .i64 0) ∧ w2.cell? ⟨w.heap.size + 1 + 1, 2, none⟩ = some (.int .i64 0) ∧
    (∀ i, w2.frozen? ⟨w.heap.size + 1 + 1, i, none⟩ = false) ∧ Below w.heap.size w w2 := by
  have hsz := W13_size w st en f v
  have hb : Below (W13 w st en f v).heap.size (W13 w st en f v) w2 := by rw [hw]; exact below_grown_sl _ _ _ _ (Nat.le_refl _)
  have h0 := (hb.block w.heap.size (by omega)).trans (W13_0 w st en f v)
  have h2 := (hb.block (w.heap.size + 1 + 1) (by omega)).trans (W13_2 w st en f v)
  have h3 := (hb.block (w.heap.size + 1 + 1 + 1) (by omega)).trans (W13_3 w st en f v)
  exact ⟨Joins.cell_of_block h0 0, Joins.cell_of_block h3 0, Joins.cell_of_block h2 0, Joins.cell_of_block h2 1, Joins.cell_of_block h2 2, fun i => Joins.unfrozen_of_block h2 i, (W13_below w st en f v).trans (hb.mono (by omega))⟩

/-- nearest where no mark lies on the line. -/
theorem near_nil {M : List (Int × Int × Int)} (st : Nat) (col : Int) (h : before M col = 0) : near M st col = ((st : Int), 0, 0) := by unfold near; rw [if_pos h]
theorem near_at {M : List (Int × Int × Int)} (st : Nat) (col : Int) (h : before M col ≠ 0) (h2 : before M col - 1 < M.length) : near M st col = M[before M col - 1] := by
  unfold near
  rw [if_neg h, List.getD_eq_getElem?_getD, List.getElem?_eq_getElem h2]
  rfl

theorem count_range (M : List (Int × Int × Int)) (col : Int) : (List.range M.length).countP (fun i => !(!decide ((M.getD i (0, 0, 0)).2.1 < col))) = before M col := by
  unfold before
  have h : M = (List.range M.length).map (fun i => M.getD i (0, 0, 0)) := by
    apply List.ext_getElem
    · simp
    · intro i h1 h2
      simp only [List.getElem_map, List.getElem_range]
      rw [List.getD_eq_getElem?_getD, List.getElem?_eq_getElem h1]
      rfl
  conv => rhs; rw [h]
  rw [List.countP_map]
  congr 1
  funext i
  simp

set_option maxHeartbeats 4000000 in
theorem nearest_any (T k bc : Nat) (tv lv mv : Value) (V : Int → Value) (L : Int → List (Int × Int × Int)) (n col : Int) (st : Nat) (en : Int) (w : World) (hwn : (Lit.int .i64 n).wf = true) (hL : (L n).length ≤ 1048576)
    (ht : TextAt w T tv lv mv) (hM : Marks w T k mv V L) (hcol : w.cell? ⟨bc, 0, none⟩ = some (.int .i64 col)) (hmono : ∀ i j (hi : i < (L n).length) (hj : j < (L n).length), i ≤ j → ((L n)[i]).2.1 ≤ ((L n)[j]).2.1) :
    Calls Try.prog 13 #[.pointer (some ⟨T, 0, none⟩), .int .i64 n, .agg #[.int .i64 st, .int .i64 en], .func (.func 14) #[] #[.pointer (some ⟨bc, 0, none⟩)]] w
      fun r w' => r = .returned (.agg #[.int .i64 (near (L n) st col).1, .int .i64 (near (L n) st col).2.1, .int .i64 (near (L n) st col).2.2]) ∧ Below w.heap.size w w' := by
  have hlook : ∀ o1 o2 o3, (Instr.lookup 44 mv (.int .i64 n) false).run Try.prog (((w.alloc o1).alloc o2).alloc o3) = .ok (V n) (((w.alloc o1).alloc o2).alloc o3) := fun o1 o2 o3 => (((hM.alloc o1).alloc o2).alloc o3).look n hwn
  have ct3 : ∀ o1 o2 o3, (((w.alloc o1).alloc o2).alloc o3).cell? ⟨T, 2, none⟩ = some mv := fun o1 o2 o3 => cell_alloc_sl _ (cell_alloc_sl _ (cell_alloc_sl _ ht.cells.2.2.1))
  have htl := ht.lt
  have hrow := hM.row n
  generalize V n = v at hlook hrow
  generalize L n = M at hrow hL hmono ⊢
  clear hM ht
  by_cases hz : M.length = 0
  · obtain ⟨ao, cap, rfl⟩ : ∃ ao cap, v = .slice ao 0 cap := by
      rcases hrow.2 with ⟨h, _⟩ | ⟨g, cap, cur, h, _⟩
      · exact ⟨_, _, h⟩
      · rw [hz] at h; exact ⟨_, _, h⟩
    have hS := search_any #[.pointer (some ⟨w.heap.size + 1, 0, none⟩), .pointer (some ⟨w.heap.size + 1 + 1 + 1, 0, none⟩)] 0 (fun _ => true) (W13 w st en (.func (.func 14) #[] #[.pointer (some ⟨bc, 0, none⟩)]) (.slice ao 0 cap)) (by omega)
      (fun _ _ i hi => absurd hi (Nat.not_lt_zero _)) (fun _ _ _ _ h => h)
    have e0 : before M col = 0 := by have := before_le M col; omega
    rw [near_nil st col e0]
    clear hrow hmono hz e0 hL hcol
    go_enter Try.func13, Try.ntmps13
    go_wp2_with fail
    change Calls Try.prog 15 _ (W13 w st en (.func (.func 14) #[] #[.pointer (some ⟨bc, 0, none⟩)]) (.slice ao 0 cap)) _
    refine hS.mono ?_
    rintro e w2 ⟨rfl, q, os, hw⟩
    obtain ⟨a0, a1, a2, a3, a4, a5, hb⟩ := after_search hw
    clear hw hS hlook
    simp only [List.range_zero, List.countP_nil]
    go_wp2
    exact bodyPost_ret (v := .agg #[.int .i64 st, .int .i64 0, .int .i64 0]) (by simp [results, Try.results13, go_sem, a2, a3, a4]) rfl ⟨rfl, ((hb.setCell (by simp; omega) _).setCell (by simp; omega) _).setCell (by simp; omega) _⟩
  · obtain ⟨b, o, cap, rfl, hbl, hcells⟩ := marks_form hrow (by omega)
    have hS := search_any #[.pointer (some ⟨w.heap.size + 1, 0, none⟩), .pointer (some ⟨w.heap.size + 1 + 1 + 1, 0, none⟩)] M.length (fun i => !decide ((M.getD i (0, 0, 0)).2.1 < col)) (W13 w st en (.func (.func 14) #[] #[.pointer (some ⟨bc, 0, none⟩)]) (.slice (some ⟨b, o, none⟩) M.length cap)) (by omega)
      (fun m os i hi => by
        have old : ∀ {x : Addr} {y : Value}, x.block < w.heap.size → w.cell? x = some y → (grow ((W13 w st en (.func (.func 14) #[] #[.pointer (some ⟨bc, 0, none⟩)]) (.slice (some ⟨b, o, none⟩) M.length cap)).drewN m) os).cell? x = some y := fun hx hy =>
          cell_grown (by rw [W13_size]; omega) ((World.cell?_of_block (W13_old w _ _ _ _ hx)).trans hy) m os
        obtain ⟨c1, c2, c3⟩ := hcells i hi
        have hbc := World.block_lt_of_cell? _ _ hcol
        rw [List.getD_eq_getElem?_getD, List.getElem?_eq_getElem hi]
        exact closure_any (M[i]).1 (M[i]).2.1 (M[i]).2.2 col (w.heap.size + 1) (w.heap.size + 1 + 1 + 1) bc b o M.length cap i _ hi
          (cell_grown (by rw [W13_size]; exact (by omega : w.heap.size + 1 < w.heap.size + 1 + 1 + 1 + 1)) (Joins.cell_of_block (W13_1 w _ _ _ _) 0) m os) (cell_grown (by rw [W13_size]; simp) (Joins.cell_of_block (W13_3 w _ _ _ _) 0) m os)
          (old hbc hcol) (old hbl c1) (old hbl c2) (old hbl c3))
      (fun x y hxy hy h => by
        simp only [Bool.not_eq_true', decide_eq_false_iff_not] at h ⊢
        rw [List.getD_eq_getElem?_getD, List.getElem?_eq_getElem (by omega)] at h ⊢
        have := hmono x y (by omega) hy hxy
        simp only [Option.getD_some] at h ⊢
        omega)
    rw [count_range M col] at hS
    have hle := before_le M col
    by_cases h0 : before M col = 0
    · rw [near_nil st col h0]
      rw [h0] at hS
      clear hrow hmono hL hcol hle h0 hcells
      go_enter Try.func13, Try.ntmps13
      go_wp2_with fail
      change Calls Try.prog 15 _ (W13 w st en (.func (.func 14) #[] #[.pointer (some ⟨bc, 0, none⟩)]) (.slice (some ⟨b, o, none⟩) M.length cap)) _
      refine hS.mono ?_
      rintro e w2 ⟨rfl, q, os, hw⟩
      obtain ⟨a0, a1, a2, a3, a4, a5, hb⟩ := after_search hw
      clear hw hS hlook
      go_wp2
      exact bodyPost_ret (v := .agg #[.int .i64 st, .int .i64 0, .int .i64 0]) (by simp [results, Try.results13, go_sem, a2, a3, a4]) rfl ⟨rfl, ((hb.setCell (by simp; omega) _).setCell (by simp; omega) _).setCell (by simp; omega) _⟩
    · have hlt : before M col - 1 < M.length := by omega
      rw [near_at st col h0 hlt]
      obtain ⟨c1, c2, c3⟩ := hcells _ hlt
      generalize M[before M col - 1] = s at c1 c2 c3 ⊢
      obtain ⟨j, hj⟩ : ∃ j, before M col = j + 1 := ⟨before M col - 1, by omega⟩
      rw [hj] at hS c1 c2 c3
      simp only [Nat.add_sub_cancel] at c1 c2 c3
      have hjl : (j : Int) < (M.length : Int) := by omega
      clear hrow hmono hcol hle hlt h0 hj hcells
      go_enter Try.func13, Try.ntmps13
      go_wp2_with fail
      change Calls Try.prog 15 _ (W13 w st en (.func (.func 14) #[] #[.pointer (some ⟨bc, 0, none⟩)]) (.slice (some ⟨b, o, none⟩) M.length cap)) _
      refine hS.mono ?_
      rintro e w2 ⟨rfl, q, os, hw⟩
      obtain ⟨a0, a1, a2, a3, a4, a5, hb⟩ := after_search hw
      have d1 := (hb.cell (p := ⟨b, o + j * 3, none⟩) hbl).trans c1
      have d2 := (hb.cell (p := ⟨b, o + j * 3 + 1, none⟩) hbl).trans c2
      have d3 := (hb.cell (p := ⟨b, o + j * 3 + 2, none⟩) hbl).trans c3
      clear hw hS hlook c1 c2 c3
      go_wp2
      exact bodyPost_ret (v := .agg #[.int .i64 s.1, .int .i64 s.2.1, .int .i64 s.2.2]) (by simp [results, Try.results13, go_sem, a2, a3, a4]) rfl ⟨rfl, ((hb.setCell (by simp; omega) _).setCell (by simp; omega) _).setCell (by simp; omega) _⟩

set_option maxHeartbeats 4000000 in
/-- ZZnearest: the nearest mark's place, points and units. -/
theorem ZZnearest_any (T k : Nat) (tv lv mv : Value) (V : Int → Value) (L : Int → List (Int × Int × Int)) (n col : Int) (st : Nat) (en : Int) (w : World) (hwn : (Lit.int .i64 n).wf = true) (hL : (L n).length ≤ 1048576)
    (ht : TextAt w T tv lv mv) (hM : Marks w T k mv V L) (hmono : ∀ i j (hi : i < (L n).length) (hj : j < (L n).length), i ≤ j → ((L n)[i]).2.1 ≤ ((L n)[j]).2.1) :
    Calls Try.prog 9 #[.pointer (some ⟨T, 0, none⟩), .int .i64 n, .int .i64 st, .int .i64 en, .int .i64 col] w
      fun r w' => r = .returned (.tuple #[.int .i64 (near (L n) st col).1, .int .i64 (near (L n) st col).2.1, .int .i64 (near (L n) st col).2.2]) ∧ Below w.heap.size w w' := by
  have hcon := nearest_any T k w.heap.size tv lv mv V L n col st en (w.alloc (.cells #[.int .i64 col] 3)) hwn hL (ht.alloc _) (hM.alloc _) (cell_new_sl w _ _) hmono
  generalize near (L n) st col = s at hcon ⊢
  obtain ⟨s1, s2, s3⟩ := s
  simp only at hcon ⊢
  clear hM ht hmono hL
  go_enter Try.func9, Try.ntmps9
  go_wp2_with fail
  refine hcon.mono ?_
  rintro e w2 ⟨rfl, hb⟩
  have hsz := hb.size
  simp at hsz
  have hb0 : Below w.heap.size w w2 := ((Below.refl _ w).alloc (Nat.le_refl _) _).trans (hb.mono (by simp))
  clear hcon hb
  go_wp2
  go_region
  all_goals go_wp2
  all_goals go_ret3
  all_goals exact ⟨rfl, (hb0.alloc (by omega) _).drew⟩

end Go.Proofs.Qxb6614461a
