/-
  WHAT IS KNOWN OF A TEXT'S MARKS, and ZZaddMark (12).
-/
import Derived.Test.Qxb6614461aText
import Derived.WalkKit
import Derived.Deep.AppendLies
import Derived.Deep.RegionHeld3
import Derived.Lib.SmallJoins
import Derived.Maps.OwnSet
import Derived.Maps.OwnOps
import Derived.WalkSpells
namespace Go.Proofs.Qxb6614461a
open Go.ChangeShapes Go.WideShapes Go.RowKit
open Go.Maps (Keyed int_keyed keyOf_int_mk)

theorem Try.info38 : (Try.prog.info? 38).map (fun i => (i.zero, i.size, i.bytes)) = some (some (.agg #[.int .i64 0, .int .i64 0, .int .i64 0]), 3, 24) := by kernel_rfl
theorem law3 : Keyed Try.prog 3 := int_keyed Try.underlying3
theorem zero47 (w : World) : (zeroValue 47).run Try.prog w = .ok (.slice none 0 0) w := by kernel_rfl

/-- A map's element, taken as it stands: a token of itself. -/
def rdv (v : Value) : Option (DataW Value × List MemPlace) := some (.held v, [])

/-- Block b is a map that holds V n at n (nil where it holds nothing). -/
def MapAt (w : World) (b k : Nat) (V : Int → Value) : Prop := ∃ D : DataW Value, w.ownsMap Try.prog 3 rdv b k D ∧ ∀ n, D.atKey (.int .i64 n) (.held (.slice none 0 0)) = .held (V n)

def upd {α : Type} (f : Int → α) (n : Int) (x : α) : Int → α := fun m => if m = n then x else f m
theorem upd_same {α : Type} (f : Int → α) (n : Int) (x : α) : upd f n x n = x := by simp [upd]
theorem upd_other {α : Type} (f : Int → α) {n m : Int} (x : α) (h : m ≠ n) : upd f n x m = f m := by simp [upd, h]

theorem MapAt.made (w : World) : MapAt (w.alloc (.map #[] 0)) w.heap.size 0 (fun _ => .slice none 0 0) :=
  ⟨.map [], World.ownsMap_made w _ _ _, fun _ => rfl⟩
theorem MapAt.kept {w w' : World} {b k : Nat} {V : Int → Value} {row : Option Nat} (h : MapAt w b k V) (hg : w.grownBy w' row) (hne : some b ≠ row) : MapAt w' b k V := by
  obtain ⟨D, h1, h2⟩ := h
  exact ⟨D, h1.kept hg hne, h2⟩
theorem MapAt.alloc {w : World} {b k : Nat} {V : Int → Value} (h : MapAt w b k V) (o : Obj) : MapAt (w.alloc o) b k V := h.kept (World.grownBy_alloc w o none) (by simp)
theorem MapAt.drew {w : World} {b k : Nat} {V : Int → Value} (h : MapAt w b k V) : MapAt w.drew b k V := h
theorem MapAt.lt {w : World} {b k : Nat} {V : Int → Value} (h : MapAt w b k V) : b < w.heap.size := by
  obtain ⟨D, h1, _⟩ := h
  exact h1.lt
theorem MapAt.mono {w : World} {b k k' : Nat} {V : Int → Value} (h : MapAt w b k V) (hk : k ≤ k') : MapAt w b k' V := by
  obtain ⟨D, h1, h2⟩ := h
  exact ⟨D, h1.mono hk, h2⟩
theorem MapAt.look {w : World} {b k : Nat} {V : Int → Value} (h : MapAt w b k V) (n : Int) (hn : (Lit.int .i64 n).wf = true) : (Instr.lookup 44 (.map (some b)) (.int .i64 n) false).run Try.prog w = .ok (V n) w := by
  obtain ⟨D, h1, h2⟩ := h
  obtain ⟨v, ps, hrun, hv⟩ := h1.lookup law3 Try.underlying44 (zero47 w) (zd := .held (.slice none 0 0)) (zp := []) rfl (keyOf_int_mk Try.underlying3 hn)
  rw [h2 n] at hv
  simp [rdv] at hv
  rw [hrun, hv.1]
theorem MapAt.update {w : World} {b k : Nat} {V : Int → Value} (h : MapAt w b k V) (n : Int) (hn : (Lit.int .i64 n).wf = true) (hk : k < maxLen) (v : Value) :
    ∃ w', (Instr.mapUpdate 44 (.map (some b)) (.int .i64 n) v).run Try.prog w = .ok () w' ∧ MapAt w' b (k + 1) (upd V n v) ∧ w.grownBy w' (some b) := by
  obtain ⟨D, h1, h2⟩ := h
  obtain ⟨w', hrun, h3, h4⟩ := h1.update (val := v) (d := .held v) (ps := []) law3 Try.underlying44 hk (keyOf_int_mk Try.underlying3 hn) rfl
  refine ⟨w', hrun, ⟨_, h3, fun m => ?_⟩, h4⟩
  by_cases e : m = n
  · subst e
    rw [Maps.atKey_put_same (k := .int .i64 m) h1.isMap trivial, upd_same]
  · rw [Maps.atKey_put_other (by simpa using e), upd_other V v e]
    exact h2 m

/-- The cells of a row of marks. -/
def spots (L : List (Int × Int × Int)) : List Value := L.flatMap fun s => [.int .i64 s.1, .int .i64 s.2.1, .int .i64 s.2.2]
theorem spots_snoc (L : List (Int × Int × Int)) (a b c : Int) : spots (L ++ [(a, b, c)]) = spots L ++ [.int .i64 a, .int .i64 b, .int .i64 c] := by simp [spots]

/-- The marks of a Text at block T: line n's lie in the slice V n and are L n; no two lines' lie in one row. -/
structure Marks (w : World) (T k : Nat) (mv : Value) (V : Int → Value) (L : Int → List (Int × Int × Int)) : Prop where
  map : (mv = .map none ∧ ∀ n, V n = .slice none 0 0) ∨ ∃ b, mv = .map (some b) ∧ T < b ∧ MapAt w b k V
  row : ∀ n, w.ownsRow (T + 1) 38 3 (V n) (L n).length (spots (L n))
  apart : ∀ n m, n ≠ m → apart (V n) (V m)

/-- An owned row is no map. -/
theorem row_no_map {w : World} {base e sz n b k : Nat} {v : Value} {xs : List Value} {V : Int → Value} (h : w.ownsRow base e sz v n xs) (hm : MapAt w b k V) : some b ≠ v.ownBlock := by
  obtain ⟨D, ⟨es, clock, hb, _⟩, _⟩ := hm
  rcases h.2 with ⟨rfl, _⟩ | ⟨g, cap, cur, rfl, _, hg, _⟩
  · simp [Value.ownBlock]
  · intro he
    simp [Value.ownBlock] at he
    subst he
    rw [hb] at hg
    simp at hg

/-- What an append onto line n's slice leaves of the rest. -/
theorem mark_rest {w0 w w1 : World} {o : Obj} {T k b g cap : Nat} {tv lv mv : Value} {V : Int → Value} {L : Int → List (Int × Int × Int)} (n : Int) {a p u : Int} (hb0 : Below T w0 w) (ht : TextAt w T tv lv mv) (hM : MapAt w b k V) (hTb : T < b)
    (hrow : ∀ n, w.ownsRow (T + 1) 38 3 (V n) (L n).length (spots (L n))) (hap : ∀ n m, n ≠ m → apart (V n) (V m))
    (hg : (w.alloc o).grownBy w1 (V n).ownBlock) (hown : w1.ownsRow (T + 1) 38 3 (.slice (some ⟨g, 0, none⟩) ((L n).length + 1) cap) ((L n).length + 1) (spots (L n) ++ [.int .i64 a, .int .i64 p, .int .i64 u])) (hat : (V n).ownBlock = some g ∨ g = w.heap.size + 1) :
    TextAt w1 T tv lv mv ∧ MapAt w1 b k V ∧ Below T w0 w1 ∧
    (∀ w2, MapAt w2 b (k + 1) (upd V n (.slice (some ⟨g, 0, none⟩) ((L n).length + 1) cap)) → w1.grownBy w2 (some b) →
      TextAt w2 T tv lv mv ∧ Below T w0 w2 ∧ Marks w2 T (k + 1) (.map (some b)) (upd V n (.slice (some ⟨g, 0, none⟩) ((L n).length + 1) cap)) (upd L n (L n ++ [(a, p, u)]))) := by
  have hT := ht.lt
  have hbl := hM.lt
  have hneT : some T ≠ (V n).ownBlock := fun h => by have := ((hrow n).lt T h.symm).1; omega
  have ht1 := (ht.alloc o).kept hg hneT
  have hM1 : MapAt w1 b k V := (hM.kept (World.grownBy_alloc w o none) (by simp)).kept hg (row_no_map (hrow n) hM)
  have hb1 : Below T w0 w1 := (hb0.alloc (by omega) o).grown hg (by simp; omega) (fun j hj => by have := ((hrow n).lt j hj).1; omega)
  refine ⟨ht1, hM1, hb1, fun w2 hM2 hg2 => ⟨ht1.kept hg2 (by simp; omega), hb1.grown hg2 (by have := ht1.lt; omega) (fun j hj => by cases hj; omega), ⟨.inr ⟨b, rfl, hTb, hM2⟩, fun m => ?_, fun m m' hne => ?_⟩⟩⟩
  · by_cases e : m = n
    · subst e
      rw [upd_same, upd_same, spots_snoc, List.length_append]
      exact hown.kept hg2 (.inr (fun h => row_no_map hown hM1 h.symm))
    · rw [upd_other _ _ e, upd_other _ _ e]
      have h1 : w1.ownsRow (T + 1) 38 3 (V m) (L m).length (spots (L m)) := by
        refine ((hrow m).alloc o).kept hg ?_
        cases hb : (V m).ownBlock with
        | none => exact .inl rfl
        | some c => exact .inr (fun h => hap m n e c hb h.symm)
      exact h1.kept hg2 (.inr (fun h => row_no_map h1 hM1 h.symm))
  · have new : ∀ m, m ≠ n → apart (.slice (some ⟨g, 0, none⟩) ((L n).length + 1) cap) (V m) := by
      intro m e c h1 h2
      simp [Value.ownBlock] at h1
      subst h1
      rcases hat with h | h
      · exact hap n m (fun h => e h.symm) g h h2
      · have := ((hrow m).lt g h2).2
        omega
    by_cases e : m = n
    · subst e
      rw [upd_same, upd_other _ _ (fun h => hne h.symm)]
      exact new m' (fun h => hne h.symm)
    · rw [upd_other _ _ e]
      by_cases e' : m' = n
      · subst e'
        rw [upd_same]
        exact (new m e).symm
      · rw [upd_other _ _ e']
        exact hap m m' hne

set_option maxHeartbeats 4000000 in
theorem addMark_some (n a p u : Int) (T k b : Nat) (tv lv : Value) (V : Int → Value) (L : Int → List (Int × Int × Int)) (w : World) (hwn : (Lit.int .i64 n).wf = true) (hk : k < maxLen) (hL : (L n).length ≤ 1048576)
    (ht : TextAt w T tv lv (.map (some b))) (hTb : T < b) (hM : MapAt w b k V) (hrow : ∀ n, w.ownsRow (T + 1) 38 3 (V n) (L n).length (spots (L n))) (hap : ∀ n m, n ≠ m → apart (V n) (V m)) :
    Calls Try.prog 12 #[.pointer (some ⟨T, 0, none⟩), .int .i64 n, .int .i64 a, .int .i64 p, .int .i64 u] w fun r w' => r = .returned (.tuple #[]) ∧ ∃ V', TextAt w' T tv lv (.map (some b)) ∧ Marks w' T (k + 1) (.map (some b)) V' (upd L n (L n ++ [(a, p, u)])) ∧ Below T w w' := by
  obtain ⟨i0, hi, hz0, hz1, hz2⟩ := info_parts Try.info38
  obtain ⟨ct0, ct1, ct2, ctf⟩ := ht.cells
  have htl := ht.lt
  have hneq := fun wx => run_eql_map_nil (P := Try.prog) wx 44 3 47 (some b) Try.underlying44
  have hl0 : (Instr.lookup 44 (.map (some b)) (.int .i64 n) false).run Try.prog w.drew = .ok (V n) w.drew := hM.drew.look n hwn
  have hl1 : ∀ o, (Instr.lookup 44 (.map (some b)) (.int .i64 n) false).run Try.prog (w.alloc o).drew = .ok (V n) (w.alloc o).drew := fun o => (hM.alloc o).drew.look n hwn
  have HR : Hid (∀ n, w.ownsRow (T + 1) 38 3 (V n) (L n).length (spots (L n))) := hrow
  have HP : Hid (∀ n m, n ≠ m → apart (V n) (V m)) := hap
  clear hrow hap
  go_enter Try.func12, Try.ntmps12
  go_wp2
  go_region_held3 (fun W => W.cell? ⟨T, 2, none⟩ = some (.map (some b))) (first | assumption | go_keep)
    (first
      | (refine step_append_lies _ rfl (.tmp 29) (.tmp 34) 47 rfl (T + 1) 38 i0 (.agg #[.int .i64 0, .int .i64 0, .int .i64 0]) 3 24 Try.underlying47 hi hz0 hz1 hz2 rfl (by decide) (V n) (L n).length (spots (L n)) rfl (by exact (HR.out n).alloc _) ⟨w.heap.size, 0, none⟩ 1 1 [.int .i64 a, .int .i64 p, .int .i64 u] rfl rfl (by exact World.news_of_block (cs := #[.int .i64 a, .int .i64 p, .int .i64 u]) (heap_alloc_new w _)) (ints_oneCell .i64 [a, p, u]) (by decide) (by unfold maxLen; omega) (by omega) (by simp; omega) (w.heap.size + 1) (by simp) ?_; intro g cap w1 hown1 hgrow hat hlt1; obtain ⟨ht1, hM1, hb1, hrest⟩ := mark_rest n (Below.refl T w) ht hM hTb HR.out HP.out (undrew hgrow) hown1 hat; obtain ⟨w2, hup, hM2, hg2⟩ := hM1.update n hwn hk (.slice (some ⟨g, 0, none⟩) ((L n).length + 1) cap); obtain ⟨ht2, hb2, hMk⟩ := hrest w2 hM2 hg2; obtain ⟨cu0, cu1, cu2, cuf⟩ := ht1.cells; obtain ⟨cv0, cv1, cv2, cvf⟩ := ht2.cells; clear hrest))
  all_goals
    go_end0
    exact ⟨rfl, _, ht2, hMk, hb2⟩

set_option maxHeartbeats 4000000 in
theorem addMark_none (n a p u : Int) (T : Nat) (tv lv : Value) (V : Int → Value) (L : Int → List (Int × Int × Int)) (w : World) (hwn : (Lit.int .i64 n).wf = true) (hL : (L n).length ≤ 1048576)
    (ht : TextAt w T tv lv (.map none)) (hV : ∀ n, V n = .slice none 0 0) (hrow : ∀ n, w.ownsRow (T + 1) 38 3 (V n) (L n).length (spots (L n))) (hap : ∀ n m, n ≠ m → apart (V n) (V m)) :
    Calls Try.prog 12 #[.pointer (some ⟨T, 0, none⟩), .int .i64 n, .int .i64 a, .int .i64 p, .int .i64 u] w fun r w' => r = .returned (.tuple #[]) ∧ ∃ V', TextAt w' T tv lv (.map (some w.heap.size)) ∧ Marks w' T 1 (.map (some w.heap.size)) V' (upd L n (L n ++ [(a, p, u)])) ∧ Below T w w' := by
  obtain ⟨i0, hi, hz0, hz1, hz2⟩ := info_parts Try.info38
  obtain ⟨ct0, ct1, ct2, ctf⟩ := ht.cells
  have htl := ht.lt
  have hneq := fun wx => run_eql_map_nil (P := Try.prog) wx 44 3 47 none Try.underlying44
  obtain ⟨W0, hW⟩ : ∃ W0, W0 = (w.setCell ⟨T, 2, none⟩ (.map (some w.heap.size))).alloc (.map #[] 0) := ⟨_, rfl⟩
  have ht0 : TextAt W0 T tv lv (.map (some w.heap.size)) := by rw [hW]; exact (ht.set2 _).alloc _
  have hM0 : MapAt W0 w.heap.size 0 V := by
    have h := MapAt.made (w.setCell ⟨T, 2, none⟩ (.map (some w.heap.size)))
    have e : (w.setCell ⟨T, 2, none⟩ (.map (some w.heap.size))).heap.size = w.heap.size := by simp [World.setCell]
    rw [e, ← hW] at h
    rw [show V = fun _ => .slice none 0 0 from funext hV]
    exact h
  have HR0 : Hid (∀ n, W0.ownsRow (T + 1) 38 3 (V n) (L n).length (spots (L n))) := fun n => by
    rw [hW]
    exact (ownsRow_setCell_below (hrow n) (Nat.lt_succ_self _) _).alloc _
  have hb0 : Below T w W0 := by
    rw [hW]
    exact ((Below.refl T w).setCell (Nat.le_refl _) _).alloc (by simp [World.setCell]; omega) _
  have hsz0 : w.heap.size < W0.heap.size := hM0.lt
  have HP : Hid (∀ n m, n ≠ m → apart (V n) (V m)) := hap
  have hl0 : (Instr.lookup 44 (.map (some w.heap.size)) (.int .i64 n) false).run Try.prog W0.drew = .ok (V n) W0.drew := hM0.drew.look n hwn
  have hl1 : ∀ o, (Instr.lookup 44 (.map (some w.heap.size)) (.int .i64 n) false).run Try.prog (W0.alloc o).drew = .ok (V n) (W0.alloc o).drew := fun o => (hM0.alloc o).drew.look n hwn
  have HW : Hid (W0 = (w.setCell ⟨T, 2, none⟩ (.map (some w.heap.size))).alloc (.map #[] 0)) := hW
  obtain ⟨cx0, cx1, cx2, cxf⟩ := ht0.cells
  have hmm := @run_makeMap Try.prog
  clear hrow hap hV hW
  go_enter Try.func12, Try.ntmps12
  go_wp2
  rw [← HW.out]
  go_region_held3 (fun W => W.cell? ⟨T, 2, none⟩ = some (.map (some w.heap.size))) (first | assumption | go_keep)
    (first
      | (refine step_append_lies _ rfl (.tmp 29) (.tmp 34) 47 rfl (T + 1) 38 i0 (.agg #[.int .i64 0, .int .i64 0, .int .i64 0]) 3 24 Try.underlying47 hi hz0 hz1 hz2 rfl (by decide) (V n) (L n).length (spots (L n)) rfl (by exact (HR0.out n).alloc _) ⟨W0.heap.size, 0, none⟩ 1 1 [.int .i64 a, .int .i64 p, .int .i64 u] rfl rfl (by exact World.news_of_block (cs := #[.int .i64 a, .int .i64 p, .int .i64 u]) (heap_alloc_new W0 _)) (ints_oneCell .i64 [a, p, u]) (by decide) (by unfold maxLen; omega) (by omega) (by simp; omega) (W0.heap.size + 1) (by simp) ?_; intro g cap w1 hown1 hgrow hat hlt1; obtain ⟨ht1, hM1, hb1, hrest⟩ := mark_rest n hb0 ht0 hM0 htl HR0.out HP.out (undrew hgrow) hown1 hat; obtain ⟨w2, hup, hM2, hg2⟩ := hM1.update n hwn (by unfold maxLen; omega) (.slice (some ⟨g, 0, none⟩) ((L n).length + 1) cap); obtain ⟨ht2, hb2, hMk⟩ := hrest w2 hM2 hg2; obtain ⟨cu0, cu1, cu2, cuf⟩ := ht1.cells; obtain ⟨cv0, cv1, cv2, cvf⟩ := ht2.cells; clear hrest))
  all_goals
    go_end0
    exact ⟨rfl, _, ht2, hMk, hb2⟩

/-- ZZaddMark: line n has one mark more. -/
theorem addMark_any (n a p u : Int) (T k : Nat) (tv lv mv : Value) (V : Int → Value) (L : Int → List (Int × Int × Int)) (w : World) (hwn : (Lit.int .i64 n).wf = true) (hk : k < maxLen) (hL : (L n).length ≤ 1048576)
    (ht : TextAt w T tv lv mv) (hM : Marks w T k mv V L) :
    Calls Try.prog 12 #[.pointer (some ⟨T, 0, none⟩), .int .i64 n, .int .i64 a, .int .i64 p, .int .i64 u] w fun r w' => r = .returned (.tuple #[]) ∧ ∃ mv' V', TextAt w' T tv lv mv' ∧ Marks w' T (k + 1) mv' V' (upd L n (L n ++ [(a, p, u)])) ∧ Below T w w' := by
  rcases hM.map with ⟨rfl, hV⟩ | ⟨b, rfl, hTb, hMb⟩
  · refine (addMark_none n a p u T tv lv V L w hwn hL ht hV hM.row hM.apart).mono ?_
    rintro e w' ⟨rfl, V', h1, h2, h3⟩
    refine ⟨rfl, _, V', h1, ⟨?_, h2.row, h2.apart⟩, h3⟩
    rcases h2.map with ⟨h, _⟩ | ⟨b, h, h4, h5⟩
    · simp at h
    · exact .inr ⟨b, h, h4, h5.mono (by omega)⟩
  · refine (addMark_some n a p u T k b tv lv V L w hwn hk hL ht hTb hMb hM.row hM.apart).mono ?_
    rintro e w' ⟨rfl, V', h1, h2, h3⟩
    exact ⟨rfl, _, V', h1, h2, h3⟩

end Go.Proofs.Qxb6614461a
