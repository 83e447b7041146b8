/-
  zzLineBounds (5): the lines of a text.
-/
import Derived.Test.Qxb6614461aPlain
import Derived.WalkKit
import Derived.Maps.AppendAt
namespace Go.Proofs.Qxb6614461a
open Go.ChangeShapes Go.WideShapes Go.RowKit

/-- Two slices of the call's own that lie in no one row. -/
def apart (v u : Value) : Prop := ∀ b, v.ownBlock = some b → u.ownBlock = some b → False
theorem apart.symm {v u : Value} (h : apart v u) : apart u v := fun b h1 h2 => h b h2 h1
theorem apart_nil (u : Value) : apart (.slice none 0 0) u := fun b h => by simp [Value.ownBlock] at h

/-- Behind an append onto v, the other slice u stands as it was, and lies apart still. -/
theorem app_apart {w w1 : World} {o : Obj} {v v' u : Value} {base base' : Nat} {e e' : TypeId} {sz sz' n m : Nat} {xs ys : List Value} (_hv : w.ownsRow base e sz v n xs) (hu : w.ownsRow base' e' sz' u m ys) (ap : apart v u)
    (hgrow : (w.alloc o).grownBy w1 v.ownBlock) (hloc : v'.ownBlock = v.ownBlock ∨ v'.ownBlock = some (w.heap.size + 1)) : w1.ownsRow base' e' sz' u m ys ∧ apart v' u := by
  constructor
  · refine (hu.alloc o).kept hgrow ?_
    cases hb : u.ownBlock with
    | none => exact .inl rfl
    | some b => exact .inr (fun h => ap b h.symm hb)
  · intro b h1 h2
    rcases hloc with h | h
    · exact ap b (h ▸ h1) h2
    · have := (hu.lt b h2).2
      rw [h] at h1
      simp at h1
      omega

/-- .. and what lay below the call's own rows lies as it did. -/
theorem below_app {B : Nat} {w wr w1 : World} {o : Obj} {v : Value} {e : TypeId} {sz n : Nat} {xs : List Value} (hb : Below B w wr) (hB : B ≤ wr.heap.size) (hv : wr.ownsRow B e sz v n xs) (hg : (wr.alloc o).grownBy w1 v.ownBlock) : Below B w w1 ∧ wr.heap.size < w1.heap.size :=
  ⟨(hb.alloc hB o).grown hg (by simp; omega) (fun k hk => (hv.lt k hk).1), by have := hg.size; simp at this; omega⟩

theorem Try.info3 : (Try.prog.info? 3).map (fun i => (i.zero, i.size, i.bytes)) = some (some (.int .i64 0), 1, 8) := by kernel_rfl

def fsts (L : List (Nat × Nat)) : List Int := L.map fun p => (p.1 : Int)
def snds (L : List (Nat × Nat)) : List Int := L.map fun p => (p.2 : Int)
theorem fsts_snoc (L : List (Nat × Nat)) (a b : Nat) : fsts (L ++ [(a, b)]) = fsts L ++ [(a : Int)] := by simp [fsts]
theorem snds_snoc (L : List (Nat × Nat)) (a b : Nat) : snds (L ++ [(a, b)]) = snds L ++ [(b : Int)] := by simp [snds]
theorem fsts_len (L : List (Nat × Nat)) : (fsts L).length = L.length := by simp [fsts]
theorem snds_len (L : List (Nat × Nat)) : (snds L).length = L.length := by simp [snds]

/-- A slice that holds these numbers, in memory of the call's own from block 'base' on. -/
def Row (w : World) (base : Nat) (v : Value) (A : List Int) : Prop := w.ownsRow base 3 1 v A.length (A.map (Value.int .i64))
theorem Row.snoc {w : World} {base : Nat} {v : Value} {A : List Int} {x : Int} (h : w.ownsRow base 3 1 v (A.length + 1) (A.map (Value.int .i64) ++ [.int .i64 x])) : Row w base v (A ++ [x]) := by
  unfold Row
  simpa using h

set_option maxHeartbeats 4000000 in
theorem zzLineBounds_any (g : Nat → Int) (B off n cap : Nat) (w : World) (hn : n ≤ 1048576) (hB : B < w.heap.size)
    (hc : ∀ j, j < n → w.cell? ⟨B, off + j, none⟩ = some (.int .u8 (g j))) :
    Calls Try.prog 5 #[.slice (some ⟨B, off, none⟩) n cap] w fun r w' => ∃ v1 v2, r = .returned (.tuple #[v1, v2]) ∧ Row w' w.heap.size v1 (fsts (lbs g n)) ∧ Row w' w.heap.size v2 (snds (lbs g n)) ∧ apart v1 v2 ∧ Below w.heap.size w w' := by
  obtain ⟨i0, hi, hz0, hz1, hz2⟩ := info_parts Try.info3
  have HC : Hid (∀ j, j < n → w.cell? ⟨B, off + j, none⟩ = some (.int .u8 (g j))) := hc
  clear hc
  go_enter Try.func5, Try.ntmps5
  go_wp2
  go_loopw [4, 5, 6, 7] (fun v4 v5 s i wr => ∃ (k q : Nat) (A E : List Int), k ≤ n ∧ i = .int .i64 k ∧ s = .int .i64 q ∧ q ≤ k ∧ A.length ≤ k ∧ E.length ≤ k ∧ Hid (q = lbS g k) ∧ Hid (A = fsts (lbL g k)) ∧ Hid (E = snds (lbL g k)) ∧
      wr.ownsRow w.heap.size 3 1 v4 A.length (A.map (Value.int .i64)) ∧ wr.ownsRow w.heap.size 3 1 v5 E.length (E.map (Value.int .i64)) ∧ apart v4 v5 ∧ Below w.heap.size w wr)
    (fun _ _ _ i _ => n - (intOf i).toNat)
  case atStart => exact ⟨0, 0, [], [], Nat.zero_le _, rfl, rfl, Nat.le_refl _, Nat.le_refl _, Nat.le_refl _, rfl, rfl, rfl, World.ownsRow_nil _ _ _ _, World.ownsRow_nil _ _ _ _, apart_nil _, Below.refl _ _⟩
  case round =>
    obtain ⟨k, q, A, E, hk, rfl, rfl, hqk, hA, hE, Hq, HA, HE, h4, h5, ap, hb⟩ := hrel
    have hsz := hb.size
    by_cases hlt : k < n
    · have hcell : wr.cell? ⟨B, off + k, none⟩ = some (.int .u8 (g k)) := (hb.cell (by exact hB)).trans (HC.out k hlt)
      by_cases h10 : g k = 10
      · have hb10 : (g k == 10) = true := by rw [h10]; rfl
        have HS : Hid (lbS g (k + 1) = k + 1) := by show (if _ then _ else _) = _; rw [if_pos h10]
        have HL : Hid (lbL g (k + 1) = lbL g k ++ [(lbS g k, k)]) := by show (if _ then _ else _) = _; rw [if_pos h10]
        have H10 : Hid (g k = 10) := h10
        clear h10
        go_wp2_with (first | (at_builtin; refine wpList_append_own_at _ rfl (.tmp 19) (.tmp 21) 24 rfl w.heap.size 3 i0 (.int .i64 0) 1 8 Try.underlying24 hi hz0 hz1 hz2 rfl (by decide) u4 _ _ rfl (h4.alloc _) ⟨wr.heap.size, 0, none⟩ 1 1 [.int .i64 q] rfl rfl (cell_one_new _ _ _) (ints_oneCell .i64 [(q : Int)]) (by unfold maxLen; omega) (by omega) (by simp; omega) ?_; intro v4' w1 h4' hg1 _ hl1; obtain ⟨h5', ap'⟩ := app_apart h4 h5 ap hg1 (by simpa using hl1); obtain ⟨hb1, hs1⟩ := below_app hb hsz h4 hg1) | (at_builtin; refine wpList_append_own_at _ rfl (.tmp 23) (.tmp 25) 24 rfl w.heap.size 3 i0 (.int .i64 0) 1 8 Try.underlying24 hi hz0 hz1 hz2 rfl (by decide) u5 _ _ rfl (h5'.alloc _) ⟨w1.heap.size, 0, none⟩ 1 1 [.int .i64 k] rfl rfl (cell_one_new _ _ _) (ints_oneCell .i64 [(k : Int)]) (by unfold maxLen; omega) (by omega) (by simp; omega) ?_; intro v5' w2 h5'' hg2 _ hl2; obtain ⟨h4'', ap''⟩ := app_apart h5' h4' ap'.symm hg2 (by simpa using hl2); obtain ⟨hb2, hs2⟩ := below_app hb1 (by omega) h5' hg2; clear h4' h5' hg1 hg2 hl1 hl2 hb1))
        go_roundw
        case rel => exact ⟨k + 1, k + 1, A ++ [(q : Int)], E ++ [(k : Int)], by omega, by go_num, by go_num, Nat.le_refl _, by simp; omega, by simp; omega, HS.out.symm, by unfold Hid; rw [HA.out, HL.out, fsts_snoc, Hq.out], by unfold Hid; rw [HE.out, HL.out, snds_snoc], Row.snoc h4'', Row.snoc h5'', ap''.symm, hb2⟩
        case measure => simp [intOf]; omega
      · have hb10 : (g k == 10) = false := ne_b 10 h10
        have HS : Hid (lbS g (k + 1) = lbS g k) := by show (if _ then _ else _) = _; rw [if_neg h10]
        have HL : Hid (lbL g (k + 1) = lbL g k) := by show (if _ then _ else _) = _; rw [if_neg h10]
        clear h10
        go_wp2
        go_roundw
        case rel => exact ⟨k + 1, q, A, E, by omega, by go_num, rfl, by omega, by omega, by omega, by unfold Hid; rw [Hq.out, HS.out], by unfold Hid; rw [HA.out, HL.out], by unfold Hid; rw [HE.out, HL.out], h4, h5, ap, hb⟩
        case measure => simp [intOf]; omega
    · obtain rfl : k = n := by omega
      go_wp2_with (first | (at_builtin; refine wpList_append_own_at _ rfl (.tmp 29) (.tmp 31) 24 rfl w.heap.size 3 i0 (.int .i64 0) 1 8 Try.underlying24 hi hz0 hz1 hz2 rfl (by decide) u4 _ _ rfl (h4.alloc _) ⟨wr.heap.size, 0, none⟩ 1 1 [.int .i64 q] rfl rfl (cell_one_new _ _ _) (ints_oneCell .i64 [(q : Int)]) (by unfold maxLen; omega) (by omega) (by simp; omega) ?_; intro v4' w1 h4' hg1 _ hl1; obtain ⟨h5', ap'⟩ := app_apart h4 h5 ap hg1 (by simpa using hl1); obtain ⟨hb1, hs1⟩ := below_app hb hsz h4 hg1) | (at_builtin; refine wpList_append_own_at _ rfl (.tmp 33) (.tmp 36) 24 rfl w.heap.size 3 i0 (.int .i64 0) 1 8 Try.underlying24 hi hz0 hz1 hz2 rfl (by decide) u5 _ _ rfl (h5'.alloc _) ⟨w1.heap.size, 0, none⟩ 1 1 [.int .i64 k] rfl rfl (cell_one_new _ _ _) (ints_oneCell .i64 [(k : Int)]) (by unfold maxLen; omega) (by omega) (by simp; omega) ?_; intro v5' w2 h5'' hg2 _ hl2; obtain ⟨h4'', ap''⟩ := app_apart h5' h4' ap'.symm hg2 (by simpa using hl2); obtain ⟨hb2, hs2⟩ := below_app hb1 (by omega) h5' hg2; clear h4' h5' hg1 hg2 hl1 hl2 hb1))
      go_ret2
      have e1 : fsts (lbs g k) = A ++ [(q : Int)] := by unfold lbs; rw [fsts_snoc, HA.out, Hq.out]
      have e2 : snds (lbs g k) = E ++ [(k : Int)] := by unfold lbs; rw [snds_snoc, HE.out]
      rw [e1, e2]
      exact ⟨v4', v5', rfl, Row.snoc h4'', Row.snoc h5'', ap''.symm, hb2⟩

end Go.Proofs.Qxb6614461a
