/-
  ZZnearest$1 (14), nearest$1 (16), sort.Search (15) at the closure nearest$1.
-/
import Derived.Test.Qxb6614461aMarks
import Derived.Shelf.SlSorted.Search
import Derived.Deep.RegionHeld3
namespace Go.Proofs.Qxb6614461a
open Go.ChangeShapes Go.WideShapes Go.RowKit
open Go.Sort (grow grow_empty grow_grow alloc_eq_grow)
open Go.Shelf Go.Lib

/-- 'func(m spot) bool { return m.points < col }'. -/
theorem before_any (a p u col : Int) (bc : Nat) (W : World) (hc : W.cell? ⟨bc, 0, none⟩ = some (.int .i64 col)) :
    Calls Try.prog 14 #[.agg #[.int .i64 a, .int .i64 p, .int .i64 u], .pointer (some ⟨bc, 0, none⟩)] W fun e w' => e = .returned (.bool (decide (p < col))) ∧ w' = W.alloc (.cells #[.int .i64 a, .int .i64 p, .int .i64 u] 38) := by
  have hlt := World.block_lt_of_cell? _ _ hc
  simp only at hlt
  go_enter Try.func14, Try.ntmps14
  go_wp2
  go_ret
  exact ⟨rfl, rfl⟩

set_option maxHeartbeats 2000000 in
/-- 'func(i int) bool { return !before(marks[i]) }'. -/
theorem closure_any (a p u col : Int) (bf bm bc blk off n cap i : Nat) (W : World) (hi : i < n)
    (h1 : W.cell? ⟨bf, 0, none⟩ = some (.func (.func 14) #[] #[.pointer (some ⟨bc, 0, none⟩)])) (h2 : W.cell? ⟨bm, 0, none⟩ = some (.slice (some ⟨blk, off, none⟩) n cap)) (h3 : W.cell? ⟨bc, 0, none⟩ = some (.int .i64 col))
    (h4 : W.cell? ⟨blk, off + i * 3, none⟩ = some (.int .i64 a)) (h5 : W.cell? ⟨blk, off + i * 3 + 1, none⟩ = some (.int .i64 p)) (h6 : W.cell? ⟨blk, off + i * 3 + 2, none⟩ = some (.int .i64 u)) :
    Calls Try.prog 16 (#[.int .i64 i] ++ #[.pointer (some ⟨bf, 0, none⟩), .pointer (some ⟨bm, 0, none⟩)]) W fun e w' => e = .returned (.bool (!decide (p < col))) ∧ ∃ q os, w' = grow (W.drewN q) os := by
  have hiz : (i : Int) < (n : Int) := by omega
  go_enter Try.func16, Try.ntmps16
  have hcon := before_any a p u col bc W.drew h3
  go_wp2
  go_region_held3 (fun w' => w'.cell? ⟨bf, 0, none⟩ = some (.func (.func 14) #[] #[.pointer (some ⟨bc, 0, none⟩)]) ∧ w'.cell? ⟨bm, 0, none⟩ = some (.slice (some ⟨blk, off, none⟩) n cap) ∧ w'.cell? ⟨blk, off + i * 3, none⟩ = some (.int .i64 a) ∧ w'.cell? ⟨blk, off + i * 3 + 1, none⟩ = some (.int .i64 p) ∧ w'.cell? ⟨blk, off + i * 3 + 2, none⟩ = some (.int .i64 u)) (go_keep)
    (first | (go_at_call 14; refine hcon.mono ?_; rintro e w' ⟨rfl, rfl⟩))
  all_goals
    go_wp2
    go_ret
    exact ⟨rfl, 1, #[.cells #[.int .i64 a, .int .i64 p, .int .i64 u] 38], by rw [alloc_eq_grow]; rfl⟩

set_option maxHeartbeats 4000000 in
set_option maxRecDepth 1000000 in
/-- sort.Search(n, nearest$1), where p says what the closure says: how many places below n are still false. -/
theorem search_any (cb : Array Value) (n : Nat) (p : Nat → Bool) (w : World) (hsz : n < 4611686018427387904)
    (hf : ∀ (m : Nat) (os : Array Obj) (i : Nat), i < n → Calls Try.prog 16 (#[.int .i64 i] ++ cb) (grow (w.drewN m) os) fun e w' => e = .returned (.bool (p i)) ∧ ∃ q os', w' = grow ((grow (w.drewN m) os).drewN q) os')
    (hmono : ∀ a b, a ≤ b → b < n → p a = true → p b = true) :
    Calls Try.prog 15 #[.int .i64 n, .func (.func 16) #[] cb] w fun e w' => e = .returned (.int .i64 ((List.range n).countP (fun i => !p i) : Nat)) ∧ ∃ q os, w' = grow (w.drewN q) os := by
  have HF : Aside _ := hf
  have M : Aside _ := hmono
  clear hf hmono
  generalize hcnt : (List.range n).countP (fun i => !p i) = cnt
  have CN : Aside ((List.range n).countP (fun i => !p i) = cnt) := hcnt
  clear hcnt
  go_enter Try.func15, Try.ntmps15
  go_wp2
  go_loopg [5, 6] n (fun kx s5 s6 wr => ∃ (lo hi q : Nat) (os : Array Obj), s5 = .int .i64 lo ∧ s6 = .int .i64 hi ∧ lo ≤ hi ∧ hi ≤ n ∧ hi - lo ≤ kx ∧ wr = grow (w.drewN q) os ∧
    Aside ((∀ t, t < lo → p t = false) ∧ (∀ t, hi ≤ t → t < n → p t = true)))
  case atStart => exact ⟨0, n, 0, #[], rfl, rfl, Nat.zero_le _, Nat.le_refl _, by omega, (by rw [grow_empty]; rfl), (⟨fun t ht => absurd ht (Nat.not_lt_zero _), fun t h1 h2 => by omega⟩ : (∀ t, t < 0 → p t = false) ∧ (∀ t, n ≤ t → t < n → p t = true))⟩
  case round =>
    obtain ⟨lo, hi, q, os, rfl, rfl, hlh, hin, hg, rfl, I⟩ := hrel
    by_cases hlt : lo < hi
    · have hc := HF.out q os ((lo + hi) / 2) (by omega)
      rw [show (((lo + hi) / 2 : Nat) : Int) = ((lo : Int) + (hi : Int)) / 2 by omega] at hc
      cases hp : p ((lo + hi) / 2) <;> rw [hp] at hc
      · have HP : Aside (p ((lo + hi) / 2) = false) := hp
        clear hp
        go_wp2_with (go_at_call 16; refine hc.mono ?_; rintro e w' ⟨rfl, nq, osq, rfl⟩)
        go_roundg (hi - ((lo + hi) / 2 + 1))
        case measure => omega
        case rel =>
          have I2 : Aside ((∀ t, t < (lo + hi) / 2 + 1 → p t = false) ∧ (∀ t, hi ≤ t → t < n → p t = true)) := ⟨fun t ht => (by
            cases h : p t with
            | false => rfl
            | true => have := M.out t ((lo + hi) / 2) (by omega) (by omega) h; rw [HP.out] at this; cases this), I.out.2⟩
          exact ⟨(lo + hi) / 2 + 1, hi, q + nq, os ++ osq, by rw [show ((lo : Int) + (hi : Int)) / 2 + 1 = (((lo + hi) / 2 + 1 : Nat) : Int) by omega], rfl, by omega, hin, Nat.le_refl _, by show grow (grow ((w.drewN q).drewN nq) os) osq = _; rw [grow_grow, World.drewN_drewN], I2⟩
      · have HP : Aside (p ((lo + hi) / 2) = true) := hp
        clear hp
        go_wp2_with (go_at_call 16; refine hc.mono ?_; rintro e w' ⟨rfl, nq, osq, rfl⟩)
        go_roundg ((lo + hi) / 2 - lo)
        case measure => omega
        case rel =>
          have I2 : Aside ((∀ t, t < lo → p t = false) ∧ (∀ t, (lo + hi) / 2 ≤ t → t < n → p t = true)) := ⟨I.out.1, fun t ht htn => M.out ((lo + hi) / 2) t ht htn HP.out⟩
          exact ⟨lo, (lo + hi) / 2, q + nq, os ++ osq, rfl, by rw [show ((lo : Int) + (hi : Int)) / 2 = (((lo + hi) / 2 : Nat) : Int) by omega], by omega, by omega, Nat.le_refl _, by show grow (grow ((w.drewN q).drewN nq) os) osq = _; rw [grow_grow, World.drewN_drewN], I2⟩
    · obtain rfl : hi = lo := by omega
      have ecnt : cnt = hi := by
        rw [← CN.out]
        have hr : ∀ t, t < n → (List.range n)[t]! = t := fun t ht => by rw [getElem!_pos _ t (by simpa using ht)]; simp
        refine Lib.countP_boundary _ (List.range n) hi (by simpa using hin) (fun t ht => ?_) (fun t h3 h4 => ?_)
        · rw [hr t (by omega), I.out.1 t ht]; rfl
        · rw [hr t (by simpa using h4), I.out.2 t h3 (by simpa using h4)]; rfl
      subst ecnt
      go_wp2
      go_ret
      exact ⟨rfl, q, os, rfl⟩

end Go.Proofs.Qxb6614461a
