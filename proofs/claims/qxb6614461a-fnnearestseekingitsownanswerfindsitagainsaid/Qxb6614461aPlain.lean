/-
  THE PLAIN MATHEMATICS OF THE ROAD: lines, code points, marks, the nearest mark. No Go in sight.
-/
import Derived.Test.Qxb6614461aLeaf
namespace Go.Proofs.Qxb6614461a
open Go.RowKit

/-! ### lines -/
/-- Where the line at hand starts after k bytes. -/
def lbS (g : Nat → Int) : Nat → Nat
  | 0 => 0
  | k + 1 => if g k = 10 then k + 1 else lbS g k
/-- The lines that have ended after k bytes. -/
def lbL (g : Nat → Int) : Nat → List (Nat × Nat)
  | 0 => []
  | k + 1 => if g k = 10 then lbL g k ++ [(lbS g k, k)] else lbL g k
/-- The lines of n bytes. -/
def lbs (g : Nat → Int) (n : Nat) : List (Nat × Nat) := lbL g n ++ [(lbS g n, n)]

theorem lbS_le (g : Nat → Int) : ∀ k, lbS g k ≤ k
  | 0 => Nat.le_refl _
  | k + 1 => by
    unfold lbS
    split
    · exact Nat.le_refl _
    · exact Nat.le_succ_of_le (lbS_le g k)
theorem lbL_len (g : Nat → Int) : ∀ k, (lbL g k).length ≤ k
  | 0 => Nat.le_refl _
  | k + 1 => by
    unfold lbL
    have := lbL_len g k
    split
    · simp; omega
    · omega
theorem lbL_bd (g : Nat → Int) : ∀ k, ∀ p ∈ lbL g k, p.1 ≤ p.2 ∧ p.2 ≤ k
  | 0 => fun p hp => by simp [lbL] at hp
  | k + 1 => fun p hp => by
    unfold lbL at hp
    split at hp
    · rcases List.mem_append.1 hp with h | h
      · have := lbL_bd g k p h; omega
      · simp at h; subst h; have := lbS_le g k; simp; omega
    · have := lbL_bd g k p hp; omega
theorem lbs_len (g : Nat → Int) (n : Nat) : (lbs g n).length ≤ n + 1 := by
  unfold lbs; have := lbL_len g n; simp; omega
theorem lbs_bd (g : Nat → Int) (n : Nat) : ∀ p ∈ lbs g n, p.1 ≤ p.2 ∧ p.2 ≤ n := fun p hp => by
  unfold lbs at hp
  rcases List.mem_append.1 hp with h | h
  · exact lbL_bd g n p h
  · simp at h; subst h; exact ⟨lbS_le g n, Nat.le_refl _⟩

/-! ### code points of one line -/
/-- Where the walk along the line from st to en stands after k code points; the units that it has met. -/
def pos (g : Nat → Int) (st en : Nat) : Nat → Nat
  | 0 => st
  | k + 1 => if pos g st en k < en then pos g st en k + (wd g (pos g st en k) en).1.toNat else pos g st en k
def uts (g : Nat → Int) (st en : Nat) : Nat → Int
  | 0 => 0
  | k + 1 => if pos g st en k < en then uts g st en k + (wd g (pos g st en k) en).2 else uts g st en k

theorem pos_succ {g : Nat → Int} {st en k : Nat} (h : pos g st en k < en) : pos g st en (k + 1) = pos g st en k + (wd g (pos g st en k) en).1.toNat := by
  show (if _ then _ else _) = _
  rw [if_pos h]
theorem uts_succ {g : Nat → Int} {st en k : Nat} (h : pos g st en k < en) : uts g st en (k + 1) = uts g st en k + (wd g (pos g st en k) en).2 := by
  show (if _ then _ else _) = _
  rw [if_pos h]
theorem pos_le {g : Nat → Int} {st en : Nat} (h : st ≤ en) : ∀ k, pos g st en k ≤ en
  | 0 => h
  | k + 1 => by
    by_cases hk : pos g st en k < en
    · rw [pos_succ hk]; have := wd_bd g (pos g st en k) en hk; omega
    · show (if _ then _ else _) ≤ _
      rw [if_neg hk]
      exact pos_le h k
theorem pos_ge (g : Nat → Int) (st en : Nat) : ∀ k, (∀ j, j < k → pos g st en j < en) → st + k ≤ pos g st en k
  | 0, _ => Nat.le_refl _
  | k + 1, h => by
    have h1 := h k (Nat.lt_succ_self _)
    have h2 := pos_ge g st en k (fun j hj => h j (by omega))
    have h3 := wd_bd g (pos g st en k) en h1
    rw [pos_succ h1]
    omega
theorem pos_mono (g : Nat → Int) (st en : Nat) (k : Nat) : pos g st en k ≤ pos g st en (k + 1) := by
  by_cases hk : pos g st en k < en
  · rw [pos_succ hk]; omega
  · show _ ≤ (if _ then _ else _)
    rw [if_neg hk]
    exact Nat.le_refl _
theorem uts_bd (g : Nat → Int) (st en : Nat) : ∀ k, 0 ≤ uts g st en k ∧ uts g st en k ≤ 2 * k
  | 0 => by simp [uts]
  | k + 1 => by
    have h := uts_bd g st en k
    by_cases hk : pos g st en k < en
    · rw [uts_succ hk]; have := wd_bd g (pos g st en k) en hk; omega
    · have e : uts g st en (k + 1) = uts g st en k := by
        show (if _ then _ else _) = _
        rw [if_neg hk]
      rw [e]
      omega

/-- A line has a number of code points: the first count at which the walk stands at the line's end. -/
theorem points_ex (g : Nat → Int) {st en : Nat} (h : st ≤ en) : ∃ K, pos g st en K = en ∧ (∀ j, j < K → pos g st en j < en) ∧ K ≤ en - st := by
  have key : ∀ d k, en - pos g st en k ≤ d → (∀ j, j < k → pos g st en j < en) → ∃ K, pos g st en K = en ∧ (∀ j, j < K → pos g st en j < en) ∧ K ≤ en - st := by
    intro d
    induction d with
    | zero =>
      intro k hd hj
      have h1 := pos_le (g := g) h k
      have h2 := pos_ge g st en k hj
      exact ⟨k, by omega, hj, by omega⟩
    | succ d ih =>
      intro k hd hj
      by_cases hk : pos g st en k < en
      · refine ih (k + 1) ?_ ?_
        · rw [pos_succ hk]; have := wd_bd g (pos g st en k) en hk; omega
        · intro j hj'
          by_cases e : j = k
          · subst e; exact hk
          · exact hj j (by omega)
      · have h1 := pos_le (g := g) h k
        have h2 := pos_ge g st en k hj
        exact ⟨k, by omega, hj, by omega⟩
  exact key _ 0 (Nat.le_refl _) (fun j hj => by omega)

/-! ### marks -/
/-- A mark: its place, its points, its units. -/
def spotAt (g : Nat → Int) (st en k : Nat) : Int × Int × Int := ((pos g st en k : Int), (k : Int), uts g st en k)
/-- The marks that lie on the line after k code points, one every E. -/
def mks (g : Nat → Int) (st en E : Nat) : Nat → List (Int × Int × Int)
  | 0 => []
  | k + 1 => if (k + 1) % E = 0 ∧ pos g st en (k + 1) < en then mks g st en E k ++ [spotAt g st en (k + 1)] else mks g st en E k

theorem mks_len (g : Nat → Int) (st en E : Nat) : ∀ k, (mks g st en E k).length ≤ k
  | 0 => Nat.le_refl _
  | k + 1 => by
    unfold mks
    have := mks_len g st en E k
    split
    · simp; omega
    · omega

theorem mks_eq (g : Nat → Int) (st en E : Nat) (hE : 1 ≤ E) : ∀ k, (∀ j, j ≤ k → pos g st en j < en) → mks g st en E k = (List.range (k / E)).map (fun j => spotAt g st en ((j + 1) * E))
  | 0, _ => by simp [mks]
  | k + 1, h => by
    have ih := mks_eq g st en E hE k (fun j hj => h j (by omega))
    have hp := h (k + 1) (Nat.le_refl _)
    unfold mks
    by_cases hd : (k + 1) % E = 0
    · rw [if_pos ⟨hd, hp⟩, ih]
      have e1 : (k + 1) / E = k / E + 1 := by
        rw [Nat.succ_div]
        rw [if_pos (Nat.dvd_of_mod_eq_zero hd)]
      rw [e1, List.range_succ, List.map_append]
      congr 1
      simp only [List.map_cons, List.map_nil]
      have e2 : (k / E + 1) * E = k + 1 := by
        rw [← e1]
        exact Nat.div_mul_cancel (Nat.dvd_of_mod_eq_zero hd)
      rw [e2]
    · rw [if_neg (fun hx => hd hx.1), ih]
      have e1 : (k + 1) / E = k / E := by
        rw [Nat.succ_div]
        rw [if_neg (fun hx => hd (Nat.mod_eq_zero_of_dvd hx))]
        rfl
      rw [e1]

/-- The marks of a whole line of K code points. -/
theorem mks_whole (g : Nat → Int) (st en E K : Nat) (hE : 1 ≤ E) (hK : pos g st en K = en) (hlt : ∀ j, j < K → pos g st en j < en) :
    mks g st en E K = (List.range ((K - 1) / E)).map (fun j => spotAt g st en ((j + 1) * E)) := by
  cases K with
  | zero => simp [mks]
  | succ k =>
    have h1 := mks_eq g st en E hE k (fun j hj => hlt j (by omega))
    unfold mks
    rw [if_neg (fun hx => by omega), h1]
    simp

/-! ### the nearest mark -/
/-- How many marks have fewer points than col. -/
def before (M : List (Int × Int × Int)) (col : Int) : Nat := M.countP (fun s => decide (s.2.1 < col))
def near (M : List (Int × Int × Int)) (st : Nat) (col : Int) : Int × Int × Int :=
  if before M col = 0 then ((st : Int), 0, 0) else M.getD (before M col - 1) (0, 0, 0)

theorem before_le (M : List (Int × Int × Int)) (col : Int) : before M col ≤ M.length := List.countP_le_length

/-- Of marks at E, 2E, .. those below col. -/
theorem count_below (E m : Nat) (hE : 1 ≤ E) (f : Nat → Int × Int × Int) (hf : ∀ j, (f j).2.1 = ((j + 1) * E : Nat)) (col : Int) :
    before ((List.range m).map f) col = if col < 1 then 0 else min ((col.toNat - 1) / E) m := by
  unfold before
  rw [List.countP_map]
  induction m with
  | zero => simp
  | succ m ih =>
    rw [List.range_succ, List.countP_append, ih]
    simp only [List.countP_cons, List.countP_nil, Function.comp, hf]
    by_cases hc : col < 1
    · rw [if_pos hc]
      have h2 : ¬ (((m + 1) * E : Nat) : Int) < col := by omega
      rw [if_pos hc]
      simp only [h2, decide_false]
      simp
    · rw [if_neg hc, if_neg hc]
      have hiff : (((m + 1) * E : Nat) : Int) < col ↔ m + 1 ≤ (col.toNat - 1) / E := by
        rw [Nat.le_div_iff_mul_le (by omega)]
        generalize (m + 1) * E = z
        omega
      by_cases h2 : (((m + 1) * E : Nat) : Int) < col
      · have := hiff.1 h2
        simp only [h2, decide_true]
        simp
        omega
      · have h3 : ¬ m + 1 ≤ (col.toNat - 1) / E := fun h => h2 (hiff.2 h)
        simp only [h2, decide_false]
        simp
        omega

end Go.Proofs.Qxb6614461a
