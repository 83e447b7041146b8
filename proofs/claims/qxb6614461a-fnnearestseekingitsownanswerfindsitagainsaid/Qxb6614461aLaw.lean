/-
  THE PLAIN LAW: the nearest mark has the closed-form count, lies within the line, and is found again. No Go in sight.
-/
import Derived.Test.Qxb6614461aNearest
namespace Go.Proofs.Qxb6614461a
open Go.RowKit

/-- What the law asks of the spot s that is found for col. -/
structure Found (M : List (Int × Int × Int)) (st en K : Nat) (every col : Int) (s : Int × Int × Int) : Prop where
  j0 : 0 ≤ markIndex K every col
  count : s.2.1 = if 0 < markIndex K every col then markIndex K every col * every else 0
  fits : s.2.1 ≤ 1048576 ∧ 0 ≤ s.2.1
  lo : (st : Int) ≤ s.1
  hi : s.1 ≤ en
  zero : s.2.1 = 0 ↔ s.1 = st
  again : near M st (s.2.1 + 1) = s

theorem found_none {st en K : Nat} {every col : Int} (h : st ≤ en) (he : every < 1) : Found [] st en K every col (near [] st col) := by
  have e1 : ∀ c, near [] st c = ((st : Int), 0, 0) := fun c => near_nil st c rfl
  have e2 : markIndex K every col = 0 := by unfold markIndex; rw [if_pos (.inl he)]
  rw [e1]
  exact ⟨by rw [e2]; exact Int.le_refl _, by rw [e2]; rfl, by simp, by simp, by simp; omega, by simp, by rw [e1]⟩

theorem found_marks (g : Nat → Int) {st en K E : Nat} {col : Int} (h : st ≤ en) (hE : 1 ≤ E) (hn : en ≤ 1048576) (hK : pos g st en K = en) (hlt : ∀ j, j < K → pos g st en j < en) (hKn : K ≤ en - st) :
    Found (lm g E (st, en)) st en K E col (near (lm g E (st, en)) st col) := by
  have hM : lm g E (st, en) = (List.range ((K - 1) / E)).map (fun j => spotAt g st en ((j + 1) * E)) := by
    rw [lm_eq (K := K) (p := (st, en)) hK hKn]
    exact mks_whole g st en E K hE hK hlt
  rw [hM]
  have hbef := fun c => count_below E ((K - 1) / E) hE (fun j => spotAt g st en ((j + 1) * E)) (fun j => rfl) c
  generalize hm : (K - 1) / E = m at *
  -- the count
  have hj : markIndex K E col = (before ((List.range m).map (fun j => spotAt g st en ((j + 1) * E))) col : Nat) := by
    rw [hbef]
    unfold markIndex
    by_cases hc : col < 1
    · rw [if_pos (.inr (.inl hc)), if_pos hc]; rfl
    · rw [if_neg hc]
      by_cases hk : K < 1
      · rw [if_pos (.inr (.inr (by omega)))]
        have : m = 0 := by rw [← hm]; have : K - 1 = 0 := by omega
                           rw [this]; simp
        rw [this]; simp
      · rw [if_neg (by omega)]
        have a1 : (col - 1) / (E : Int) = (((col.toNat - 1) / E : Nat) : Int) := by
          rw [Int.natCast_ediv]
          congr 1
          omega
        have a2 : ((K : Int) - 1) / (E : Int) = (m : Int) := by
          rw [← hm, Int.natCast_ediv]
          congr 1
          omega
        rw [a1, a2]
        omega
  have hle : before ((List.range m).map (fun j => spotAt g st en ((j + 1) * E))) col ≤ m := by
    have := before_le ((List.range m).map (fun j => spotAt g st en ((j + 1) * E))) col
    simpa using this
  generalize hb : before ((List.range m).map (fun j => spotAt g st en ((j + 1) * E))) col = j at *
  have hjE : j * E ≤ K - 1 := by
    have h1 : m * E ≤ K - 1 := by rw [← hm]; exact Nat.div_mul_le_self _ _
    exact Nat.le_trans (Nat.mul_le_mul_right E hle) h1
  -- the spot
  have hs : near ((List.range m).map (fun j => spotAt g st en ((j + 1) * E))) st col = if j = 0 then ((st : Int), 0, 0) else spotAt g st en (j * E) := by
    by_cases h0 : j = 0
    · rw [near_nil st col (by rw [hb]; exact h0), if_pos h0]
    · rw [near_at st col (by rw [hb]; exact h0) (by rw [hb]; simp; omega), if_neg h0]
      simp only [hb, List.getElem_map, List.getElem_range]
      rw [show j - 1 + 1 = j by omega]
  have hs2 : ∀ c, before ((List.range m).map (fun j => spotAt g st en ((j + 1) * E))) c = j → near ((List.range m).map (fun j => spotAt g st en ((j + 1) * E))) st c = if j = 0 then ((st : Int), 0, 0) else spotAt g st en (j * E) := fun c hc => by
    by_cases h0 : j = 0
    · rw [near_nil st c (by rw [hc]; exact h0), if_pos h0]
    · rw [near_at st c (by rw [hc]; exact h0) (by rw [hc]; simp; omega), if_neg h0]
      simp only [hc, List.getElem_map, List.getElem_range]
      rw [show j - 1 + 1 = j by omega]
  have hagain : before ((List.range m).map (fun j => spotAt g st en ((j + 1) * E))) ((j * E : Nat) + 1 : Int) = j := by
    rw [hbef, if_neg (by omega)]
    rw [show ((j * E : Nat) + 1 : Int).toNat - 1 = j * E by omega, Nat.mul_div_cancel _ (by omega)]
    omega
  rw [hs]
  by_cases h0 : j = 0
  · rw [if_pos h0]
    subst h0
    refine ⟨by rw [hj]; exact Int.le_refl _, by rw [hj]; rfl, by simp, by simp, by simp; omega, by simp, ?_⟩
    have := hs2 _ hagain
    rw [if_pos rfl] at this
    simpa using this
  · rw [if_neg h0]
    have hj1 : 1 ≤ j * E := Nat.mul_pos (by omega) (by omega)
    have hKpos : j * E < K := by omega
    have hge := pos_ge g st en (j * E) (fun i hi => hlt i (by omega))
    have hle2 := pos_le (g := g) h (j * E)
    refine ⟨by rw [hj]; omega, ?_, ?_, ?_, ?_, ?_, ?_⟩
    · rw [hj, if_pos (by omega)]
      simp [spotAt]
    · simp only [spotAt]; omega
    · simp only [spotAt]; omega
    · simp only [spotAt]; omega
    · simp only [spotAt]; omega
    · have := hs2 _ hagain
      rw [if_neg h0] at this
      exact this

theorem mono_marks (g : Nat → Int) (st en E K : Nat) (hE : 1 ≤ E) (hK : pos g st en K = en) (hlt : ∀ j, j < K → pos g st en j < en) (hKn : K ≤ en - st) :
    ∀ i j (hi : i < (lm g E (st, en)).length) (hj : j < (lm g E (st, en)).length), i ≤ j → ((lm g E (st, en))[i]).2.1 ≤ ((lm g E (st, en))[j]).2.1 := by
  have hM : lm g E (st, en) = (List.range ((K - 1) / E)).map (fun j => spotAt g st en ((j + 1) * E)) := by
    rw [lm_eq (K := K) (p := (st, en)) hK hKn]
    exact mks_whole g st en E K hE hK hlt
  rw [hM]
  intro i j hi hj hij
  simp only [List.getElem_map, List.getElem_range, spotAt]
  have : (i + 1) * E ≤ (j + 1) * E := Nat.mul_le_mul_right E (by omega)
  omega

theorem lm_len (g : Nat → Int) (E : Nat) (p : Nat × Nat) (h : p.2 ≤ 1048576) : (lm g E p).length ≤ 1048576 := by
  unfold lm
  have := mks_len g p.1 p.2 E (p.2 - p.1)
  omega

end Go.Proofs.Qxb6614461a
