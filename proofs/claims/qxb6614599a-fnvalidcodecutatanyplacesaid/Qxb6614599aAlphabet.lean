/-
  inCodeAlphabet (12), allInCodeAlphabet (7).
-/
import Derived.Test.Qxb6614599aWords
namespace Go.Proofs.Qxb6614599a
open Go.ChangeShapes Go.WideShapes Go.RowKit

/-- The alphabet's byte at place j. -/
def alph (j : Nat) : Int := if j < 10 then 48 + j else 55 + j

theorem alph_code {j : Nat} (h : j < 36) : code (alph j) = true := by
  unfold alph
  split
  · exact code_yes (by omega)
  · exact code_yes (by omega)
theorem code_alph {c : Int} (h : ∀ j, j < 36 → alph j ≠ c) : code c = false := by
  refine code_no (fun hc => ?_)
  rcases hc with hc | hc
  · refine h (c - 55).toNat (by omega) ?_
    unfold alph
    rw [if_neg (by omega)]
    omega
  · refine h (c - 48).toNat (by omega) ?_
    unfold alph
    rw [if_pos (by omega)]
    omega

theorem alph_all : ∀ k : Fin 36, (((⟨#[48, 49, 50, 51, 52, 53, 54, 55, 56, 57, 65, 66, 67, 68, 69, 70, 71, 72, 73, 74, 75, 76, 77, 78, 79, 80, 81, 82, 83, 84, 85, 86, 87, 88, 89, 90]⟩ : ByteArray)[k.val]'k.isLt).toNat : Int) = alph k.val := by decide
theorem alph_at {k : Nat} (hk : k < 36) (hp : k < (⟨#[48, 49, 50, 51, 52, 53, 54, 55, 56, 57, 65, 66, 67, 68, 69, 70, 71, 72, 73, 74, 75, 76, 77, 78, 79, 80, 81, 82, 83, 84, 85, 86, 87, 88, 89, 90]⟩ : ByteArray).size) : (((⟨#[48, 49, 50, 51, 52, 53, 54, 55, 56, 57, 65, 66, 67, 68, 69, 70, 71, 72, 73, 74, 75, 76, 77, 78, 79, 80, 81, 82, 83, 84, 85, 86, 87, 88, 89, 90]⟩ : ByteArray)[k]'hp).toNat : Int) = alph k := alph_all ⟨k, hk⟩
theorem alph_hit {k : Nat} {c : Int} (hk : k < 36) {hp : k < (⟨#[48, 49, 50, 51, 52, 53, 54, 55, 56, 57, 65, 66, 67, 68, 69, 70, 71, 72, 73, 74, 75, 76, 77, 78, 79, 80, 81, 82, 83, 84, 85, 86, 87, 88, 89, 90]⟩ : ByteArray).size} (h : ((((⟨#[48, 49, 50, 51, 52, 53, 54, 55, 56, 57, 65, 66, 67, 68, 69, 70, 71, 72, 73, 74, 75, 76, 77, 78, 79, 80, 81, 82, 83, 84, 85, 86, 87, 88, 89, 90]⟩ : ByteArray)[k]'hp).toNat : Int) == c) = true) : code c = true := by
  rw [alph_at hk hp, beq_iff_eq] at h
  rw [← h]
  exact alph_code hk
theorem alph_miss {k : Nat} {c : Int} (hk : k < 36) {hp : k < (⟨#[48, 49, 50, 51, 52, 53, 54, 55, 56, 57, 65, 66, 67, 68, 69, 70, 71, 72, 73, 74, 75, 76, 77, 78, 79, 80, 81, 82, 83, 84, 85, 86, 87, 88, 89, 90]⟩ : ByteArray).size} (h : ((((⟨#[48, 49, 50, 51, 52, 53, 54, 55, 56, 57, 65, 66, 67, 68, 69, 70, 71, 72, 73, 74, 75, 76, 77, 78, 79, 80, 81, 82, 83, 84, 85, 86, 87, 88, 89, 90]⟩ : ByteArray)[k]'hp).toNat : Int) == c) = false) : alph k ≠ c := by
  rw [alph_at hk hp, beq_eq_false_iff_ne] at h
  exact h

set_option maxHeartbeats 2000000 in
theorem inCode_any (c : Int) (w : World) : Calls Try.prog 12 #[.int .u8 c] w fun e w' => e = .returned (.bool (code c)) ∧ w' = w := by
  go_enter Try.func12, Try.ntmps12
  go_wp2
  go_loop [3] (fun i => ∃ k : Nat, k ≤ 36 ∧ i = .int .i64 k ∧ Hid (∀ j, j < k → alph j ≠ c)) (fun i => 36 - (intOf i).toNat)
  case atStart => exact ⟨0, Nat.zero_le _, rfl, fun j hj => by omega⟩
  case round =>
    obtain ⟨k, hk, rfl, HK⟩ := hrel
    by_cases hlt : k < 36
    · go_wp2
      · go_ret
        exact ⟨ret_bool (alph_hit hlt ‹_›).symm, rfl⟩
      · go_round
        case rel => exact ⟨k + 1, by omega, by go_num, fun j hj => by
          by_cases e : j = k
          · subst e; exact alph_miss hlt ‹_›
          · exact HK.out j (by omega)⟩
        case measure => simp [intOf]; omega
    · obtain rfl : k = 36 := by omega
      have HC : Hid (code c = false) := code_alph HK.out
      go_wp2
      go_ret
      exact ⟨ret_bool HC.out.symm, rfl⟩

set_option maxHeartbeats 1000000 in
theorem allIn_any (s : ByteArray) (w : World) (hs : s.size ≤ 1048576) :
    Calls Try.prog 7 #[.string s] w fun e w' => e = .returned (.bool (allCode s.data.toList)) ∧ w' = w := by
  generalize hr : allCode s.data.toList = r
  have HR : Hid (allCode s.data.toList = r) := hr
  clear hr
  go_enter Try.func7, Try.ntmps7
  go_wp2_with fail
  go_loop [3] (fun i => ∃ k : Nat, k ≤ s.size ∧ i = .int .i64 k ∧ Hid (∀ j (hj : j < s.size), j < k → code (s[j]'hj).toNat = true)) (fun i => s.size - (intOf i).toNat)
  case atStart => exact ⟨0, Nat.zero_le _, rfl, fun j _ hj => by omega⟩
  case round =>
    obtain ⟨k, hk, rfl, HK⟩ := hrel
    by_cases hlt : k < s.size
    · have hcon := inCode_any ((s[k]'hlt).toNat : Int) w
      cases hc : code ((s[k]'hlt).toNat : Int) with
      | false =>
        rw [hc] at hcon
        have HF : Hid (r = false) := by unfold Hid; rw [← HR.out, allCode_no k hlt hc]
        clear hc
        go_wp2_with (go_at_call 12; refine hcon.mono ?_; rintro e w' ⟨rfl, rfl⟩)
        go_ret
        exact ⟨ret_bool HF.out.symm, rfl⟩
      | true =>
        rw [hc] at hcon
        have HK2 : Hid (∀ j (hj : j < s.size), j < k + 1 → code (s[j]'hj).toNat = true) := fun j hj hjk => by
          by_cases e : j = k
          · subst e; exact hc
          · exact HK.out j hj (by omega)
        clear hc
        go_wp2_with (go_at_call 12; refine hcon.mono ?_; rintro e w' ⟨rfl, rfl⟩)
        go_round
        case rel => exact ⟨k + 1, by omega, by go_num, HK2⟩
        case measure => simp [intOf]; omega
    · have HF : Hid (r = true) := by unfold Hid; rw [← HR.out, allCode_yes (fun j hj => HK.out j hj (by omega))]
      go_wp2_with fail
      go_ret
      exact ⟨ret_bool HF.out.symm, rfl⟩

end Go.Proofs.Qxb6614599a
