/-
  isUpperOrDigit (11), validWord (10), ValidCode (6).
-/
import Derived.Test.Qxb6614599aRows
import Derived.WalkKit
import Derived.WalkSpells
namespace Go.Proofs.Qxb6614599a
open Go.ChangeShapes Go.WideShapes Go.RowKit

/-- A byte that a code may hold: 0-9, A-Z. -/
def code (c : Int) : Bool := (decide (65 ≤ c) && decide (c ≤ 90)) || (decide (48 ≤ c) && decide (c ≤ 57))
theorem code_yes {c : Int} (h : (65 ≤ c ∧ c ≤ 90) ∨ (48 ≤ c ∧ c ≤ 57)) : code c = true := by simp [code]; exact h
theorem code_no {c : Int} (h : ¬ ((65 ≤ c ∧ c ≤ 90) ∨ (48 ≤ c ∧ c ≤ 57))) : code c = false := by
  rw [Bool.eq_false_iff]
  intro hc
  simp [code] at hc
  exact h hc

theorem ret_bool {a b : Bool} (h : a = b) : Ending.returned (.bool a) = .returned (.bool b) := by rw [h]

theorem isUpper_any (c : Int) (w : World) : Calls Try.prog 11 #[.int .u8 c] w fun e w' => e = .returned (.bool (code c)) ∧ w' = w := by
  rcases (show c < 48 ∨ (48 ≤ c ∧ c ≤ 57) ∨ (57 < c ∧ c < 65) ∨ (65 ≤ c ∧ c ≤ 90) ∨ 90 < c by omega) with h | h | h | h | h
  · rw [code_no (by omega)]
    go_enter Try.func11, Try.ntmps11
    go_wp2
    go_ret
    exact ⟨rfl, rfl⟩
  · rw [code_yes (by omega)]
    go_enter Try.func11, Try.ntmps11
    go_wp2
    go_ret
    exact ⟨rfl, rfl⟩
  · rw [code_no (by omega)]
    have h1 : decide (c ≤ 57) = false := decide_eq_false (by omega)
    go_enter Try.func11, Try.ntmps11
    go_wp2
    go_ret
    exact ⟨rfl, rfl⟩
  · rw [code_yes (by omega)]
    go_enter Try.func11, Try.ntmps11
    go_wp2
    go_ret
    exact ⟨rfl, rfl⟩
  · rw [code_no (by omega)]
    have h1 : decide (c ≤ 57) = false := decide_eq_false (by omega)
    have h2 : decide (c ≤ 90) = false := decide_eq_false (by omega)
    go_enter Try.func11, Try.ntmps11
    go_wp2
    go_ret
    exact ⟨rfl, rfl⟩

/-- Every byte is one that a code may hold. -/
def allCode (l : List UInt8) : Bool := l.all fun b => code b.toNat
/-- What ValidCode says. -/
def vc (s : ByteArray) (m : Int) : Bool := !s.toList.isEmpty && decide ((s.size : Int) ≤ m) && allCode s.data.toList

theorem allCode_yes {s : ByteArray} (h : ∀ j (hj : j < s.size), code (s[j]'hj).toNat = true) : allCode s.data.toList = true := by
  unfold allCode
  rw [List.all_eq_true]
  intro x hx
  obtain ⟨j, hj, rfl⟩ := List.mem_iff_getElem.1 hx
  exact h j (by simpa using hj)
theorem allCode_no {s : ByteArray} (j : Nat) (hj : j < s.size) (h : code (s[j]'hj).toNat = false) : allCode s.data.toList = false := by
  unfold allCode
  rw [List.all_eq_false]
  exact ⟨s[j], List.mem_iff_getElem.2 ⟨j, by simpa using hj, rfl⟩, by rw [h]; simp⟩

set_option maxHeartbeats 1000000 in
theorem validWord_any (s : ByteArray) (m : Int) (w : World) (hs : s.size ≤ 1048576) :
    Calls Try.prog 10 #[.string s, .int .i64 m, .func (.func 11) #[] #[]] w fun e w' => e = .returned (.bool (vc s m)) ∧ w' = w := by
  by_cases he : s.toList.isEmpty = true
  · have e1 : vc s m = false := by unfold vc; rw [he]; rfl
    rw [e1]
    clear e1
    go_enter Try.func10, Try.ntmps10
    go_wp2_with fail
    go_ret
    exact ⟨rfl, rfl⟩
  have he' : s.toList.isEmpty = false := by simpa using he
  clear he
  by_cases hm : m < (s.size : Int)
  · have e1 : vc s m = false := by unfold vc; rw [he', decide_eq_false (by omega)]; rfl
    have hm' : decide (m < (s.size : Int)) = true := decide_eq_true hm
    rw [e1]
    clear e1
    go_enter Try.func10, Try.ntmps10
    go_wp2_with fail
    go_ret
    exact ⟨rfl, rfl⟩
  have e1 : Hid (vc s m = allCode s.data.toList) := by unfold Hid vc; rw [he', decide_eq_true (by omega)]; simp
  have hm' : decide (m < (s.size : Int)) = false := decide_eq_false hm
  go_enter Try.func10, Try.ntmps10
  go_wp2_with fail
  go_loop [7] (fun i => ∃ k : Nat, k ≤ s.size ∧ i = .int .i64 k ∧ Hid (∀ j (hj : j < s.size), j < k → code (s[j]'hj).toNat = true)) (fun i => s.size - (intOf i).toNat)
  case atStart => exact ⟨0, Nat.zero_le _, rfl, fun j _ hj => by omega⟩
  case round =>
    obtain ⟨k, hk, rfl, HK⟩ := hrel
    by_cases hlt : k < s.size
    · have hcon := isUpper_any ((s[k]'hlt).toNat : Int) w
      cases hc : code ((s[k]'hlt).toNat : Int) with
      | false =>
        rw [hc] at hcon
        have HF : Hid (vc s m = false) := by unfold Hid; rw [e1.out, allCode_no k hlt hc]
        clear hc
        go_wp2_with (go_at_call 11; refine hcon.mono ?_; rintro e w' ⟨rfl, rfl⟩)
        go_ret
        exact ⟨ret_bool HF.out.symm, rfl⟩
      | true =>
        rw [hc] at hcon
        have HK2 : Hid (∀ j (hj : j < s.size), j < k + 1 → code (s[j]'hj).toNat = true) := fun j hj hjk => by
          by_cases e : j = k
          · subst e; exact hc
          · exact HK.out j hj (by omega)
        clear hc
        go_wp2_with (go_at_call 11; refine hcon.mono ?_; rintro e w' ⟨rfl, rfl⟩)
        go_round
        case rel => exact ⟨k + 1, by omega, by go_num, HK2⟩
        case measure => simp [intOf]; omega
    · have HF : Hid (vc s m = true) := by unfold Hid; rw [e1.out, allCode_yes (fun j hj => HK.out j hj (by omega))]
      go_wp2_with fail
      go_ret
      exact ⟨ret_bool HF.out.symm, rfl⟩

theorem validCode_any (s : ByteArray) (m : Int) (w : World) (hs : s.size ≤ 1048576) :
    Calls Try.prog 6 #[.string s, .int .i64 m] w fun e w' => e = .returned (.bool (vc s m)) ∧ w' = w := by
  have hcon := validWord_any s m w hs
  go_enter Try.func6, Try.ntmps6
  go_wp2_with fail
  refine hcon.mono ?_
  rintro e w' ⟨rfl, rfl⟩
  go_wp2_with fail
  go_ret
  exact ⟨rfl, rfl⟩

end Go.Proofs.Qxb6614599a
