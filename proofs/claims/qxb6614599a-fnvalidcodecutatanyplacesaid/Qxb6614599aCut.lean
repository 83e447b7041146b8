/-
  FnValidCodeCutAtAnyPlace (3): the plain laws of a cut, and the walk, case by case (is a piece empty; may each of its bytes stand in a code).
-/
import Derived.Test.Qxb6614599aAlphabet
import Derived.Lib.Strings
import Derived.Lib.SmallJoins
import Derived.ProofKit
namespace Go.Proofs.Qxb6614599a.fnValidCodeCutAtAnyPlace
open Go.ChangeShapes Go.WideShapes Go.ChangeAt Go.RowKit
set_option linter.unusedSimpArgs false

theorem zzBytes_any (s : ByteArray) (a b : Int) (w : World) (hs : s.size ≤ maxLen) :
    Calls Try.prog 5 #[.string s, .int .i64 a, .int .i64 b] w fun e w' => e = .returned (.bool (decide ((s.size : Int) ≤ 1048576))) ∧ w' = w := by
  unfold maxLen at hs
  by_cases h : (s.size : Int) ≤ 1048576
  · have h' : ¬ (1048576 : Int) < (s.size : Int) := by omega
    rw [decide_eq_true h]
    go_enter Try.func5, Try.ntmps5
    go_wp2
    go_ret
    exact ⟨rfl, rfl⟩
  · have h' : (1048576 : Int) < (s.size : Int) := by omega
    rw [decide_eq_false h]
    go_enter Try.func5, Try.ntmps5
    go_wp2
    go_ret
    exact ⟨rfl, rfl⟩

theorem size_toList (s : ByteArray) : s.data.toList.length = s.size := by rw [Array.length_toList]; rfl
theorem cut_lists (s : ByteArray) (k : Nat) (_hk : k ≤ s.size) : (s.extract 0 k).data.toList = s.data.toList.take k ∧ (s.extract k s.size).data.toList = s.data.toList.drop k := by
  have hs := size_toList s
  rw [Lib.extract_data, Lib.extract_data]
  refine ⟨by simp, ?_⟩
  rw [List.take_of_length_le (by simp)]
theorem cut_size (s : ByteArray) (k : Nat) (hk : k ≤ s.size) : (s.extract 0 k).size ≤ s.size ∧ (s.extract k s.size).size ≤ s.size := by
  obtain ⟨h1, h2⟩ := cut_lists s k hk
  have hs := size_toList s
  have e1 := size_toList (s.extract 0 k)
  have e2 := size_toList (s.extract k s.size)
  rw [h1] at e1
  rw [h2] at e2
  simp only [List.length_take, List.length_drop] at e1 e2
  omega
theorem cut_all (s : ByteArray) (k : Nat) (hk : k ≤ s.size) : allCode s.data.toList = (allCode (s.extract 0 k).data.toList && allCode (s.extract k s.size).data.toList) := by
  obtain ⟨h1, h2⟩ := cut_lists s k hk
  rw [h1, h2]
  unfold allCode
  rw [← List.all_append, List.take_append_drop]
theorem isEmpty_app (a b : List UInt8) : (a ++ b).isEmpty = (a.isEmpty && b.isEmpty) := by cases a <;> simp
theorem cut_empty (s : ByteArray) (k : Nat) (hk : k ≤ s.size) : s.toList.isEmpty = ((s.extract 0 k).toList.isEmpty && (s.extract k s.size).toList.isEmpty) := by
  obtain ⟨h1, h2⟩ := cut_lists s k hk
  rw [Lib.toList_data, Lib.toList_data, Lib.toList_data, h1, h2]
  conv => lhs; rw [← List.take_append_drop k s.data.toList]
  exact isEmpty_app _ _
theorem vc_at (s : ByteArray) (m : Int) : vc s m = (!s.toList.isEmpty && decide ((s.size : Int) ≤ m) && allCode s.data.toList) := rfl
theorem vc_self (s : ByteArray) : vc s s.size = (!s.toList.isEmpty && allCode s.data.toList) := by
  unfold vc
  rw [decide_eq_true (Int.le_refl _), Bool.and_true]
theorem empty_all {s : ByteArray} (h : s.toList.isEmpty = true) : allCode s.data.toList = true := by
  rw [Lib.toList_data, List.isEmpty_iff] at h
  rw [h]
  rfl

set_option maxHeartbeats 2000000 in
theorem case0 (a0 : ByteArray) (a1 : Int) (k : Nat) (w : World) (hs : a0.size ≤ 1048576) (hk : k ≤ a0.size) (hel0 : (a0.extract 0 k).toList.isEmpty = true) (hal0 : allCode (a0.extract 0 k).data.toList = true) (her0 : (a0.extract k a0.size).toList.isEmpty = true) (har0 : allCode (a0.extract k a0.size).data.toList = true) :
    Calls Try.prog 3 #[.string a0, .int .i64 a1, .int .i64 k] w fun e w' => e = .returned (.bool true) ∧ w' = w := by
  have hcon := zzBytes_any a0 a1 k w (by unfold maxLen; omega)
  rw [decide_eq_true (by omega)] at hcon
  have hle : decide ((1048576 : Int) < (a0.size : Int)) = false := decide_eq_false (by omega)
  have hk1 : ¬ (k : Int) < 0 := by omega
  have hk2 : ¬ (a0.size : Int) < (k : Int) := by omega
  have c1 := validCode_any a0 a1 w hs
  have HE := cut_empty a0 k hk
  rw [vc_at a0 a1, HE, cut_all a0 k hk, hel0, hal0, her0, har0] at c1
  have hl : (a0.extract 0 k).size ≤ 1048576 := by have := (cut_size a0 k hk).1; omega
  have hr : (a0.extract k a0.size).size ≤ 1048576 := by have := (cut_size a0 k hk).2; omega
  rw [hel0, her0] at HE
  simp only [Bool.and_true, Bool.and_false, Bool.and_self, Bool.true_and, Bool.false_and, Bool.not_true, Bool.not_false] at HE c1
  have HL : Hid ((a0.extract 0 k).toList.isEmpty = true ∧ allCode (a0.extract 0 k).data.toList = true) := ⟨hel0, hal0⟩
  have HR : Hid ((a0.extract k a0.size).toList.isEmpty = true ∧ allCode (a0.extract k a0.size).data.toList = true) := ⟨her0, har0⟩
  clear hel0 hal0 her0 har0
  cases hdm : decide ((a0.size : Int) ≤ a1)
  all_goals
    try rw [hdm] at c1
    go_enter Try.func3, Try.ntmps3
    go_wp2_with fail
    refine hcon.mono ?_
    rintro e w' ⟨rfl, rfl⟩
    clear hcon
    go_wp2_with fail
    generalize a0.extract 0 k = l at HL hl ⊢
    generalize a0.extract k a0.size = r at HR hr ⊢
    have c2 := validCode_any l l.size w' hl
    have c3 := validCode_any r r.size w' hr
    have c4 := allIn_any l w' hl
    have c5 := allIn_any r w' hr
    obtain ⟨hel, hal⟩ := HL.out
    obtain ⟨her, har⟩ := HR.out
    rw [vc_self, hel, hal] at c2
    rw [vc_self, her, har] at c3
    rw [hal] at c4
    rw [har] at c5
    clear hal har HL HR hl hr hk
    refine c1.mono ?_
    rintro e w' ⟨rfl, rfl⟩
    clear c1
    go_wp2_with fail
    go_ret
    exact ⟨by first | rfl | simp, rfl⟩

set_option maxHeartbeats 2000000 in
theorem case1 (a0 : ByteArray) (a1 : Int) (k : Nat) (w : World) (hs : a0.size ≤ 1048576) (hk : k ≤ a0.size) (hel0 : (a0.extract 0 k).toList.isEmpty = true) (hal0 : allCode (a0.extract 0 k).data.toList = true) (her0 : (a0.extract k a0.size).toList.isEmpty = false) (har0 : allCode (a0.extract k a0.size).data.toList = true) :
    Calls Try.prog 3 #[.string a0, .int .i64 a1, .int .i64 k] w fun e w' => e = .returned (.bool true) ∧ w' = w := by
  have hcon := zzBytes_any a0 a1 k w (by unfold maxLen; omega)
  rw [decide_eq_true (by omega)] at hcon
  have hle : decide ((1048576 : Int) < (a0.size : Int)) = false := decide_eq_false (by omega)
  have hk1 : ¬ (k : Int) < 0 := by omega
  have hk2 : ¬ (a0.size : Int) < (k : Int) := by omega
  have c1 := validCode_any a0 a1 w hs
  have HE := cut_empty a0 k hk
  rw [vc_at a0 a1, HE, cut_all a0 k hk, hel0, hal0, her0, har0] at c1
  have hl : (a0.extract 0 k).size ≤ 1048576 := by have := (cut_size a0 k hk).1; omega
  have hr : (a0.extract k a0.size).size ≤ 1048576 := by have := (cut_size a0 k hk).2; omega
  rw [hel0, her0] at HE
  simp only [Bool.and_true, Bool.and_false, Bool.and_self, Bool.true_and, Bool.false_and, Bool.not_true, Bool.not_false] at HE c1
  have HL : Hid ((a0.extract 0 k).toList.isEmpty = true ∧ allCode (a0.extract 0 k).data.toList = true) := ⟨hel0, hal0⟩
  have HR : Hid ((a0.extract k a0.size).toList.isEmpty = false ∧ allCode (a0.extract k a0.size).data.toList = true) := ⟨her0, har0⟩
  clear hel0 hal0 her0 har0
  cases hdm : decide ((a0.size : Int) ≤ a1)
  all_goals
    try rw [hdm] at c1
    go_enter Try.func3, Try.ntmps3
    go_wp2_with fail
    refine hcon.mono ?_
    rintro e w' ⟨rfl, rfl⟩
    clear hcon
    go_wp2_with fail
    generalize a0.extract 0 k = l at HL hl ⊢
    generalize a0.extract k a0.size = r at HR hr ⊢
    have c2 := validCode_any l l.size w' hl
    have c3 := validCode_any r r.size w' hr
    have c4 := allIn_any l w' hl
    have c5 := allIn_any r w' hr
    obtain ⟨hel, hal⟩ := HL.out
    obtain ⟨her, har⟩ := HR.out
    rw [vc_self, hel, hal] at c2
    rw [vc_self, her, har] at c3
    rw [hal] at c4
    rw [har] at c5
    clear hal har HL HR hl hr hk
    refine c1.mono ?_
    rintro e w' ⟨rfl, rfl⟩
    clear c1
    go_wp2_with fail
    refine c3.mono ?_
    rintro e w' ⟨rfl, rfl⟩
    clear c3
    go_wp2_with fail
    refine c5.mono ?_
    rintro e w' ⟨rfl, rfl⟩
    clear c5
    go_wp2_with fail
    go_ret
    exact ⟨by first | rfl | simp, rfl⟩

set_option maxHeartbeats 2000000 in
theorem case2 (a0 : ByteArray) (a1 : Int) (k : Nat) (w : World) (hs : a0.size ≤ 1048576) (hk : k ≤ a0.size) (hel0 : (a0.extract 0 k).toList.isEmpty = true) (hal0 : allCode (a0.extract 0 k).data.toList = true) (her0 : (a0.extract k a0.size).toList.isEmpty = false) (har0 : allCode (a0.extract k a0.size).data.toList = false) :
    Calls Try.prog 3 #[.string a0, .int .i64 a1, .int .i64 k] w fun e w' => e = .returned (.bool true) ∧ w' = w := by
  have hcon := zzBytes_any a0 a1 k w (by unfold maxLen; omega)
  rw [decide_eq_true (by omega)] at hcon
  have hle : decide ((1048576 : Int) < (a0.size : Int)) = false := decide_eq_false (by omega)
  have hk1 : ¬ (k : Int) < 0 := by omega
  have hk2 : ¬ (a0.size : Int) < (k : Int) := by omega
  have c1 := validCode_any a0 a1 w hs
  have HE := cut_empty a0 k hk
  rw [vc_at a0 a1, HE, cut_all a0 k hk, hel0, hal0, her0, har0] at c1
  have hl : (a0.extract 0 k).size ≤ 1048576 := by have := (cut_size a0 k hk).1; omega
  have hr : (a0.extract k a0.size).size ≤ 1048576 := by have := (cut_size a0 k hk).2; omega
  rw [hel0, her0] at HE
  simp only [Bool.and_true, Bool.and_false, Bool.and_self, Bool.true_and, Bool.false_and, Bool.not_true, Bool.not_false] at HE c1
  have HL : Hid ((a0.extract 0 k).toList.isEmpty = true ∧ allCode (a0.extract 0 k).data.toList = true) := ⟨hel0, hal0⟩
  have HR : Hid ((a0.extract k a0.size).toList.isEmpty = false ∧ allCode (a0.extract k a0.size).data.toList = false) := ⟨her0, har0⟩
  clear hel0 hal0 her0 har0
  cases hdm : decide ((a0.size : Int) ≤ a1)
  all_goals
    try rw [hdm] at c1
    go_enter Try.func3, Try.ntmps3
    go_wp2_with fail
    refine hcon.mono ?_
    rintro e w' ⟨rfl, rfl⟩
    clear hcon
    go_wp2_with fail
    generalize a0.extract 0 k = l at HL hl ⊢
    generalize a0.extract k a0.size = r at HR hr ⊢
    have c2 := validCode_any l l.size w' hl
    have c3 := validCode_any r r.size w' hr
    have c4 := allIn_any l w' hl
    have c5 := allIn_any r w' hr
    obtain ⟨hel, hal⟩ := HL.out
    obtain ⟨her, har⟩ := HR.out
    rw [vc_self, hel, hal] at c2
    rw [vc_self, her, har] at c3
    rw [hal] at c4
    rw [har] at c5
    clear hal har HL HR hl hr hk
    refine c1.mono ?_
    rintro e w' ⟨rfl, rfl⟩
    clear c1
    go_wp2_with fail
    refine c3.mono ?_
    rintro e w' ⟨rfl, rfl⟩
    clear c3
    go_wp2_with fail
    refine c5.mono ?_
    rintro e w' ⟨rfl, rfl⟩
    clear c5
    go_wp2_with fail
    go_ret
    exact ⟨by first | rfl | simp, rfl⟩

set_option maxHeartbeats 2000000 in
theorem case3 (a0 : ByteArray) (a1 : Int) (k : Nat) (w : World) (hs : a0.size ≤ 1048576) (hk : k ≤ a0.size) (hel0 : (a0.extract 0 k).toList.isEmpty = false) (hal0 : allCode (a0.extract 0 k).data.toList = true) (her0 : (a0.extract k a0.size).toList.isEmpty = true) (har0 : allCode (a0.extract k a0.size).data.toList = true) :
    Calls Try.prog 3 #[.string a0, .int .i64 a1, .int .i64 k] w fun e w' => e = .returned (.bool true) ∧ w' = w := by
  have hcon := zzBytes_any a0 a1 k w (by unfold maxLen; omega)
  rw [decide_eq_true (by omega)] at hcon
  have hle : decide ((1048576 : Int) < (a0.size : Int)) = false := decide_eq_false (by omega)
  have hk1 : ¬ (k : Int) < 0 := by omega
  have hk2 : ¬ (a0.size : Int) < (k : Int) := by omega
  have c1 := validCode_any a0 a1 w hs
  have HE := cut_empty a0 k hk
  rw [vc_at a0 a1, HE, cut_all a0 k hk, hel0, hal0, her0, har0] at c1
  have hl : (a0.extract 0 k).size ≤ 1048576 := by have := (cut_size a0 k hk).1; omega
  have hr : (a0.extract k a0.size).size ≤ 1048576 := by have := (cut_size a0 k hk).2; omega
  rw [hel0, her0] at HE
  simp only [Bool.and_true, Bool.and_false, Bool.and_self, Bool.true_and, Bool.false_and, Bool.not_true, Bool.not_false] at HE c1
  have HL : Hid ((a0.extract 0 k).toList.isEmpty = false ∧ allCode (a0.extract 0 k).data.toList = true) := ⟨hel0, hal0⟩
  have HR : Hid ((a0.extract k a0.size).toList.isEmpty = true ∧ allCode (a0.extract k a0.size).data.toList = true) := ⟨her0, har0⟩
  clear hel0 hal0 her0 har0
  cases hdm : decide ((a0.size : Int) ≤ a1)
  all_goals
    try rw [hdm] at c1
    go_enter Try.func3, Try.ntmps3
    go_wp2_with fail
    refine hcon.mono ?_
    rintro e w' ⟨rfl, rfl⟩
    clear hcon
    go_wp2_with fail
    generalize a0.extract 0 k = l at HL hl ⊢
    generalize a0.extract k a0.size = r at HR hr ⊢
    have c2 := validCode_any l l.size w' hl
    have c3 := validCode_any r r.size w' hr
    have c4 := allIn_any l w' hl
    have c5 := allIn_any r w' hr
    obtain ⟨hel, hal⟩ := HL.out
    obtain ⟨her, har⟩ := HR.out
    rw [vc_self, hel, hal] at c2
    rw [vc_self, her, har] at c3
    rw [hal] at c4
    rw [har] at c5
    clear hal har HL HR hl hr hk
    refine c1.mono ?_
    rintro e w' ⟨rfl, rfl⟩
    clear c1
    go_wp2_with fail
    refine c2.mono ?_
    rintro e w' ⟨rfl, rfl⟩
    clear c2
    go_wp2_with fail
    refine c4.mono ?_
    rintro e w' ⟨rfl, rfl⟩
    clear c4
    go_wp2_with fail
    go_ret
    exact ⟨by first | rfl | simp, rfl⟩

set_option maxHeartbeats 2000000 in
theorem case4 (a0 : ByteArray) (a1 : Int) (k : Nat) (w : World) (hs : a0.size ≤ 1048576) (hk : k ≤ a0.size) (hel0 : (a0.extract 0 k).toList.isEmpty = false) (hal0 : allCode (a0.extract 0 k).data.toList = true) (her0 : (a0.extract k a0.size).toList.isEmpty = false) (har0 : allCode (a0.extract k a0.size).data.toList = true) :
    Calls Try.prog 3 #[.string a0, .int .i64 a1, .int .i64 k] w fun e w' => e = .returned (.bool true) ∧ w' = w := by
  have hcon := zzBytes_any a0 a1 k w (by unfold maxLen; omega)
  rw [decide_eq_true (by omega)] at hcon
  have hle : decide ((1048576 : Int) < (a0.size : Int)) = false := decide_eq_false (by omega)
  have hk1 : ¬ (k : Int) < 0 := by omega
  have hk2 : ¬ (a0.size : Int) < (k : Int) := by omega
  have c1 := validCode_any a0 a1 w hs
  have HE := cut_empty a0 k hk
  rw [vc_at a0 a1, HE, cut_all a0 k hk, hel0, hal0, her0, har0] at c1
  have hl : (a0.extract 0 k).size ≤ 1048576 := by have := (cut_size a0 k hk).1; omega
  have hr : (a0.extract k a0.size).size ≤ 1048576 := by have := (cut_size a0 k hk).2; omega
  rw [hel0, her0] at HE
  simp only [Bool.and_true, Bool.and_false, Bool.and_self, Bool.true_and, Bool.false_and, Bool.not_true, Bool.not_false] at HE c1
  have HL : Hid ((a0.extract 0 k).toList.isEmpty = false ∧ allCode (a0.extract 0 k).data.toList = true) := ⟨hel0, hal0⟩
  have HR : Hid ((a0.extract k a0.size).toList.isEmpty = false ∧ allCode (a0.extract k a0.size).data.toList = true) := ⟨her0, har0⟩
  clear hel0 hal0 her0 har0
  cases hdm : decide ((a0.size : Int) ≤ a1)
  all_goals
    try rw [hdm] at c1
    go_enter Try.func3, Try.ntmps3
    go_wp2_with fail
    refine hcon.mono ?_
    rintro e w' ⟨rfl, rfl⟩
    clear hcon
    go_wp2_with fail
    generalize a0.extract 0 k = l at HL hl ⊢
    generalize a0.extract k a0.size = r at HR hr ⊢
    have c2 := validCode_any l l.size w' hl
    have c3 := validCode_any r r.size w' hr
    have c4 := allIn_any l w' hl
    have c5 := allIn_any r w' hr
    obtain ⟨hel, hal⟩ := HL.out
    obtain ⟨her, har⟩ := HR.out
    rw [vc_self, hel, hal] at c2
    rw [vc_self, her, har] at c3
    rw [hal] at c4
    rw [har] at c5
    clear hal har HL HR hl hr hk
    refine c1.mono ?_
    rintro e w' ⟨rfl, rfl⟩
    clear c1
    go_wp2_with fail
    refine c2.mono ?_
    rintro e w' ⟨rfl, rfl⟩
    clear c2
    go_wp2_with fail
    refine c4.mono ?_
    rintro e w' ⟨rfl, rfl⟩
    clear c4
    go_wp2_with fail
    refine c3.mono ?_
    rintro e w' ⟨rfl, rfl⟩
    clear c3
    go_wp2_with fail
    refine c5.mono ?_
    rintro e w' ⟨rfl, rfl⟩
    clear c5
    go_wp2_with fail
    go_ret
    exact ⟨by first | rfl | simp, rfl⟩

set_option maxHeartbeats 2000000 in
theorem case5 (a0 : ByteArray) (a1 : Int) (k : Nat) (w : World) (hs : a0.size ≤ 1048576) (hk : k ≤ a0.size) (hel0 : (a0.extract 0 k).toList.isEmpty = false) (hal0 : allCode (a0.extract 0 k).data.toList = true) (her0 : (a0.extract k a0.size).toList.isEmpty = false) (har0 : allCode (a0.extract k a0.size).data.toList = false) :
    Calls Try.prog 3 #[.string a0, .int .i64 a1, .int .i64 k] w fun e w' => e = .returned (.bool true) ∧ w' = w := by
  have hcon := zzBytes_any a0 a1 k w (by unfold maxLen; omega)
  rw [decide_eq_true (by omega)] at hcon
  have hle : decide ((1048576 : Int) < (a0.size : Int)) = false := decide_eq_false (by omega)
  have hk1 : ¬ (k : Int) < 0 := by omega
  have hk2 : ¬ (a0.size : Int) < (k : Int) := by omega
  have c1 := validCode_any a0 a1 w hs
  have HE := cut_empty a0 k hk
  rw [vc_at a0 a1, HE, cut_all a0 k hk, hel0, hal0, her0, har0] at c1
  have hl : (a0.extract 0 k).size ≤ 1048576 := by have := (cut_size a0 k hk).1; omega
  have hr : (a0.extract k a0.size).size ≤ 1048576 := by have := (cut_size a0 k hk).2; omega
  rw [hel0, her0] at HE
  simp only [Bool.and_true, Bool.and_false, Bool.and_self, Bool.true_and, Bool.false_and, Bool.not_true, Bool.not_false] at HE c1
  have HL : Hid ((a0.extract 0 k).toList.isEmpty = false ∧ allCode (a0.extract 0 k).data.toList = true) := ⟨hel0, hal0⟩
  have HR : Hid ((a0.extract k a0.size).toList.isEmpty = false ∧ allCode (a0.extract k a0.size).data.toList = false) := ⟨her0, har0⟩
  clear hel0 hal0 her0 har0
  cases hdm : decide ((a0.size : Int) ≤ a1)
  all_goals
    try rw [hdm] at c1
    go_enter Try.func3, Try.ntmps3
    go_wp2_with fail
    refine hcon.mono ?_
    rintro e w' ⟨rfl, rfl⟩
    clear hcon
    go_wp2_with fail
    generalize a0.extract 0 k = l at HL hl ⊢
    generalize a0.extract k a0.size = r at HR hr ⊢
    have c2 := validCode_any l l.size w' hl
    have c3 := validCode_any r r.size w' hr
    have c4 := allIn_any l w' hl
    have c5 := allIn_any r w' hr
    obtain ⟨hel, hal⟩ := HL.out
    obtain ⟨her, har⟩ := HR.out
    rw [vc_self, hel, hal] at c2
    rw [vc_self, her, har] at c3
    rw [hal] at c4
    rw [har] at c5
    clear hal har HL HR hl hr hk
    refine c1.mono ?_
    rintro e w' ⟨rfl, rfl⟩
    clear c1
    go_wp2_with fail
    refine c2.mono ?_
    rintro e w' ⟨rfl, rfl⟩
    clear c2
    go_wp2_with fail
    refine c4.mono ?_
    rintro e w' ⟨rfl, rfl⟩
    clear c4
    go_wp2_with fail
    refine c3.mono ?_
    rintro e w' ⟨rfl, rfl⟩
    clear c3
    go_wp2_with fail
    refine c5.mono ?_
    rintro e w' ⟨rfl, rfl⟩
    clear c5
    go_wp2_with fail
    go_ret
    exact ⟨by first | rfl | simp, rfl⟩

set_option maxHeartbeats 2000000 in
theorem case6 (a0 : ByteArray) (a1 : Int) (k : Nat) (w : World) (hs : a0.size ≤ 1048576) (hk : k ≤ a0.size) (hel0 : (a0.extract 0 k).toList.isEmpty = false) (hal0 : allCode (a0.extract 0 k).data.toList = false) (her0 : (a0.extract k a0.size).toList.isEmpty = true) (har0 : allCode (a0.extract k a0.size).data.toList = true) :
    Calls Try.prog 3 #[.string a0, .int .i64 a1, .int .i64 k] w fun e w' => e = .returned (.bool true) ∧ w' = w := by
  have hcon := zzBytes_any a0 a1 k w (by unfold maxLen; omega)
  rw [decide_eq_true (by omega)] at hcon
  have hle : decide ((1048576 : Int) < (a0.size : Int)) = false := decide_eq_false (by omega)
  have hk1 : ¬ (k : Int) < 0 := by omega
  have hk2 : ¬ (a0.size : Int) < (k : Int) := by omega
  have c1 := validCode_any a0 a1 w hs
  have HE := cut_empty a0 k hk
  rw [vc_at a0 a1, HE, cut_all a0 k hk, hel0, hal0, her0, har0] at c1
  have hl : (a0.extract 0 k).size ≤ 1048576 := by have := (cut_size a0 k hk).1; omega
  have hr : (a0.extract k a0.size).size ≤ 1048576 := by have := (cut_size a0 k hk).2; omega
  rw [hel0, her0] at HE
  simp only [Bool.and_true, Bool.and_false, Bool.and_self, Bool.true_and, Bool.false_and, Bool.not_true, Bool.not_false] at HE c1
  have HL : Hid ((a0.extract 0 k).toList.isEmpty = false ∧ allCode (a0.extract 0 k).data.toList = false) := ⟨hel0, hal0⟩
  have HR : Hid ((a0.extract k a0.size).toList.isEmpty = true ∧ allCode (a0.extract k a0.size).data.toList = true) := ⟨her0, har0⟩
  clear hel0 hal0 her0 har0
  cases hdm : decide ((a0.size : Int) ≤ a1)
  all_goals
    try rw [hdm] at c1
    go_enter Try.func3, Try.ntmps3
    go_wp2_with fail
    refine hcon.mono ?_
    rintro e w' ⟨rfl, rfl⟩
    clear hcon
    go_wp2_with fail
    generalize a0.extract 0 k = l at HL hl ⊢
    generalize a0.extract k a0.size = r at HR hr ⊢
    have c2 := validCode_any l l.size w' hl
    have c3 := validCode_any r r.size w' hr
    have c4 := allIn_any l w' hl
    have c5 := allIn_any r w' hr
    obtain ⟨hel, hal⟩ := HL.out
    obtain ⟨her, har⟩ := HR.out
    rw [vc_self, hel, hal] at c2
    rw [vc_self, her, har] at c3
    rw [hal] at c4
    rw [har] at c5
    clear hal har HL HR hl hr hk
    refine c1.mono ?_
    rintro e w' ⟨rfl, rfl⟩
    clear c1
    go_wp2_with fail
    refine c2.mono ?_
    rintro e w' ⟨rfl, rfl⟩
    clear c2
    go_wp2_with fail
    refine c4.mono ?_
    rintro e w' ⟨rfl, rfl⟩
    clear c4
    go_wp2_with fail
    go_ret
    exact ⟨by first | rfl | simp, rfl⟩

set_option maxHeartbeats 2000000 in
theorem case7 (a0 : ByteArray) (a1 : Int) (k : Nat) (w : World) (hs : a0.size ≤ 1048576) (hk : k ≤ a0.size) (hel0 : (a0.extract 0 k).toList.isEmpty = false) (hal0 : allCode (a0.extract 0 k).data.toList = false) (her0 : (a0.extract k a0.size).toList.isEmpty = false) (har0 : allCode (a0.extract k a0.size).data.toList = true) :
    Calls Try.prog 3 #[.string a0, .int .i64 a1, .int .i64 k] w fun e w' => e = .returned (.bool true) ∧ w' = w := by
  have hcon := zzBytes_any a0 a1 k w (by unfold maxLen; omega)
  rw [decide_eq_true (by omega)] at hcon
  have hle : decide ((1048576 : Int) < (a0.size : Int)) = false := decide_eq_false (by omega)
  have hk1 : ¬ (k : Int) < 0 := by omega
  have hk2 : ¬ (a0.size : Int) < (k : Int) := by omega
  have c1 := validCode_any a0 a1 w hs
  have HE := cut_empty a0 k hk
  rw [vc_at a0 a1, HE, cut_all a0 k hk, hel0, hal0, her0, har0] at c1
  have hl : (a0.extract 0 k).size ≤ 1048576 := by have := (cut_size a0 k hk).1; omega
  have hr : (a0.extract k a0.size).size ≤ 1048576 := by have := (cut_size a0 k hk).2; omega
  rw [hel0, her0] at HE
  simp only [Bool.and_true, Bool.and_false, Bool.and_self, Bool.true_and, Bool.false_and, Bool.not_true, Bool.not_false] at HE c1
  have HL : Hid ((a0.extract 0 k).toList.isEmpty = false ∧ allCode (a0.extract 0 k).data.toList = false) := ⟨hel0, hal0⟩
  have HR : Hid ((a0.extract k a0.size).toList.isEmpty = false ∧ allCode (a0.extract k a0.size).data.toList = true) := ⟨her0, har0⟩
  clear hel0 hal0 her0 har0
  cases hdm : decide ((a0.size : Int) ≤ a1)
  all_goals
    try rw [hdm] at c1
    go_enter Try.func3, Try.ntmps3
    go_wp2_with fail
    refine hcon.mono ?_
    rintro e w' ⟨rfl, rfl⟩
    clear hcon
    go_wp2_with fail
    generalize a0.extract 0 k = l at HL hl ⊢
    generalize a0.extract k a0.size = r at HR hr ⊢
    have c2 := validCode_any l l.size w' hl
    have c3 := validCode_any r r.size w' hr
    have c4 := allIn_any l w' hl
    have c5 := allIn_any r w' hr
    obtain ⟨hel, hal⟩ := HL.out
    obtain ⟨her, har⟩ := HR.out
    rw [vc_self, hel, hal] at c2
    rw [vc_self, her, har] at c3
    rw [hal] at c4
    rw [har] at c5
    clear hal har HL HR hl hr hk
    refine c1.mono ?_
    rintro e w' ⟨rfl, rfl⟩
    clear c1
    go_wp2_with fail
    refine c2.mono ?_
    rintro e w' ⟨rfl, rfl⟩
    clear c2
    go_wp2_with fail
    refine c4.mono ?_
    rintro e w' ⟨rfl, rfl⟩
    clear c4
    go_wp2_with fail
    refine c3.mono ?_
    rintro e w' ⟨rfl, rfl⟩
    clear c3
    go_wp2_with fail
    refine c5.mono ?_
    rintro e w' ⟨rfl, rfl⟩
    clear c5
    go_wp2_with fail
    go_ret
    exact ⟨by first | rfl | simp, rfl⟩

set_option maxHeartbeats 2000000 in
theorem case8 (a0 : ByteArray) (a1 : Int) (k : Nat) (w : World) (hs : a0.size ≤ 1048576) (hk : k ≤ a0.size) (hel0 : (a0.extract 0 k).toList.isEmpty = false) (hal0 : allCode (a0.extract 0 k).data.toList = false) (her0 : (a0.extract k a0.size).toList.isEmpty = false) (har0 : allCode (a0.extract k a0.size).data.toList = false) :
    Calls Try.prog 3 #[.string a0, .int .i64 a1, .int .i64 k] w fun e w' => e = .returned (.bool true) ∧ w' = w := by
  have hcon := zzBytes_any a0 a1 k w (by unfold maxLen; omega)
  rw [decide_eq_true (by omega)] at hcon
  have hle : decide ((1048576 : Int) < (a0.size : Int)) = false := decide_eq_false (by omega)
  have hk1 : ¬ (k : Int) < 0 := by omega
  have hk2 : ¬ (a0.size : Int) < (k : Int) := by omega
  have c1 := validCode_any a0 a1 w hs
  have HE := cut_empty a0 k hk
  rw [vc_at a0 a1, HE, cut_all a0 k hk, hel0, hal0, her0, har0] at c1
  have hl : (a0.extract 0 k).size ≤ 1048576 := by have := (cut_size a0 k hk).1; omega
  have hr : (a0.extract k a0.size).size ≤ 1048576 := by have := (cut_size a0 k hk).2; omega
  rw [hel0, her0] at HE
  simp only [Bool.and_true, Bool.and_false, Bool.and_self, Bool.true_and, Bool.false_and, Bool.not_true, Bool.not_false] at HE c1
  have HL : Hid ((a0.extract 0 k).toList.isEmpty = false ∧ allCode (a0.extract 0 k).data.toList = false) := ⟨hel0, hal0⟩
  have HR : Hid ((a0.extract k a0.size).toList.isEmpty = false ∧ allCode (a0.extract k a0.size).data.toList = false) := ⟨her0, har0⟩
  clear hel0 hal0 her0 har0
  cases hdm : decide ((a0.size : Int) ≤ a1)
  all_goals
    try rw [hdm] at c1
    go_enter Try.func3, Try.ntmps3
    go_wp2_with fail
    refine hcon.mono ?_
    rintro e w' ⟨rfl, rfl⟩
    clear hcon
    go_wp2_with fail
    generalize a0.extract 0 k = l at HL hl ⊢
    generalize a0.extract k a0.size = r at HR hr ⊢
    have c2 := validCode_any l l.size w' hl
    have c3 := validCode_any r r.size w' hr
    have c4 := allIn_any l w' hl
    have c5 := allIn_any r w' hr
    obtain ⟨hel, hal⟩ := HL.out
    obtain ⟨her, har⟩ := HR.out
    rw [vc_self, hel, hal] at c2
    rw [vc_self, her, har] at c3
    rw [hal] at c4
    rw [har] at c5
    clear hal har HL HR hl hr hk
    refine c1.mono ?_
    rintro e w' ⟨rfl, rfl⟩
    clear c1
    go_wp2_with fail
    refine c2.mono ?_
    rintro e w' ⟨rfl, rfl⟩
    clear c2
    go_wp2_with fail
    refine c4.mono ?_
    rintro e w' ⟨rfl, rfl⟩
    clear c4
    go_wp2_with fail
    refine c3.mono ?_
    rintro e w' ⟨rfl, rfl⟩
    clear c3
    go_wp2_with fail
    refine c5.mono ?_
    rintro e w' ⟨rfl, rfl⟩
    clear c5
    go_wp2_with fail
    go_ret
    exact ⟨by first | rfl | simp, rfl⟩

end Go.Proofs.Qxb6614599a.fnValidCodeCutAtAnyPlace
