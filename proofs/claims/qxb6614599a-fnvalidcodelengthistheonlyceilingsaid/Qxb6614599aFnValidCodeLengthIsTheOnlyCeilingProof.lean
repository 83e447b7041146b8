/-
  'Rows.FnValidCodeLengthIsTheOnlyCeilingSaid' PROVED. The frame was written by program (proof-skeleton.mjs); the walk and its contracts by hand; the post limb by limb over 'Below'.
-/
import Derived.Test.Qxb6614599aDecimal
import Derived.WalkKit
import Derived.ProofKit
import Derived.OpenShut
import Derived.ShutString
namespace Go.Proofs.Qxb6614599a.fnValidCodeLengthIsTheOnlyCeiling
open Go.ChangeShapes Go.WideShapes Go.ChangeAt Go.RowKit
open Go.ChangeMaps (open_string shut_string)
set_option linter.unusedVariables false      -- a walk need not use every 'w<i>' (that an integer argument fits its kind)

theorem own : ownKnob Try.prog.godebug = none := by kernel_rfl

/-! ### THE WALK -/
theorem zzBytes_any (s : ByteArray) (a : Int) (w : World) (hs : s.size ≤ maxLen) :
    Calls Try.prog 8 #[.string s, .int .i64 a] w fun e w' => e = .returned (.bool (decide ((s.size : Int) ≤ 1048576))) ∧ w' = w := by
  unfold maxLen at hs
  by_cases h : (s.size : Int) ≤ 1048576
  · have h' : ¬ (1048576 : Int) < (s.size : Int) := by omega
    rw [decide_eq_true h]
    go_enter Try.func8, Try.ntmps8
    go_wp2
    go_ret
    exact ⟨rfl, rfl⟩
  · have h' : (1048576 : Int) < (s.size : Int) := by omega
    rw [decide_eq_false h]
    go_enter Try.func8, Try.ntmps8
    go_wp2
    go_ret
    exact ⟨rfl, rfl⟩

/-- Under its own length a text is a code if it is not empty and each byte may stand in one; under m also if m is at least its length. -/
theorem vc_own (s : ByteArray) (m : Int) : vc s m = (vc s s.size && decide ((s.size : Int) ≤ m)) := by
  unfold vc
  cases s.toList.isEmpty <;> cases allCode s.data.toList <;> simp
theorem vc_digits {t : ByteArray} (h : Digits t) (m : Int) : vc t m = decide ((t.size : Int) ≤ m) := by
  unfold vc
  have h1 : t.toList.isEmpty = false := by
    rw [Lib.toList_data]
    cases hd : t.data.toList with
    | nil =>
      have h2 := h.1
      have e : t.size = t.data.toList.length := by rw [Array.length_toList]; rfl
      rw [hd] at e
      simp only [List.length_nil] at e
      omega
    | cons a l => rfl
  rw [h1, h.2.2]
  simp
theorem empty_no {s : ByteArray} (h : s.toList.isEmpty = true) (m : Int) : vc s m = false := by unfold vc; rw [h]; rfl

set_option maxHeartbeats 2000000 in
theorem walk (a0 : ByteArray) (a1 : Int) (w0 : a0.size ≤ maxLen) (w1 : (Lit.int .i64 a1).wf = true) (w : World) :
    Calls Try.prog 4 #[.string a0, .int .i64 a1] w fun e w' => e = .returned (.bool true) ∧ Below w.heap.size w w' := by
  have hcon := zzBytes_any a0 a1 w w0
  by_cases hbig : (a0.size : Int) ≤ 1048576
  · rw [decide_eq_true hbig] at hcon
    have c1 := validCode_any a0 a0.size w (by omega)
    have c2 := validCode_any a0 a1 w (by omega)
    rw [vc_own a0 a1] at c2
    have c3 := decimal_any a0.size w hbig
    have HE : Hid (a0.toList.isEmpty = true → vc a0 a0.size = false) := fun h => empty_no h _
    have hle : decide ((1048576 : Int) < (a0.size : Int)) = false := decide_eq_false (by omega)
    generalize vc a0 a0.size = x at *
    have key : ∀ y z : Bool, (y = true → x = false) → decide ((a0.size : Int) ≤ a1) = z → a0.toList.isEmpty = y → Calls Try.prog 4 #[.string a0, .int .i64 a1] w fun e w' => e = .returned (.bool true) ∧ Below w.heap.size w w' := by
      intro y z hy hz hy2
      rw [hz] at c2
      have HY : Hid _ := hy
      clear hy HE hbig
      cases x <;> cases y <;> cases z
      case true.true.true => exact absurd (HY.out rfl) (by simp)
      case true.true.false => exact absurd (HY.out rfl) (by simp)
      all_goals
        simp only [Bool.and_true, Bool.and_false, Bool.and_self] at c2
        go_enter Try.func4, Try.ntmps4
        go_wp2_with fail
        refine hcon.mono ?_
        rintro e w' ⟨rfl, rfl⟩
        go_wp2_with fail
        refine c1.mono ?_
        rintro e w' ⟨rfl, rfl⟩
        go_wp2_with fail
        refine c2.mono ?_
        rintro e w' ⟨rfl, rfl⟩
        clear c1 c2 hcon
        go_wp2_with fail
        refine c3.mono ?_
        rintro e w2 ⟨⟨t, rfl, hd⟩, hb⟩
        have c4 := validCode_any t a1 w2 (by have := hd.2.1; omega)
        rw [vc_digits hd] at c4
        clear c3 hd
        go_wp2_with fail
        refine c4.mono ?_
        rintro e w3 ⟨rfl, rfl⟩
        go_wp2_with fail
        go_ret
        exact ⟨by simp, hb⟩
    exact key _ _ HE.out rfl rfl
  · rw [decide_eq_false hbig] at hcon
    go_enter Try.func4, Try.ntmps4
    go_wp2_with fail
    refine hcon.mono ?_
    rintro e w' ⟨rfl, rfl⟩
    go_wp2_with fail
    go_ret
    exact ⟨rfl, Below.refl _ _⟩

/-! ### THE ROW's STEP: WRITTEN OUT: LEAVE IT -/
set_option maxRecDepth 100000 in
theorem lifted (os : Os) (started : os.Started) (H : Type) (enc : TypeId × Value → H) :
    ReturnsInHanded {} Try.checked os 4 .any (Rows.fnValidCodeLengthIsTheOnlyCeilingSpec.pre6 enc Try.prog Try.f4 Rows.fnValidCodeLengthIsTheOnlyCeilingRow.domain false) (Rows.fnValidCodeLengthIsTheOnlyCeilingSpec.post enc Try.prog Try.f4 false true false false) := by
  refine returnsInHanded_of_change (C := Try.checked) own started (by kernel_rfl) Try.func4
    (ChangeSpec.witness6 (enc := enc) (C := Try.checked) false ⟨#[], #[.string ByteArray.empty, .int .i64 0], []⟩ 8 (by kernel_rfl) (by kernel_rfl) (by kernel_rfl) (by kernel_rfl)) ?_
  intro W base args ds gs before hval0 hW hcnd _
  have hval : ∀ (j : Nat) t v, Try.f4.params[j]? = some t → args[j]? = some v → Value.okWide Try.prog W .any base t v := hval0
  have hW' := hW
  obtain ⟨p, q, hA0, hV, rfl, hfz, hnd⟩ := hW
  have hA : DataW.TrodAll enc Try.prog W 0 (fun _ => true) true Try.f4.params.toList args.toList ds p := hA0
  rw [Try.params4] at hA hval
  obtain ⟨v0, vs0, d0, ds0, p0, q0, hargs, rfl, rfl, h0, r0⟩ := trodAll_cons hA
  obtain ⟨v1, vs1, d1, ds1, p1, q1, rfl, rfl, rfl, h1, r1⟩ := trodAll_cons r0
  obtain ⟨rfl, rfl, rfl⟩ := trodAll_nil r1
  obtain rfl : args = #[v0, v1] := by cases args; simp_all
  obtain ⟨rfl, rfl⟩ := trodVars_none hV
  obtain ⟨a0, rfl, rfl, rfl, w0⟩ := open_string Try.underlying9 (hval 0 9 v0 rfl rfl) h0
  obtain ⟨a1, rfl, rfl, rfl, w1⟩ := open_int Try.underlying3 (hval 1 3 v1 rfl rfl) h1
  clear hA0 hval0
  simp only [List.append_nil] at hW'
  refine (walk a0 a1 w0 w1 W).mono fun e W' ⟨he, bel⟩ => ?_
  subst he
  exact ⟨_, rfl, _, _, _, [], _, [], hW', trodAll_mk1 (shut_bool Try.underlying4 _), (trodAll_cons_mk (shut_string Try.underlying9 w0) (trodAll_cons_mk (shut_int Try.underlying3 w1) trodAll_mk0)), rfl, bel.frame _, fun h => by cases h⟩

theorem over : Rows.fnValidCodeLengthIsTheOnlyCeilingRow.holds Try.pinned (OpenSpec.ofChange Rows.fnValidCodeLengthIsTheOnlyCeilingSpec) :=
  OpenClaim.holds_of_wide 4 Try.f4 rfl rfl rfl rfl rfl rfl rfl ⟨rfl, rfl, rfl, rfl, rfl⟩ rfl rfl rfl rfl rfl (by kernel_rfl) Try.func4 (by kernel_rfl)
    (of_decide_eq_true (by kernel_rfl)) (by unfold Func.isWrapper; first | (rw [if_pos (by decide +kernel)]; kernel_rfl) | (rw [if_neg (by decide +kernel)]; exact ⟨rfl, rfl⟩))
    (fun os started H enc _ => lifted os started H enc)

/-- ████ THE STATEMENT ████ -/
theorem proved : Rows.FnValidCodeLengthIsTheOnlyCeilingSaid :=
  over
end Go.Proofs.Qxb6614599a.fnValidCodeLengthIsTheOnlyCeiling
