/-
  'Rows.FnKindOfCaseTableSaid' PROVED, AND ITS TIED CARD 'Rows.FnKindOfCaseTableCardSaid'.
-/
import Derived.Test.Qxb6605725aDoorKind
import Derived.Test.Qxb6605725aDoorTie
import Derived.Test.Qxb6605725aDoorCards
import Derived.ProofKit
import Derived.OpenShut
import Derived.ShutString
import Derived.LaidMore
import Derived.LaidHandle
import Derived.LaidLaws
import Derived.Stop.Joined
import Derived.SevenTiedAt
namespace Go.Proofs.Qxb6605725aDoor.fnKindOfCaseTable
open Go.ChangeShapes Go.WideShapes Go.ChangeAt Go.RowKit
open Go.ChangeMaps (open_string shut_string)

theorem own : ownKnob Tryd.prog.godebug = none := by kernel_rfl
/-- What the row lists, and the listed variable's name. -/
def ld : List (String × DataW Unit) := Rows.fnKindOfCaseTableRow.laid
theorem et : Tryd.prog.globalNamed "errors.errorType" = some 0 := by kernel_rfl
/-- rtype's own name, as the row gives it. -/
def tn : String := match ld with | [(_, .iface s _)] => s | _ => ""
theorem rt : (Tryd.prog.cutTypes.find? (·.1 == tn)).map (·.2) = some 61 := by kernel_rfl
theorem size : Tryd.prog.types.size = 103 := by kernel_rfl
theorem oneRow : ((List.range 103).filter fun t => Tryd.prog.rowNamed t [101, 114, 114, 111, 114]) = [35] := by kernel_rfl

/-- WHAT THE CONDITION GIVES A WALK: the variable's one cell. -/
theorem handle_of_laid {W : World} (h : laidMetH Tryd.prog ld W) : Var0 W := by
  have h' : laidMet Tryd.prog [] W ∧ handlesMet Tryd.prog ld W := h
  obtain ⟨name, u, ty, e1, e2, e3, e4, e5⟩ := h'.2 _ (List.mem_singleton.2 rfl)
  have en : name = [101, 114, 114, 111, 114] := (Option.some.inj e1).symm
  subst en
  obtain rfl := Option.some.inj (rt.symm.trans e2)
  have hm : ty ∈ (List.range 103).filter fun t => Tryd.prog.rowNamed t [101, 114, 114, 111, 114] := List.mem_filter.2 ⟨List.mem_range.2 (by rw [← size]; exact e3), e4⟩
  rw [oneRow] at hm
  obtain rfl := List.mem_singleton.1 hm
  rw [handle35] at e5
  unfold Var0
  simpa using World.var?_cell et e5 0

/-- The door's own heap meets the condition. -/
theorem door_met (os : Os) (args : Array Value) : laidMetH Tryd.prog ld ((World.doorLaid Tryd.prog 400 os).forCall (fun _ _ => 0) ⟨#[], args, []⟩).memory :=
  laidMetH_of_parts (laidMet_nil _ _) (by kernel_rfl)

/-! ### THE WALK -/
theorem zzBytes_any (s : ByteArray) (a : Int) (w : World) (hs : s.size ≤ maxLen) :
    Calls Tryd.prog 5 #[.int .i64 a, .string s] w fun e w' => e = .returned (.bool (decide ((s.size : Int) ≤ 1048576))) ∧ w' = w := by
  unfold maxLen at hs
  by_cases h : (s.size : Int) ≤ 1048576
  · have h' : ¬ (1048576 : Int) < (s.size : Int) := by omega
    rw [decide_eq_true h]
    go_enter Tryd.func5, Tryd.ntmps5
    go_wp2
    go_ret
    exact ⟨rfl, rfl⟩
  · have h' : (1048576 : Int) < (s.size : Int) := by omega
    rw [decide_eq_false h]
    go_enter Tryd.func5, Tryd.ntmps5
    go_wp2
    go_ret
    exact ⟨rfl, rfl⟩

set_option maxHeartbeats 2000000 in
theorem walk (a0 : Int) (a1 : ByteArray) (w1 : a1.size ≤ maxLen) (w : World) (hg : Var0 w) :
    Calls Tryd.prog 3 #[.int .i64 a0, .string a1] w fun e w' => e = .returned (.bool true) ∧ Below w.heap.size w w' := by
  have hcon := zzBytes_any a1 a0 w w1
  by_cases hbig : (a1.size : Int) ≤ 1048576
  · rw [decide_eq_true hbig] at hcon
    by_cases hmid : (65536 : Int) < (a1.size : Int)
    · go_enter Tryd.func3, Tryd.ntmps3
      go_wp2_with fail
      refine hcon.mono ?_
      rintro e w' ⟨rfl, rfl⟩
      go_wp2_with fail
      go_ret
      exact ⟨rfl, Below.refl _ _⟩
    · have c1 := refusal_any a0 a1 w hg
      have hpos := hg.pos
      go_enter Tryd.func3, Tryd.ntmps3
      go_wp2_with fail
      refine hcon.mono ?_
      rintro e w' ⟨rfl, rfl⟩
      clear hcon
      go_wp2_with fail
      refine c1.mono ?_
      rintro e X1 ⟨rfl, hb1⟩
      have c2 := plain_any a1 X1 (hg.below hb1 hpos)
      have z1 := hb1.size
      clear c1
      go_wp2_with fail
      refine c2.mono ?_
      rintro e X2 ⟨rfl, hb2⟩
      have c3 := nil_any X2
      have z2 := hb2.size
      clear c2
      go_wp2_with fail
      refine c3.mono ?_
      rintro e X3 ⟨rfl, hb3⟩
      have hb : Below w'.heap.size w' X3 := (hb1.trans (hb2.mono z1)).trans (hb3.mono (by omega))
      clear c3 hb1 hb2 hb3
      go_wp2_with fail
      go_ret
      exact ⟨rfl, hb⟩
  · rw [decide_eq_false hbig] at hcon
    go_enter Tryd.func3, Tryd.ntmps3
    go_wp2_with fail
    refine hcon.mono ?_
    rintro e w' ⟨rfl, rfl⟩
    go_wp2_with fail
    go_ret
    exact ⟨rfl, Below.refl _ _⟩

set_option maxRecDepth 100000 in
theorem lifted (os : Os) (started : os.Started) (H : Type) (enc : TypeId × Value → H) :
    ReturnsInHanded {} Tryd.checked os 3 .any (fun w args => (Rows.fnKindOfCaseTableSpec.pre enc Tryd.prog Tryd.f3 [] false w args ∧ laidMetH Tryd.prog ld w) ∧ sizedMet enc Tryd.prog Tryd.f3 (OpenSpec.ofChange Rows.fnKindOfCaseTableSpec) false w args)
      (Rows.fnKindOfCaseTableSpec.post enc Tryd.prog Tryd.f3 false true false false) := by
  refine returnsInHanded_of_change_and (C := Tryd.checked) (X := fun w _ => laidMetH Tryd.prog ld w) (fun _ _ _ hh h => h.of_heap hh) own started (by kernel_rfl) Tryd.func3
    (ChangeSpec.witness_shaped (enc := enc) (C := Tryd.checked) (os := os) (X := fun w _ => laidMetH Tryd.prog ld w) false (World.doorLaid Tryd.prog 400 os) #[.int .i64 0, .string ByteArray.empty] 8 rfl (World.shaped_of_RefB (by kernel_rfl) (by kernel_rfl)) (by kernel_rfl) (by kernel_rfl) (by kernel_rfl) (door_met os _)) ?_
  intro W base args ds gs before hval0 hW _ _ hL _
  have hval : ∀ (j : Nat) t v, Tryd.f3.params[j]? = some t → args[j]? = some v → Value.okWide Tryd.prog W .any base t v := hval0
  have hW' := hW
  obtain ⟨p, q, hA0, hV, rfl, hfz, hnd⟩ := hW
  have hA : DataW.TrodAll enc Tryd.prog W 0 (fun _ => true) true Tryd.f3.params.toList args.toList ds p := hA0
  rw [Tryd.params3] at hA hval
  obtain ⟨v0, vs0, d0, ds0, p0, q0, hargs, rfl, rfl, h0, r0⟩ := trodAll_cons hA
  obtain ⟨v1, vs1, d1, ds1, p1, q1, rfl, rfl, rfl, h1, r1⟩ := trodAll_cons r0
  obtain ⟨rfl, rfl, rfl⟩ := trodAll_nil r1
  obtain rfl : args = #[v0, v1] := by cases args; simp_all
  obtain ⟨rfl, rfl⟩ := trodVars_none hV
  obtain ⟨a0, rfl, rfl, rfl, w0⟩ := open_int Tryd.underlying3 (hval 0 3 v0 rfl rfl) h0
  obtain ⟨a1, rfl, rfl, rfl, w1⟩ := open_string Tryd.underlying9 (hval 1 9 v1 rfl rfl) h1
  have hg := handle_of_laid hL
  clear hA0 hval0
  simp only [List.append_nil] at hW'
  refine (walk a0 a1 w1 W hg).mono fun e W' ⟨he, bel⟩ => ?_
  subst he
  exact ⟨_, rfl, _, _, _, [], _, [], hW', trodAll_mk1 (shut_bool Tryd.underlying4 _), (trodAll_cons_mk (shut_int Tryd.underlying3 w0) (trodAll_cons_mk (shut_string Tryd.underlying9 w1) trodAll_mk0)), rfl, bel.frame _, fun h => by cases h⟩

theorem holds : Rows.FnKindOfCaseTableSaid :=
  OpenClaim.holds_of_wide 3 Tryd.f3 rfl rfl rfl rfl rfl rfl rfl ⟨rfl, rfl, rfl, rfl, rfl⟩ rfl rfl rfl rfl rfl (by kernel_rfl) Tryd.func3 (by kernel_rfl)
    (of_decide_eq_true (by kernel_rfl)) (by unfold Func.isWrapper; first | (rw [if_pos (by decide +kernel)]; kernel_rfl) | (rw [if_neg (by decide +kernel)]; exact ⟨rfl, rfl⟩))
    (fun os started H enc _ => lifted os started H enc)

/-- ████ THE STATEMENT: THE TIED CARD ████ -/
theorem proved : Rows.FnKindOfCaseTableCardSaid :=
  Claim7.holds_tied_plain_at .later [] [.handle] true Rows.fnKindOfCaseTableCard.stood.harness true
    holds (fun _ h => by cases h) (by kernel_rfl) (fun _ h => by cases h) fnKindOfCaseTable_row_tie rfl ⟨rfl, rfl⟩ (by kernel_rfl) rfl
    (fun f fn hf hfn => by
      obtain rfl : f = 3 := Option.some.inj ((show Tryd.prog.funcNamed Rows.fnKindOfCaseTableRow.func = some 3 by kernel_rfl).symm.trans hf) |>.symm
      obtain rfl : fn = Tryd.f3 := (Option.some.inj (Tryd.func3.symm.trans hfn)).symm
      exact ⟨by kernel_rfl, fun j t ht => by
        rw [Tryd.params3] at ht
        have hm : t ∈ [3, 9] := by simpa using Array.mem_of_getElem? ht
        have hall : ([3, 9].all fun u => !Tryd.prog.wantsStandIn u) = true := by kernel_rfl
        exact (show Tryd.prog.wantsStandIn t = false by simpa using List.all_eq_true.1 hall t hm)⟩)
    (by kernel_rfl)
end Go.Proofs.Qxb6605725aDoor.fnKindOfCaseTable
