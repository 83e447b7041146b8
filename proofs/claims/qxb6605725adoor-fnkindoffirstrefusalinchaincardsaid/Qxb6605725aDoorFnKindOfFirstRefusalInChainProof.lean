/-
  'Rows.FnKindOfFirstRefusalInChainSaid' PROVED, AND ITS TIED CARD 'Rows.FnKindOfFirstRefusalInChainCardSaid'.
-/
import Derived.Test.Qxb6605725aDoorLaw4
import Derived.Test.Qxb6605725aDoorTie
import Derived.Test.Qxb6605725aDoorCards
import Derived.ProofKit
import Derived.OpenShut
import Derived.ShutString
import Derived.LaidMore
import Derived.LaidHandle
import Derived.LaidLaws
import Derived.Stop.Joined
import Derived.SevenTiedAt
namespace Go.Proofs.Qxb6605725aDoor.fnKindOfFirstRefusalInChain
open Go.ChangeShapes Go.WideShapes Go.ChangeAt Go.RowKit
open Go.ChangeMaps (open_string shut_string)

theorem own : ownKnob Tryd.prog.godebug = none := by kernel_rfl
/-- What the row lists, and the listed variable's name. -/
def ld : List (String × DataW Unit) := Rows.fnKindOfFirstRefusalInChainRow.laid
theorem et : Tryd.prog.globalNamed "errors.errorType" = some 0 := by kernel_rfl
/-- rtype's own name, as the row gives it. -/
def tn : String := match ld with | [(_, .iface s _)] => s | _ => ""
theorem rt : (Tryd.prog.cutTypes.find? (·.1 == tn)).map (·.2) = some 61 := by kernel_rfl
theorem size : Tryd.prog.types.size = 103 := by kernel_rfl
theorem oneRow : ((List.range 103).filter fun t => Tryd.prog.rowNamed t [101, 114, 114, 111, 114]) = [35] := by kernel_rfl

/-- WHAT THE CONDITION GIVES A WALK: the variable's one cell. -/
theorem handle_of_laid {W : World} (h : laidMetH Tryd.prog ld W) : Var0 W := by
  have h' : laidMet Tryd.prog [] W ∧ handlesMet Tryd.prog ld W := h
  obtain ⟨name, u, ty, e1, e2, e3, e4, e5⟩ := h'.2 _ (List.mem_singleton.2 rfl)
  have en : name = [101, 114, 114, 111, 114] := (Option.some.inj e1).symm
  subst en
  obtain rfl := Option.some.inj (rt.symm.trans e2)
  have hm : ty ∈ (List.range 103).filter fun t => Tryd.prog.rowNamed t [101, 114, 114, 111, 114] := List.mem_filter.2 ⟨List.mem_range.2 (by rw [← size]; exact e3), e4⟩
  rw [oneRow] at hm
  obtain rfl := List.mem_singleton.1 hm
  rw [handle35] at e5
  unfold Var0
  simpa using World.var?_cell et e5 0

/-- The door's own heap meets the condition. -/
theorem door_met (os : Os) (args : Array Value) : laidMetH Tryd.prog ld ((World.doorLaid Tryd.prog 400 os).forCall (fun _ _ => 0) ⟨#[], args, []⟩).memory :=
  laidMetH_of_parts (laidMet_nil _ _) (by kernel_rfl)

set_option maxRecDepth 100000 in
theorem lifted (os : Os) (started : os.Started) (H : Type) (enc : TypeId × Value → H) :
    ReturnsInHanded {} Tryd.checked os 4 .any (fun w args => (Rows.fnKindOfFirstRefusalInChainSpec.pre enc Tryd.prog Tryd.f4 [] false w args ∧ laidMetH Tryd.prog ld w) ∧ sizedMet enc Tryd.prog Tryd.f4 (OpenSpec.ofChange Rows.fnKindOfFirstRefusalInChainSpec) false w args)
      (Rows.fnKindOfFirstRefusalInChainSpec.post enc Tryd.prog Tryd.f4 false true false false) := by
  refine returnsInHanded_of_change_and (C := Tryd.checked) (X := fun w _ => laidMetH Tryd.prog ld w) (fun _ _ _ hh h => h.of_heap hh) own started (by kernel_rfl) Tryd.func4
    (ChangeSpec.witness_shaped (enc := enc) (C := Tryd.checked) (os := os) (X := fun w _ => laidMetH Tryd.prog ld w) false (World.doorLaid Tryd.prog 400 os) #[.string ByteArray.empty, .int .i64 0, .string ByteArray.empty, .int .i64 0, .string ByteArray.empty] 8 rfl (World.shaped_of_RefB (by kernel_rfl) (by kernel_rfl)) (by kernel_rfl) (by kernel_rfl) (by kernel_rfl) (door_met os _)) ?_
  intro W base args ds gs before hval0 hW _ _ hL _
  have hval : ∀ (j : Nat) t v, Tryd.f4.params[j]? = some t → args[j]? = some v → Value.okWide Tryd.prog W .any base t v := hval0
  have hW' := hW
  obtain ⟨p, q, hA0, hV, rfl, hfz, hnd⟩ := hW
  have hA : DataW.TrodAll enc Tryd.prog W 0 (fun _ => true) true Tryd.f4.params.toList args.toList ds p := hA0
  rw [Tryd.params4] at hA hval
  obtain ⟨v0, vs0, d0, ds0, p0, q0, hargs, rfl, rfl, h0, r0⟩ := trodAll_cons hA
  obtain ⟨v1, vs1, d1, ds1, p1, q1, rfl, rfl, rfl, h1, r1⟩ := trodAll_cons r0
  obtain ⟨v2, vs2, d2, ds2, p2, q2, rfl, rfl, rfl, h2, r2⟩ := trodAll_cons r1
  obtain ⟨v3, vs3, d3, ds3, p3, q3, rfl, rfl, rfl, h3, r3⟩ := trodAll_cons r2
  obtain ⟨v4, vs4, d4, ds4, p4, q4, rfl, rfl, rfl, h4, r4⟩ := trodAll_cons r3
  obtain ⟨rfl, rfl, rfl⟩ := trodAll_nil r4
  obtain rfl : args = #[v0, v1, v2, v3, v4] := by cases args; simp_all
  obtain ⟨rfl, rfl⟩ := trodVars_none hV
  obtain ⟨a0, rfl, rfl, rfl, w0⟩ := open_string Tryd.underlying9 (hval 0 9 v0 rfl rfl) h0
  obtain ⟨a1, rfl, rfl, rfl, w1⟩ := open_int Tryd.underlying3 (hval 1 3 v1 rfl rfl) h1
  obtain ⟨a2, rfl, rfl, rfl, w2⟩ := open_string Tryd.underlying9 (hval 2 9 v2 rfl rfl) h2
  obtain ⟨a3, rfl, rfl, rfl, w3⟩ := open_int Tryd.underlying3 (hval 3 3 v3 rfl rfl) h3
  obtain ⟨a4, rfl, rfl, rfl, w4⟩ := open_string Tryd.underlying9 (hval 4 9 v4 rfl rfl) h4
  have hg := handle_of_laid hL
  clear hA0 hval0
  simp only [List.append_nil] at hW'
  refine (law4 a0 a1 a2 a3 a4 W w0 w2 w4 hg).mono fun e W' ⟨he, bel⟩ => ?_
  subst he
  exact ⟨_, rfl, _, _, _, [], _, [], hW', trodAll_mk1 (shut_bool Tryd.underlying4 _), (trodAll_cons_mk (shut_string Tryd.underlying9 w0) (trodAll_cons_mk (shut_int Tryd.underlying3 w1) (trodAll_cons_mk (shut_string Tryd.underlying9 w2) (trodAll_cons_mk (shut_int Tryd.underlying3 w3) (trodAll_cons_mk (shut_string Tryd.underlying9 w4) trodAll_mk0))))), rfl, bel.frame _, fun h => by cases h⟩

theorem holds : Rows.FnKindOfFirstRefusalInChainSaid :=
  OpenClaim.holds_of_wide 4 Tryd.f4 rfl rfl rfl rfl rfl rfl rfl ⟨rfl, rfl, rfl, rfl, rfl⟩ rfl rfl rfl rfl rfl (by kernel_rfl) Tryd.func4 (by kernel_rfl)
    (of_decide_eq_true (by kernel_rfl)) (by unfold Func.isWrapper; first | (rw [if_pos (by decide +kernel)]; kernel_rfl) | (rw [if_neg (by decide +kernel)]; exact ⟨rfl, rfl⟩))
    (fun os started H enc _ => lifted os started H enc)

/-- ████ THE STATEMENT: THE TIED CARD ████ -/
theorem proved : Rows.FnKindOfFirstRefusalInChainCardSaid :=
  Claim7.holds_tied_plain_at .later [] [.handle] true Rows.fnKindOfFirstRefusalInChainCard.stood.harness true
    holds (fun _ h => by cases h) (by kernel_rfl) (fun _ h => by cases h) fnKindOfFirstRefusalInChain_row_tie rfl ⟨rfl, rfl⟩ (by kernel_rfl) rfl
    (fun f fn hf hfn => by
      obtain rfl : f = 4 := Option.some.inj ((show Tryd.prog.funcNamed Rows.fnKindOfFirstRefusalInChainRow.func = some 4 by kernel_rfl).symm.trans hf) |>.symm
      obtain rfl : fn = Tryd.f4 := (Option.some.inj (Tryd.func4.symm.trans hfn)).symm
      exact ⟨by kernel_rfl, fun j t ht => by
        rw [Tryd.params4] at ht
        have hm : t ∈ [9, 3, 9, 3, 9] := by simpa using Array.mem_of_getElem? ht
        have hall : ([9, 3, 9, 3, 9].all fun u => !Tryd.prog.wantsStandIn u) = true := by kernel_rfl
        exact (show Tryd.prog.wantsStandIn t = false by simpa using List.all_eq_true.1 hall t hm)⟩)
    (by kernel_rfl)
end Go.Proofs.Qxb6605725aDoor.fnKindOfFirstRefusalInChain
