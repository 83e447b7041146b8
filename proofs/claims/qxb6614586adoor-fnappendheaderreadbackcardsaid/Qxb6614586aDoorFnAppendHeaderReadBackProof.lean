/-
  'Rows.FnAppendHeaderReadBackSaid' PROVED, AND ITS TIED CARD 'Rows.FnAppendHeaderReadBackCardSaid'.
-/
import Derived.Test.Qxb6614586aDoorReadBack
import Derived.Test.Qxb6614586aDoorTie
import Derived.Test.Qxb6614586aDoorCards
import Derived.ProofKit
import Derived.OpenShut
import Derived.ChangeOld
import Derived.LaidMore
import Derived.LaidLaws
import Derived.RowKitTokens
import Derived.Stop.LaidErr
import Derived.Stop.Joined
import Derived.SevenTiedAt
import Derived.WalkSmall
namespace Go.Proofs.Qxb6614586aDoor.fnAppendHeaderReadBack
open Go.ChangeShapes Go.WideShapes Go.ChangeAt Go.RowKit

theorem own : ownKnob Tryd.prog.godebug = none := by kernel_rfl
theorem laidOut : laidOutB Tryd.prog = true := by kernel_rfl

/-- The listed variable's name, and what the row lists. -/
def nm : String := Rows.fnAppendHeaderReadBackSpec.vars.headD ""
def ld : List (String × DataW Unit) := Rows.fnAppendHeaderReadBackRow.laid
theorem nm_vars : Rows.fnAppendHeaderReadBackSpec.vars = [nm] := rfl
theorem gErr : Tryd.prog.globalNamed nm = some 0 := by kernel_rfl
theorem tErr : (Tryd.prog.globals[0]?).map (·.type) = some 31 := by kernel_rfl
theorem cells60 : Tryd.prog.cellsOf 60 = 1 := by kernel_rfl
theorem cells9 : Tryd.prog.cellsOf 9 = 1 := by kernel_rfl
/-- The listed error's type, by its name as the row gives it. -/
def tn : String := match ld with | [(_, .iface s _)] => s | _ => ""
theorem row39 (u : TypeId) (h : Tryd.prog.typeName? 3 u = some tn) : u = 39 :=
  typeName_ptr_named (nm := "errors.errorString") (by kernel_rfl) (by kernel_rfl) (by decide) u (h.trans (congrArg some (by kernel_rfl)))

/-- The door's own heap meets the condition. -/
theorem door_met (os : Os) (args : Array Value) : laidMetH Tryd.prog ld ((World.doorLaid Tryd.prog 400 os).forCall (fun _ _ => 0) ⟨#[], args, []⟩).memory :=
  laidMetH_of_parts3 (fuel := 8) (laidMet_of_run' 8 (by kernel_rfl) (by kernel_rfl)) (by kernel_rfl) (by kernel_rfl)

/-- WHAT THE CONDITION GIVES: the variable holds an error. -/
theorem of_laid {W : World} (h : laidMetH Tryd.prog ld W) : ∃ a, W.var? Tryd.prog nm = some #[.iface 39 (.pointer (some a))] := by
  rw [MakeChecks.laidMetH_plain _ _ _ (by kernel_rfl)] at h
  obtain ⟨a, s, hv, _⟩ := laid_sentinel (n := nm) (nm := tn) (r := []) h gErr tErr Tryd.underlying31 row39 Tryd.underlying39 Tryd.underlying60 rfl rfl Tryd.underlying9 cells60 cells9
  exact ⟨a, hv⟩

def IsRow (k : IntKind) (w : World) (a : Option Addr) (len cap : Nat) (zs : List Int) : Prop :=
  (a = none ∧ len = 0 ∧ cap = 0 ∧ zs = []) ∨
  ∃ x, a = some x ∧ len ≤ cap ∧ cap ≤ maxLen ∧ zs.length = cap ∧ (∀ i, i < zs.length → w.cell? (x.add i) = some (.int k (zs.getD i 0))) ∧ ∀ n ∈ zs, (Lit.int k n).wf = true

theorem walk (a0 : Option Addr) (len0 cap0 : Nat) (z0 : List Int) (a1 : Int) (T : TypeId) (ex : Value) (w : World) (w0 : IsRow .u8 w a0 len0 cap0 z0) (hg : w.cell? ⟨0, 0, none⟩ = some (.iface T ex)) :
    Calls Tryd.prog 3 #[.slice a0 len0 cap0, .int .u8 a1] w fun e w' => e = .returned (.bool true) ∧ Below w.heap.size w w' := by
  by_cases hbig : (1048576 : Int) < (len0 : Int)
  · have hlm : len0 ≤ maxLen := by
      rcases w0 with ⟨_, rfl, _⟩ | ⟨x, _, h1, h2, _⟩
      · exact Nat.zero_le _
      · omega
    have hcon := zzBytes_any a0 len0 cap0 a1 w hlm
    rw [decide_eq_false (by omega)] at hcon
    clear w0 hg
    go_enter Tryd.func3, Tryd.ntmps3
    go_wp2_with fail
    refine hcon.mono ?_
    rintro e w' ⟨rfl, rfl⟩
    go_wp2_with fail
    go_ret
    exact ⟨rfl, Below.refl _ _⟩
  · rcases w0 with ⟨rfl, rfl, rfl, rfl⟩ | ⟨x, rfl, h1, h2, h3, h4, h5⟩
    · refine walkA none 0 [] a1 T ex w (by simp) hg ((clone_nil w).mono ?_)
      rintro e w' ⟨rfl, rfl⟩
      exact ⟨_, rfl, Bytes.nil _ _, Below.refl _ _⟩
    · have hz : len0 ≤ z0.length := by omega
      have hlen : (z0.take len0).length = len0 := by simp; omega
      have key : Calls Tryd.prog 6 #[.slice (some x) (z0.take len0).length cap0] w fun e w' => ∃ v, e = .returned v ∧ Bytes w' w.heap.size v (z0.take len0) ∧ Below w.heap.size w w' := by
        rw [hlen]
        refine (clone_some x len0 cap0 (fun j => (z0.take len0).getD j 0) w (by omega) (fun h0 => ?_)).mono ?_
        · obtain ⟨b, off, spot⟩ := x
          have hspot : spot = none := by simpa [Addr.add] using World.cell?_spot (h4 0 (by omega))
          subst hspot
          have hb : b < w.heap.size := by have := World.block_lt_of_cell? _ _ (h4 0 (by omega)); simpa [Addr.add] using this
          refine ⟨b, off, rfl, hb, fun j hj => ?_⟩
          have := h4 j (by omega)
          rw [add_plain] at this
          rw [this]
          simp [List.getD_eq_getElem?_getD, hj]
        · rintro e w' ⟨v, rfl, _, k1, k2⟩
          have e1 : (List.range len0).map (fun j => (z0.take len0).getD j 0) = z0.take len0 := by
            have := range_getD (z0.take len0)
            rwa [hlen] at this
          rw [e1] at k1
          exact ⟨v, rfl, k1, k2⟩
      have := walkA (some x) cap0 (z0.take len0) a1 T ex w (by rw [hlen]; omega) hg key
      rwa [hlen] at this

set_option maxRecDepth 100000 in
theorem lifted (os : Os) (started : os.Started) (H : Type) (enc : TypeId × Value → H) :
    ReturnsInHanded {} Tryd.checked os 3 .any (fun w args => (Rows.fnAppendHeaderReadBackSpec.pre enc Tryd.prog Tryd.f3 [] false w args ∧ laidMetH Tryd.prog ld w) ∧ sizedMet enc Tryd.prog Tryd.f3 (OpenSpec.ofChange Rows.fnAppendHeaderReadBackSpec) false w args)
      (Rows.fnAppendHeaderReadBackSpec.post enc Tryd.prog Tryd.f3 false true false false) := by
  refine returnsInHanded_of_change_and (C := Tryd.checked) (X := fun w _ => laidMetH Tryd.prog ld w) (fun _ _ _ hh h => h.of_heap hh) own started (by kernel_rfl) Tryd.func3
    (ChangeSpec.witness_shaped (enc := enc) (C := Tryd.checked) (os := os) (X := fun w _ => laidMetH Tryd.prog ld w) false (World.doorLaid Tryd.prog 400 os) #[.slice none 0 0, .int .u8 0] 8 rfl (World.shaped_of_RefB (by kernel_rfl) (by kernel_rfl)) (by kernel_rfl) (by kernel_rfl) (by kernel_rfl) (door_met os _)) ?_
  intro W base args ds gs before hval0 hW _ _ hL _
  have hval : ∀ (j : Nat) t v, Tryd.f3.params[j]? = some t → args[j]? = some v → Value.okWide Tryd.prog W .any base t v := hval0
  have hW' := hW
  obtain ⟨p, q, hA0, hV0, rfl, hfz, hnd⟩ := hW
  have hA : DataW.TrodAll enc Tryd.prog W 0 (fun _ => true) true Tryd.f3.params.toList args.toList ds p := hA0
  have hV : DataW.TrodVars enc Tryd.prog W (fun _ => true) [nm] gs q := hV0
  rw [Tryd.params3] at hA hval
  obtain ⟨v0, vs0, d0, ds0, p0, q0, hargs, rfl, rfl, h0, r0⟩ := trodAll_cons hA
  obtain ⟨v1, vs1, d1, ds1, p1, q1, rfl, rfl, rfl, h1, r1⟩ := trodAll_cons r0
  obtain ⟨rfl, rfl, rfl⟩ := trodAll_nil r1
  obtain rfl : args = #[v0, v1] := by cases args; simp_all
  obtain ⟨a, hv⟩ := of_laid hL
  obtain ⟨rfl, rfl⟩ := hV.unique (vars_read1 enc gErr tErr Tryd.underlying31 hv trivial _)
  have hg : W.cell? ⟨0, 0, none⟩ = some (.iface 39 (.pointer (some a))) := by simpa using World.var?_cell gErr hv 0
  obtain ⟨a0, len0, cap0, rfl⟩ := okWide_slice Tryd.underlying22 (hval 0 22 v0 rfl rfl)
  have k0 := h0
  have lt0 : ∀ x ∈ p0, x.block < W.heap.size := by obtain ⟨m, hm⟩ := k0; exact DataW.trod_lt m _ _ _ hm
  obtain ⟨z0, w0⟩ : ∃ zs, IsRow .u8 W a0 len0 cap0 zs := by
    obtain ⟨fuel, hf⟩ := h0
    rcases open_ints Tryd.underlying22 Tryd.underlying5 (by kernel_rfl) hf with ⟨hcs, _⟩ | ⟨x, l, c, zs, hcs, _, hl, hm, hz, _, hcell, hwz⟩
    · simp [Value.cells] at hcs
      obtain ⟨rfl, rfl, rfl⟩ := hcs
      exact ⟨[], .inl ⟨rfl, rfl, rfl, rfl⟩⟩
    · simp [Value.cells] at hcs
      obtain ⟨rfl, rfl, rfl⟩ := hcs
      exact ⟨zs, .inr ⟨_, rfl, hl, hm, by simpa using hz, hcell, hwz⟩⟩
  obtain ⟨a1, rfl, rfl, rfl, w1⟩ := open_int Tryd.underlying5 (hval 1 5 v1 rfl rfl) h1
  clear hA0 hval0
  have hb0 : 0 < W.heap.size := by have := World.block_lt_of_cell? _ _ hg; simpa using this
  refine (walk a0 len0 cap0 z0 a1 39 _ W w0 hg).mono fun e W' ⟨he, bel⟩ => ?_
  subst he
  exact ⟨_, rfl, _, _, _, [], _, [.cell 0 0], hW', trodAll_mk1 (shut_bool Tryd.underlying4 _), (trodAll_cons_mk (Below.trod laidOut (by kernel_rfl) (of_decide_eq_true (by kernel_rfl)) k0 bel lt0) (trodAll_cons_mk (shut_int Tryd.underlying5 w1) trodAll_mk0)), vars_read1 enc gErr tErr Tryd.underlying31 (var?_below bel gErr hb0 hv) trivial _, bel.frame _, fun h => by cases h⟩

theorem holds : Rows.FnAppendHeaderReadBackSaid :=
  OpenClaim.holds_of_wide 3 Tryd.f3 rfl rfl rfl rfl rfl rfl rfl ⟨rfl, rfl, rfl, rfl, rfl⟩ rfl rfl rfl rfl rfl (by kernel_rfl) Tryd.func3 (by kernel_rfl)
    (of_decide_eq_true (by kernel_rfl)) (by unfold Func.isWrapper; first | (rw [if_pos (by decide +kernel)]; kernel_rfl) | (rw [if_neg (by decide +kernel)]; exact ⟨rfl, rfl⟩))
    (fun os started H enc _ => lifted os started H enc)

/-- ████ THE STATEMENT: THE TIED CARD ████ -/
theorem proved : Rows.FnAppendHeaderReadBackCardSaid :=
  Claim7.holds_tied_plain_at .later [] [.sentinel] true Rows.fnAppendHeaderReadBackCard.stood.harness false
    holds (fun _ h => by cases h) (by kernel_rfl) (fun _ h => by cases h) fnAppendHeaderReadBack_row_tie rfl ⟨rfl, rfl⟩ (by kernel_rfl) rfl
    (fun f fn hf hfn => by
      obtain rfl : f = 3 := Option.some.inj ((show Tryd.prog.funcNamed Rows.fnAppendHeaderReadBackRow.func = some 3 by kernel_rfl).symm.trans hf) |>.symm
      obtain rfl : fn = Tryd.f3 := (Option.some.inj (Tryd.func3.symm.trans hfn)).symm
      exact ⟨by kernel_rfl, fun j t ht => by
        rw [Tryd.params3] at ht
        have hm : t ∈ [22, 5] := by simpa using Array.mem_of_getElem? ht
        have hall : ([22, 5].all fun u => !Tryd.prog.wantsStandIn u) = true := by kernel_rfl
        exact (show Tryd.prog.wantsStandIn t = false by simpa using List.all_eq_true.1 hall t hm)⟩)
    (by kernel_rfl)
end Go.Proofs.Qxb6614586aDoor.fnAppendHeaderReadBack
