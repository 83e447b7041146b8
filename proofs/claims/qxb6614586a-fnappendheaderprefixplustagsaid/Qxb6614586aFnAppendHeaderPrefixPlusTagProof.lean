/-
  'Rows.FnAppendHeaderPrefixPlusTagSaid' PROVED. The frame was written by program (proof-skeleton.mjs); the walk and its contracts by hand.
-/
import Derived.Test.Qxb6614586aSame
import Derived.WalkKit
import Derived.ProofKit
import Derived.OpenShut
import Derived.ShutString
import Derived.ChangeOld
import Derived.Below
namespace Go.Proofs.Qxb6614586a.fnAppendHeaderPrefixPlusTag
open Go.ChangeShapes Go.WideShapes Go.ChangeAt Go.RowKit
open Go.ChangeMaps (open_string shut_string)
set_option linter.unusedVariables false

theorem own : ownKnob Try.prog.godebug = none := by kernel_rfl
theorem laidOut : laidOutB Try.prog = true := by kernel_rfl

/-- WHAT THE WALK IS TOLD OF A SLICE OF INTEGERS THAT CAME IN: it is nil; or it leads to a row of 'cap' cells, the numbers 'zs' (the first 'len' are its elements, the rest its spare room), each fitting its kind. -/
def IsRow (k : IntKind) (w : World) (a : Option Addr) (len cap : Nat) (zs : List Int) : Prop :=
  (a = none ∧ len = 0 ∧ cap = 0 ∧ zs = []) ∨
  ∃ x, a = some x ∧ len ≤ cap ∧ cap ≤ maxLen ∧ zs.length = cap ∧ (∀ i, i < zs.length → w.cell? (x.add i) = some (.int k (zs.getD i 0))) ∧ ∀ n ∈ zs, (Lit.int k n).wf = true

/-! ### THE WALK -/
theorem below_draws {B : Nat} {a w : World} (h : Below B a w) (q : Nat) : Below B a (w.drewN q) := ⟨h.os, h.tape, h.output, h.size, h.block⟩

/-- Two bytes behind the elements. -/
theorem tail_at (A : List Int) (t : Int) : (A ++ [t, 1]).getD A.length 0 = t ∧ (A ++ [t, 1]).getD (A.length + 1) 0 = 1 ∧ ∀ j, j < A.length → (A ++ [t, 1]).getD j 0 = A.getD j 0 := by
  refine ⟨by simp, by simp [List.getD_eq_getElem?_getD], fun j hj => ?_⟩
  simp [List.getD_eq_getElem?_getD, List.getElem?_append_left hj]

/-- The four slices that the law compares, in the world W. -/
structure Four (W : World) (A : List Int) (t u : Int) (out h h2 : Value) (want : Value) : Prop where
  out : ∃ g o c, out = .slice (some ⟨g, o, none⟩) (A.length + 2) c ∧ W.cell? ⟨g, o + A.length, none⟩ = some (.int .u8 t) ∧ W.cell? ⟨g, o + (A.length + 1), none⟩ = some (.int .u8 1) ∧ ∀ j, j < A.length → W.cell? ⟨g, o + j, none⟩ = some (.int .u8 (A.getD j 0))
  want : (want = .slice none 0 0 ∧ A = []) ∨ ∃ g o c, want = .slice (some ⟨g, o, none⟩) A.length c ∧ ∀ j, j < A.length → W.cell? ⟨g, o + j, none⟩ = some (.int .u8 (A.getD j 0))
  h : ∃ g o c, h = .slice (some ⟨g, o, none⟩) 2 c ∧ W.cell? ⟨g, o, none⟩ = some (.int .u8 t) ∧ W.cell? ⟨g, o + 1, none⟩ = some (.int .u8 1)
  h2 : ∃ g o c, h2 = .slice (some ⟨g, o, none⟩) 2 c ∧ W.cell? ⟨g, o, none⟩ = some (.int .u8 u) ∧ W.cell? ⟨g, o + 1, none⟩ = some (.int .u8 1)

theorem head_form {W : World} {base : Nat} {v : Value} {t : Int} (hv : Bytes W base v ([] ++ [t, 1])) : ∃ g o c, v = .slice (some ⟨g, o, none⟩) 2 c ∧ W.cell? ⟨g, o, none⟩ = some (.int .u8 t) ∧ W.cell? ⟨g, o + 1, none⟩ = some (.int .u8 1) := by
  rcases hv.form with ⟨_, h⟩ | ⟨g, o, c, h, _, _, _, hc⟩
  · simp at h
  · exact ⟨g, o, c, h, by simpa using hc 0 (by simp), by simpa using hc 1 (by simp)⟩

theorem four_of {W : World} {b1 b2 b3 b4 : Nat} {A : List Int} {t u : Int} {out h h2 want : Value} (k1 : Bytes W b1 out (A ++ [t, 1])) (k2 : Bytes W b2 want A) (k3 : Bytes W b3 h ([] ++ [t, 1])) (k4 : Bytes W b4 h2 ([] ++ [u, 1])) : Four W A t u out h h2 want := by
  refine ⟨?_, ?_, head_form k3, head_form k4⟩
  · rcases k1.form with ⟨_, h⟩ | ⟨g, o, c, h, _, _, _, hc⟩
    · simp at h
    · obtain ⟨e1, e2, e3⟩ := tail_at A t
      refine ⟨g, o, c, by simpa using h, ?_, ?_, fun j hj => ?_⟩
      · rw [hc A.length (by simp), e1]
      · rw [hc (A.length + 1) (by simp), e2]
      · rw [hc j (by simp; omega), e3 j hj]
  · rcases k2.form with h | ⟨g, o, c, h, _, _, _, hc⟩
    · exact .inl h
    · exact .inr ⟨g, o, c, h, hc⟩

set_option maxHeartbeats 8000000 in
/-- THE LAW ON A LIST: from the argument's bytes A, nil or not. The two clones are handed over by contract. -/
theorem walkA (v0 : Value) (a0 : Option Addr) (cap0 : Nat) (A : List Int) (t u : Int) (w : World) (hv0 : v0 = .slice a0 A.length cap0) (hA : A.length ≤ 1048576)
    (hclone : Calls Try.prog 5 #[v0] w fun e w' => ∃ v, e = .returned v ∧ Bytes w' w.heap.size v A ∧ Below w.heap.size w w') :
    Calls Try.prog 3 #[v0, .int .u8 t, .int .u8 u] w fun e w' => e = .returned (.bool true) ∧ Below w.heap.size w w' := by
  have hcon := zzBytes_any a0 A.length cap0 t u w (by unfold maxLen; omega)
  rw [decide_eq_true (by omega), ← hv0] at hcon
  subst hv0
  have hle : decide ((1048576 : Int) < (A.length : Int)) = false := decide_eq_false (by omega)
  go_enter Try.func3, Try.ntmps3
  go_wp2_with fail
  refine hcon.mono ?_
  rintro e w' ⟨rfl, rfl⟩
  clear hcon
  go_wp2_with fail
  refine hclone.mono ?_
  rintro e w1 ⟨v1, rfl, k1, hb1⟩
  have hc2 := clone_bytes _ v1 A w1 hA k1
  have s1 := hb1.size
  clear hclone
  go_wp2_with fail
  refine hc2.mono ?_
  rintro e w2 ⟨v2, rfl, k2, hb2⟩
  have s2 := hb2.size
  have k1' := k1.below hb2
  have hc3 := ZZappendHeader_any _ v1 A t w2 hA (by omega) k1'
  have hbz : Below w'.heap.size w' w2 := hb1.trans (hb2.mono s1)
  have hap : v2.ownBlock = none ∨ v2.ownBlock ≠ v1.ownBlock := by
    cases h : v2.ownBlock with
    | none => exact .inl rfl
    | some b => exact .inr (fun e => by have := (k2.lt b h).1; have := (k1.lt b e.symm).2; omega)
  clear hc2 hb2
  go_wp2_with fail
  refine hc3.mono ?_
  rintro e w3 ⟨v1', rfl, m1, g3, _⟩
  have m2 := k2.kept g3 hap
  have s3 := g3.size
  replace hbz := hbz.grown g3 (by omega) (fun b hb => (k1.lt b hb).1)
  have hc4 := ZZappendHeader_any w3.heap.size (.slice none 0 0) [] t w3 (by simp) (Nat.le_refl _) (Bytes.nil _ _)
  clear hc3 k1 k1' k2 hap hb1 g3
  go_wp2_with fail
  refine hc4.mono ?_
  rintro e w4 ⟨v3, rfl, n3, g4, _⟩
  have g4' : w3.grownBy w4 none := g4
  have n1 := m1.quiet g4'
  have n2 := m2.quiet g4'
  have s4 := g4'.size
  replace hbz := hbz.grown g4' (by omega) (fun b hb => by cases hb)
  have hc5 := ZZappendHeader_any w4.heap.size (.slice none 0 0) [] u w4 (by simp) (Nat.le_refl _) (Bytes.nil _ _)
  clear hc4 m1 m2 g4 g4'
  go_wp2_with fail
  refine hc5.mono ?_
  rintro e w5 ⟨v4, rfl, p4, g5, _⟩
  have g5' : w4.grownBy w5 none := g5
  have hF := four_of (n1.quiet g5') (n2.quiet g5') (n3.quiet g5') p4
  replace hbz := hbz.grown g5' (by omega) (fun b hb => by cases hb)
  clear hc5 n1 n2 n3 p4 g5 g5' s1 s2 s3 s4
  obtain ⟨x1, o1, c1, rfl, e1, e2, e3⟩ := hF.out
  obtain ⟨x3, o3, c3, rfl, f1, f2⟩ := hF.h
  obtain ⟨x4, o4, c4, rfl, d1, d2⟩ := hF.h2
  have hw := hF.want
  clear hF
  have E3 : Hid (∀ j, j < A.length → w5.cell? ⟨x1, o1 + j, none⟩ = some (.int .u8 (A.getD j 0))) := e3
  clear e3
  rcases hw with ⟨rfl, rfl⟩ | ⟨x2, o2, c2, rfl, hw⟩
  · simp only [List.length_nil, Nat.zero_add, Nat.add_zero] at e1 e2
    go_wp2_with fail
    refine wp_loop_rounds 1 ?_
    rw [rounds_succ]
    go_wp2_with fail
    refine wp_loop_rounds 3 ?_
    rw [rounds_succ]
    go_wp2_with fail
    go_quiet (fail)
    go_wp2_with fail
    rw [rounds_succ]
    go_wp2_with fail
    go_quiet (fail)
    go_wp2_with fail
    rw [rounds_succ]
    by_cases htu : t = u
    · subst htu
      go_wp2_with (go_at_call 7; refine (same_yes x3 o3 c3 x4 o4 c4 t _ (by simpa using f1) (by simpa using f2) (by simpa using d1) (by simpa using d2)).mono ?_; rintro e wz ⟨rfl, qz, rfl⟩)
      go_ret
      exact ⟨rfl, below_draws hbz _⟩
    · have hne : (t == u) = false := beq_eq_false_iff_ne.2 htu
      have Hne : Hid (¬ t = u) := htu
      clear htu
      go_wp2_with (go_at_call 7; refine (same_no x3 o3 c3 x4 o4 c4 t u _ hne (by simpa using f1) (by simpa using d1)).mono ?_; rintro e wz ⟨rfl, qz, rfl⟩)
      go_ret
      exact ⟨rfl, below_draws hbz _⟩
  · have E4 : Hid (∀ j, j < A.length → w5.cell? ⟨x2, o2 + j, none⟩ = some (.int .u8 (A.getD j 0))) := hw
    clear hw
    generalize A.length = n at *
    go_wp2_with fail
    go_loopw [11] (fun i wr => ∃ k q : Nat, k ≤ n ∧ i = .int .i64 k ∧ wr = w5.drewN q) (fun i _ => n - (intOf i).toNat)
    case atStart => exact ⟨0, 0, Nat.zero_le _, rfl, rfl⟩
    case round =>
      obtain ⟨k, q, hk, rfl, rfl⟩ := hrel
      by_cases hlt : k < n
      · have y1 := E3.out k hlt
        have y2 := E4.out k hlt
        generalize A.getD k 0 = z at y1 y2
        have hk1 : (k : Int) < (n : Int) + 2 := by omega
        have hk2 : (k : Int) < (n : Int) := by omega
        go_wp2_with fail
        go_quiet (fail)
        go_wp2_with fail
        go_roundw
        case rel => exact ⟨k + 1, _, by omega, by go_num, rfl⟩
        case measure => simp [intOf]; omega
      · obtain rfl : k = n := by omega
        go_wp2_with fail
        refine wp_loop_rounds 3 ?_
        rw [rounds_succ]
        go_wp2_with fail
        go_quiet (fail)
        go_wp2_with fail
        rw [rounds_succ]
        go_wp2_with fail
        go_quiet (fail)
        go_wp2_with fail
        rw [rounds_succ]
        by_cases htu : t = u
        · subst htu
          go_wp2_with (go_at_call 7; refine (same_yes x3 o3 c3 x4 o4 c4 t _ (by simpa using f1) (by simpa using f2) (by simpa using d1) (by simpa using d2)).mono ?_; rintro e wz ⟨rfl, qz, rfl⟩)
          go_ret
          exact ⟨rfl, below_draws hbz _⟩
        · have hne : (t == u) = false := beq_eq_false_iff_ne.2 htu
          have Hne : Hid (¬ t = u) := htu
          clear htu
          go_wp2_with (go_at_call 7; refine (same_no x3 o3 c3 x4 o4 c4 t u _ hne (by simpa using f1) (by simpa using d1)).mono ?_; rintro e wz ⟨rfl, qz, rfl⟩)
          go_ret
          exact ⟨rfl, below_draws hbz _⟩

theorem walk (a0 : Option Addr) (len0 cap0 : Nat) (z0 : List Int) (a1 : Int) (a2 : Int) (w : World) (w0 : IsRow .u8 w a0 len0 cap0 z0) (w1 : (Lit.int .u8 a1).wf = true) (w2 : (Lit.int .u8 a2).wf = true) :
    Calls Try.prog 3 #[.slice a0 len0 cap0, .int .u8 a1, .int .u8 a2] w fun e w' => e = .returned (.bool true) ∧ Below w.heap.size w w' := by
  by_cases hbig : (1048576 : Int) < (len0 : Int)
  · have hlm : len0 ≤ maxLen := by
      rcases w0 with ⟨_, rfl, _⟩ | ⟨x, _, h1, h2, _⟩
      · exact Nat.zero_le _
      · omega
    have hcon := zzBytes_any a0 len0 cap0 a1 a2 w hlm
    rw [decide_eq_false (by omega)] at hcon
    clear w0
    go_enter Try.func3, Try.ntmps3
    go_wp2_with fail
    refine hcon.mono ?_
    rintro e w' ⟨rfl, rfl⟩
    go_wp2_with fail
    go_ret
    exact ⟨rfl, Below.refl _ _⟩
  · rcases w0 with ⟨rfl, rfl, rfl, rfl⟩ | ⟨x, rfl, h1, h2, h3, h4, h5⟩
    · refine walkA _ none 0 [] a1 a2 w rfl (by simp) ((clone_nil w).mono ?_)
      rintro e w' ⟨rfl, rfl⟩
      exact ⟨_, rfl, Bytes.nil _ _, Below.refl _ _⟩
    · have hz : len0 ≤ z0.length := by omega
      have hlen : (z0.take len0).length = len0 := by simp; omega
      refine walkA _ (some x) cap0 (z0.take len0) a1 a2 w (by rw [hlen]) (by rw [hlen]; omega) ((clone_some x len0 cap0 (fun j => (z0.take len0).getD j 0) w (by omega) (fun h0 => ?_)).mono ?_)
      · obtain ⟨b, off, spot⟩ := x
        have hspot : spot = none := by simpa [Addr.add] using World.cell?_spot (h4 0 (by omega))
        subst hspot
        have hb : b < w.heap.size := by have := World.block_lt_of_cell? _ _ (h4 0 (by omega)); simpa [Addr.add] using this
        refine ⟨b, off, rfl, hb, fun j hj => ?_⟩
        have := h4 j (by omega)
        rw [add_plain] at this
        rw [this]
        simp [List.getD_eq_getElem?_getD, hj]
      · rintro e w' ⟨v, rfl, _, k1, k2⟩
        have e1 : (List.range len0).map (fun j => (z0.take len0).getD j 0) = z0.take len0 := by
          have := range_getD (z0.take len0)
          rwa [hlen] at this
        rw [e1] at k1
        exact ⟨v, rfl, k1, k2⟩

/-! ### THE ROW's STEP: WRITTEN OUT: LEAVE IT -/
set_option maxRecDepth 100000 in
theorem lifted (os : Os) (started : os.Started) (H : Type) (enc : TypeId × Value → H) :
    ReturnsInHanded {} Try.checked os 3 .any (Rows.fnAppendHeaderPrefixPlusTagSpec.pre6 enc Try.prog Try.f3 Rows.fnAppendHeaderPrefixPlusTagRow.domain false) (Rows.fnAppendHeaderPrefixPlusTagSpec.post enc Try.prog Try.f3 false true false false) := by
  refine returnsInHanded_of_change (C := Try.checked) own started (by kernel_rfl) Try.func3
    (ChangeSpec.witness6 (enc := enc) (C := Try.checked) false ⟨#[], #[.slice none 0 0, .int .u8 0, .int .u8 0], []⟩ 8 (by kernel_rfl) (by kernel_rfl) (by kernel_rfl) (by kernel_rfl)) ?_
  intro W base args ds gs before hval0 hW hcnd _
  have hval : ∀ (j : Nat) t v, Try.f3.params[j]? = some t → args[j]? = some v → Value.okWide Try.prog W .any base t v := hval0
  have hW' := hW
  obtain ⟨p, q, hA0, hV, rfl, hfz, hnd⟩ := hW
  have hA : DataW.TrodAll enc Try.prog W 0 (fun _ => true) true Try.f3.params.toList args.toList ds p := hA0
  rw [Try.params3] at hA hval
  obtain ⟨v0, vs0, d0, ds0, p0, q0, hargs, rfl, rfl, h0, r0⟩ := trodAll_cons hA
  obtain ⟨v1, vs1, d1, ds1, p1, q1, rfl, rfl, rfl, h1, r1⟩ := trodAll_cons r0
  obtain ⟨v2, vs2, d2, ds2, p2, q2, rfl, rfl, rfl, h2, r2⟩ := trodAll_cons r1
  obtain ⟨rfl, rfl, rfl⟩ := trodAll_nil r2
  obtain rfl : args = #[v0, v1, v2] := by cases args; simp_all
  obtain ⟨rfl, rfl⟩ := trodVars_none hV
  obtain ⟨a0, len0, cap0, rfl⟩ := okWide_slice Try.underlying22 (hval 0 22 v0 rfl rfl)
  have k0 := h0
  have lt0 : ∀ x ∈ p0, x.block < W.heap.size := by obtain ⟨m, hm⟩ := k0; exact DataW.trod_lt m _ _ _ hm
  obtain ⟨z0, w0⟩ : ∃ zs, IsRow .u8 W a0 len0 cap0 zs := by
    obtain ⟨fuel, hf⟩ := h0
    rcases open_ints Try.underlying22 Try.underlying5 (by kernel_rfl) hf with ⟨hcs, _⟩ | ⟨x, l, c, zs, hcs, _, hl, hm, hz, _, hcell, hwz⟩
    · simp [Value.cells] at hcs
      obtain ⟨rfl, rfl, rfl⟩ := hcs
      exact ⟨[], .inl ⟨rfl, rfl, rfl, rfl⟩⟩
    · simp [Value.cells] at hcs
      obtain ⟨rfl, rfl, rfl⟩ := hcs
      exact ⟨zs, .inr ⟨_, rfl, hl, hm, by simpa using hz, hcell, hwz⟩⟩
  obtain ⟨a1, rfl, rfl, rfl, w1⟩ := open_int Try.underlying5 (hval 1 5 v1 rfl rfl) h1
  obtain ⟨a2, rfl, rfl, rfl, w2⟩ := open_int Try.underlying5 (hval 2 5 v2 rfl rfl) h2
  clear hA0 hval0
  refine (walk a0 len0 cap0 z0 a1 a2 W w0 w1 w2).mono fun e W' ⟨he, bel⟩ => ?_
  subst he
  exact ⟨_, rfl, _, _, _, [], _, [], hW', trodAll_mk1 (shut_bool Try.underlying4 _), (trodAll_cons_mk (Below.trod laidOut (by kernel_rfl) (of_decide_eq_true (by kernel_rfl)) k0 bel lt0) (trodAll_cons_mk (shut_int Try.underlying5 w1) (trodAll_cons_mk (shut_int Try.underlying5 w2) trodAll_mk0))), rfl, bel.frame _, fun h => by cases h⟩

theorem over : Rows.fnAppendHeaderPrefixPlusTagRow.holds Try.pinned (OpenSpec.ofChange Rows.fnAppendHeaderPrefixPlusTagSpec) :=
  OpenClaim.holds_of_wide 3 Try.f3 rfl rfl rfl rfl rfl rfl rfl ⟨rfl, rfl, rfl, rfl, rfl⟩ rfl rfl rfl rfl rfl (by kernel_rfl) Try.func3 (by kernel_rfl)
    (of_decide_eq_true (by kernel_rfl)) (by unfold Func.isWrapper; first | (rw [if_pos (by decide +kernel)]; kernel_rfl) | (rw [if_neg (by decide +kernel)]; exact ⟨rfl, rfl⟩))
    (fun os started H enc _ => lifted os started H enc)

/-- ████ THE STATEMENT ████ -/
theorem proved : Rows.FnAppendHeaderPrefixPlusTagSaid := over
end Go.Proofs.Qxb6614586a.fnAppendHeaderPrefixPlusTag
