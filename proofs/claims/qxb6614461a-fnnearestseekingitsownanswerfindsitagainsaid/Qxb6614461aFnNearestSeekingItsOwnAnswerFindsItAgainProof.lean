/-
  'Rows.FnNearestSeekingItsOwnAnswerFindsItAgainSaid' PROVED. The frame was written by program (proof-skeleton.mjs); the walk and its contracts by hand; the post limb by limb over 'Below'.
-/
import Derived.Test.Qxb6614461aLaw
import Derived.Laws.IdiomStrings
import Derived.WalkKit
import Derived.ProofKit
import Derived.OpenShut
import Derived.ShutString
namespace Go.Proofs.Qxb6614461a.fnNearestSeekingItsOwnAnswerFindsItAgain
open Go.ChangeShapes Go.WideShapes Go.ChangeAt Go.RowKit
open Go.ChangeMaps (open_string shut_string)
set_option linter.unusedVariables false      -- a walk need not use every 'w<i>' (that an integer argument fits its kind)

theorem own : ownKnob Try.prog.godebug = none := by kernel_rfl

/-! ### THE WALK -/
/-- The bytes of a text. -/
def gb (s : ByteArray) (j : Nat) : Int := if h : j < s.data.size then (s.data[j].toNat : Int) else 0
theorem gb_bd (s : ByteArray) (j : Nat) : 0 ≤ gb s j ∧ gb s j ≤ 255 := by
  unfold gb
  split
  · rename_i h
    have := s.data[j].toNat_lt
    omega
  · omega

/-- '[]byte(text)': a slice of the text's bytes in new memory. -/
theorem bytes_of (s : ByteArray) (w : World) : ∃ cap W, (convert 9 23 (.string s)).run Try.prog w = .ok (.slice (some ⟨w.heap.size, 0, none⟩) s.size cap) W ∧ Below w.heap.size w W ∧ w.heap.size < W.heap.size ∧ ∀ j, j < s.size → W.cell? ⟨w.heap.size, 0 + j, none⟩ = some (.int .u8 (gb s j)) := by
  refine ⟨_, _, run_bytes_of_string w 9 23 5 s Try.underlying9 Try.underlying23 Try.underlying5, ((Below.refl _ w).drew).alloc (Nat.le_refl _) _, by simp, fun j hj => ?_⟩
  have hj' : j < s.data.size := hj
  rw [Nat.zero_add]
  have hb : (w.drew.alloc (.cells (bytesRow s (grownCap w s.size 0 5)) 5 ((bytesRow s (grownCap w s.size 0 5)).size, (bytesRow s (grownCap w s.size 0 5)).size + 1))).heap[w.heap.size]? = some (.cells (bytesRow s (grownCap w s.size 0 5)) 5 ((bytesRow s (grownCap w s.size 0 5)).size, (bytesRow s (grownCap w s.size 0 5)).size + 1)) := heap_alloc_new w.drew _
  rw [Joins.cell_of_block hb j, bytesRow_at s _ j hj']
  unfold gb
  rw [dif_pos hj']

/-- What stood in memory stands while nothing of it is written. -/
theorem grown_of_below {w w' : World} (h : Below w.heap.size w w') : w.grownBy w' .none := ⟨h.os, h.tape, h.output, h.size, fun k hk _ => h.block k hk⟩
theorem marks_below {w w' : World} {T k : Nat} {mv : Value} {V : Int → Value} {L : Int → List (Int × Int × Int)} (h : Marks w T k mv V L) (hb : Below w.heap.size w w') : Marks w' T k mv V L := by
  refine ⟨?_, fun n => (h.row n).kept (grown_of_below hb) (by cases (V n).ownBlock <;> simp), h.apart⟩
  rcases h.map with h1 | ⟨b, h1, h2, h3⟩
  · exact .inl h1
  · exact .inr ⟨b, h1, h2, h3.kept (grown_of_below hb) (by simp)⟩

/-- The marks of one line, whatever 'every' is. -/
def lineM (g : Nat → Int) (every : Int) (p : Nat × Nat) : List (Int × Int × Int) := if every < 1 then [] else lm g every.toNat p

/-- zzBuild, as far as one line is asked for. -/
theorem zzBuild_line (g : Nat → Int) (B off n cap c : Nat) (every : Int) (w : World) (hn : n ≤ 1048576) (hg : ∀ j, 0 ≤ g j ∧ g j ≤ 255) (hB : B < w.heap.size) (hE : every ≤ 9223372036854775807)
    (hc : ∀ j, j < n → w.cell? ⟨B, off + j, none⟩ = some (.int .u8 (g j))) (hcm : c < (lbs g n).length) :
    Calls Try.prog 6 #[.slice (some ⟨B, off, none⟩) n cap, .int .i64 every] w fun r w' => ∃ T lv mv V k L, r = .returned (.pointer (some ⟨T, 0, none⟩)) ∧ TextAt w' T (.slice (some ⟨B, off, none⟩) n cap) lv mv ∧ Marks w' T k mv V L ∧ L c = lineM g every ((lbs g n).getD c (0, 0)) ∧ Below w.heap.size w w' := by
  by_cases he : every < 1
  · refine (zzBuild_small g B off n cap every w hn hB he hc).mono ?_
    rintro e w' ⟨T, lv, mv, V, k, rfl, _, h1, h2, h3⟩
    exact ⟨T, lv, mv, V, k, _, rfl, h1, h2, by unfold lineM; rw [if_pos he], h3⟩
  · obtain ⟨E, rfl⟩ := Int.eq_ofNat_of_zero_le (show 0 ≤ every by omega)
    refine (zzBuild_marks g B off n cap E w hn hg hB (by omega) hE hc).mono ?_
    rintro e w' ⟨T, lv, mv, V, k, L, rfl, _, h1, h2, h3, h4⟩
    exact ⟨T, lv, mv, V, k, L, rfl, h1, h2, by unfold lineM; rw [if_neg he, Int.toNat_natCast]; exact h3.1 c hcm, h4⟩

theorem lineM_found (g : Nat → Int) {st en K : Nat} {every : Int} (col : Int) (h : st ≤ en) (hn : en ≤ 1048576) (hK : pos g st en K = en) (hlt : ∀ j, j < K → pos g st en j < en) (hKn : K ≤ en - st) :
    Found (lineM g every (st, en)) st en K every col (near (lineM g every (st, en)) st col) := by
  unfold lineM
  by_cases he : every < 1
  · rw [if_pos he]; exact found_none h he
  · obtain ⟨E, rfl⟩ := Int.eq_ofNat_of_zero_le (show 0 ≤ every by omega)
    rw [if_neg he, Int.toNat_natCast]
    exact found_marks g h (by omega) hn hK hlt hKn

theorem lineM_mono (g : Nat → Int) {st en K : Nat} {every : Int} (hK : pos g st en K = en) (hlt : ∀ j, j < K → pos g st en j < en) (hKn : K ≤ en - st) :
    ∀ i j (hi : i < (lineM g every (st, en)).length) (hj : j < (lineM g every (st, en)).length), i ≤ j → ((lineM g every (st, en))[i]).2.1 ≤ ((lineM g every (st, en))[j]).2.1 := by
  by_cases he : every < 1
  · intro i j hi
    unfold lineM at hi
    rw [if_pos he] at hi
    simp at hi
  · obtain ⟨E, rfl⟩ := Int.eq_ofNat_of_zero_le (show 0 ≤ every by omega)
    have e : lineM g (E : Int) (st, en) = lm g E (st, en) := by unfold lineM; rw [if_neg he, Int.toNat_natCast]
    rw [e]
    exact mono_marks g st en E K (by omega) hK hlt hKn

theorem lineM_len (g : Nat → Int) (every : Int) (p : Nat × Nat) (h : p.2 ≤ 1048576) : (lineM g every p).length ≤ 1048576 := by
  unfold lineM
  split
  · simp
  · exact lm_len g _ p h

theorem both_zero {s1 s2 st : Int} (h : s2 = 0 ↔ s1 = st) : ((s2 == 0) == (s1 == st)) = true := by
  have e : (s2 == 0) = (s1 == st) := by
    rw [Bool.eq_iff_iff, beq_iff_eq, beq_iff_eq]
    exact h
  rw [e]
  exact beq_self_eq_true _

theorem i64_le {a : Int} (h : (Lit.int .i64 a).wf = true) : a ≤ 9223372036854775807 := by
  have := bounds_i64 h
  omega

set_option maxHeartbeats 4000000 in
theorem walk (a0 : ByteArray) (a1 : Int) (a2 : Int) (a3 : Int) (w0 : a0.size ≤ maxLen) (w1 : (Lit.int .i64 a1).wf = true) (w2 : (Lit.int .i64 a2).wf = true) (w3 : (Lit.int .i64 a3).wf = true) (w : World) :
    Calls Try.prog 3 #[.string a0, .int .i64 a1, .int .i64 a2, .int .i64 a3] w fun e w' => e = .returned (.bool true) ∧ Below w.heap.size w w' := by
  have hcon := zzBytes_any a0 a1 a2 a3 w w0
  by_cases hbig : (a0.size : Int) ≤ 1048576
  · rw [decide_eq_true hbig] at hcon
    by_cases hmid : (65536 : Int) < (a0.size : Int)
    · go_enter Try.func3, Try.ntmps3
      go_wp2_with (go_at_call 4; refine hcon.mono ?_; rintro e w' ⟨rfl, rfl⟩)
      go_ret
      exact ⟨rfl, Below.refl _ _⟩
    · obtain ⟨cap, W, hrun, hbW, hszW, hcell⟩ := bytes_of a0 w
      have hg := gb_bd a0
      generalize gb a0 = g at hcell hg
      have hL := zzLineBounds_any g w.heap.size 0 a0.size cap W (by omega) hszW hcell
      go_enter Try.func3, Try.ntmps3
      go_wp2_with (go_at_call 4; refine hcon.mono ?_; rintro e w' ⟨rfl, rfl⟩)
      refine hL.mono ?_
      rintro e X1 ⟨v1, v2, rfl, hr1, hr2, hap, hb1⟩
      have hlen := lbs_len g a0.size
      have hpos : 0 < (lbs g a0.size).length := by unfold lbs; simp
      have l1 := fsts_len (lbs g a0.size)
      have l2 := snds_len (lbs g a0.size)
      obtain ⟨b1, o1, c1, rfl, hlo1, hl1, hc1⟩ := hr1.form (by omega)
      obtain ⟨b2, o2, c2, rfl, hlo2, hl2, hc2⟩ := hr2.form (by omega)
      rw [l1] at hc1 ⊢
      rw [l2] at hc2 ⊢
      have C1 : Hid (∀ j, j < (lbs g a0.size).length → X1.cell? ⟨b1, o1 + j, none⟩ = some (.int .i64 (((lbs g a0.size).getD j (0, 0)).1 : Int))) := fun j hj => by rw [← fsts_getD _ j hj]; exact hc1 j hj
      have C2 : Hid (∀ j, j < (lbs g a0.size).length → X1.cell? ⟨b2, o2 + j, none⟩ = some (.int .i64 (((lbs g a0.size).getD j (0, 0)).2 : Int))) := fun j hj => by rw [← snds_getD _ j hj]; exact hc2 j hj
      have C0 : Hid (∀ j, j < a0.size → X1.cell? ⟨w'.heap.size, 0 + j, none⟩ = some (.int .u8 (g j))) := fun j hj => (hb1.cell (by exact hszW)).trans (hcell j hj)
      have hb0 : Below w'.heap.size w' X1 := hbW.trans (hb1.mono (by omega))
      have hsz1 : w'.heap.size < X1.heap.size := by have := hb1.size; omega
      clear hc1 hc2 hr1 hr2 hap hL hcell hcon hrun hbW hb1 hszW l1 l2
      by_cases hneg : a1 < 0
      · go_wp2_with fail
        go_ret
        exact ⟨rfl, hb0⟩
      by_cases hge : ((lbs g a0.size).length : Int) ≤ a1
      · go_wp2_with fail
        go_ret
        exact ⟨rfl, hb0⟩
      obtain ⟨c, rfl⟩ := Int.eq_ofNat_of_zero_le (show 0 ≤ a1 by omega)
      have hcm : c < (lbs g a0.size).length := by omega
      have hB := zzBuild_line g w'.heap.size 0 a0.size cap c a2 X1 (by omega) hg hsz1 (i64_le w2) C0.out hcm
      have x1 := C1.out c hcm
      have x2 := C2.out c hcm
      have hbd := lbs_at g a0.size c hcm
      generalize (lbs g a0.size).getD c (0, 0) = q at hB x1 x2 hbd
      obtain ⟨st, en⟩ := q
      simp only at x1 x2 hbd
      obtain ⟨K, hK, hKl, hKn⟩ := points_ex g hbd.1
      have HKK : Hid (pos g st en K = en ∧ ∀ j, j < K → pos g st en j < en) := ⟨hK, hKl⟩
      clear hK hKl C1 C2
      generalize (lbs g a0.size).length = m at *
      have hcm' : (c : Int) < (m : Int) := by omega
      go_wp2_with fail
      refine hB.mono ?_
      rintro e X2 ⟨T, lv, mv, V, k, L, rfl, ht, hM, hLc, hb2⟩
      have HLc : Hid (L c = lineM g a2 (st, en)) := hLc
      have y1 := (hb2.cell (p := ⟨b1, o1 + c, none⟩) hl1).trans x1
      have y2 := (hb2.cell (p := ⟨b2, o2 + c, none⟩) hl2).trans x2
      have hcnt := zzCount_any g w'.heap.size 0 a0.size cap st en K X2 (by omega) hbd.2 hbd.1 hg (fun j hj => (hb2.cell (by exact hsz1)).trans (C0.out j hj)) HKK.out.1 HKK.out.2
      have hb3 : Below w'.heap.size w' X2 := hb0.trans (hb2.mono (by omega))
      clear hLc hB x1 x2 C0 hb2
      go_wp2_with fail
      refine hcnt.mono ?_
      rintro e X3 ⟨rfl, rfl⟩
      have hmk := zzMarkIndex_any K a2 a3 X3 (by omega) (i64_le w2) (i64_le w3)
      clear hcnt y1 y2
      go_wp2_with fail
      refine hmk.mono ?_
      rintro e X4 ⟨rfl, rfl⟩
      clear hmk
      have hF := lineM_found g (every := a2) a3 hbd.1 (by omega) HKK.out.1 HKK.out.2 hKn
      have hN := ZZnearest_any T k _ lv mv V L c a3 st en X4 w1 (by rw [HLc.out]; exact lineM_len g a2 _ (by simp only; omega)) ht hM (by rw [HLc.out]; exact lineM_mono g HKK.out.1 HKK.out.2 hKn)
      have hN2 := fun Y ht hM => ZZnearest_any T k (.slice (some ⟨w'.heap.size, 0, none⟩) a0.size cap) lv mv V L c ((near (lineM g a2 (st, en)) st a3).2.1 + 1) st en Y w1 (by rw [HLc.out]; exact lineM_len g a2 _ (by simp only; omega)) ht hM (by rw [HLc.out]; exact lineM_mono g HKK.out.1 HKK.out.2 hKn)
      rw [HLc.out] at hN hN2
      rw [hF.again] at hN2
      have q1 := hF.j0
      have q2 := hF.count
      have q3 := hF.fits
      have q4 := hF.lo
      have q5 := hF.hi
      have q6 := hF.zero
      clear hF HLc HKK
      generalize near (lineM g a2 (st, en)) st a3 = s at *
      generalize markIndex (K : Int) a2 a3 = j at *
      obtain ⟨s1, s2, s3⟩ := s
      simp only at q2 q3 q4 q5 q6 hN hN2
      have Q2 : Hid (s2 = if 0 < j then j * a2 else 0) := q2
      have Q6 : Hid (s2 = 0 ↔ s1 = (st : Int)) := q6
      have HN2 : Hid _ := hN2
      clear q2 q6 hN2
      have z1 := both_zero Q6.out
      by_cases hj : 0 < j
      · have e2 : s2 = j * a2 := by rw [Q2.out, if_pos hj]
        have z2 : (s2 == j * a2) = true := by rw [e2]; simp
        have z3 : 0 ≤ j * a2 ∧ j * a2 ≤ 1048576 := by omega
        clear e2
        go_wp2_with fail
        refine hN.mono ?_
        rintro e X5 ⟨rfl, hb5⟩
        have ht5 : TextAt X5 T (.slice (some ⟨w'.heap.size, 0, none⟩) a0.size cap) lv mv := ht.kept (grown_of_below hb5) (by simp)
        have hM5 := marks_below hM hb5
        clear hN ht hM
        go_wp2_with fail
        refine (HN2.out _ ht5 hM5).mono ?_
        rintro e X6 ⟨rfl, hb6⟩
        have hbz : Below w'.heap.size w' X6 := (hb3.trans (hb5.mono (by have := hb3.size; omega))).trans (hb6.mono (by have := hb3.size; have := hb5.size; omega))
        clear HN2 ht5 hM5 hb5 hb6
        go_wp2_with fail
        go_ret
        exact ⟨rfl, hbz⟩
      · have e2 : s2 = 0 := by rw [Q2.out, if_neg hj]
        have z2 : (s2 == 0) = true := beq_iff_eq.2 e2
        have z4 : (s1 == (st : Int)) = true := beq_iff_eq.2 (Q6.out.1 e2)
        clear e2 z1
        go_wp2_with fail
        refine hN.mono ?_
        rintro e X5 ⟨rfl, hb5⟩
        have ht5 : TextAt X5 T (.slice (some ⟨w'.heap.size, 0, none⟩) a0.size cap) lv mv := ht.kept (grown_of_below hb5) (by simp)
        have hM5 := marks_below hM hb5
        clear hN ht hM
        go_wp2_with fail
        refine (HN2.out _ ht5 hM5).mono ?_
        rintro e X6 ⟨rfl, hb6⟩
        have hbz : Below w'.heap.size w' X6 := (hb3.trans (hb5.mono (by have := hb3.size; omega))).trans (hb6.mono (by have := hb3.size; have := hb5.size; omega))
        clear HN2 ht5 hM5 hb5 hb6
        go_wp2_with fail
        go_ret
        exact ⟨rfl, hbz⟩
  · rw [decide_eq_false hbig] at hcon
    go_enter Try.func3, Try.ntmps3
    go_wp2_with (go_at_call 4; refine hcon.mono ?_; rintro e w' ⟨rfl, rfl⟩)
    go_ret
    exact ⟨rfl, Below.refl _ _⟩

/-! ### THE ROW's STEP: WRITTEN OUT: LEAVE IT -/
set_option maxRecDepth 100000 in
theorem lifted (os : Os) (started : os.Started) (H : Type) (enc : TypeId × Value → H) :
    ReturnsInHanded {} Try.checked os 3 .any (Rows.fnNearestSeekingItsOwnAnswerFindsItAgainSpec.pre6 enc Try.prog Try.f3 Rows.fnNearestSeekingItsOwnAnswerFindsItAgainRow.domain false) (Rows.fnNearestSeekingItsOwnAnswerFindsItAgainSpec.post enc Try.prog Try.f3 false true false false) := by
  refine returnsInHanded_of_change (C := Try.checked) own started (by kernel_rfl) Try.func3
    (ChangeSpec.witness6 (enc := enc) (C := Try.checked) false ⟨#[], #[.string ByteArray.empty, .int .i64 0, .int .i64 0, .int .i64 0], []⟩ 8 (by kernel_rfl) (by kernel_rfl) (by kernel_rfl) (by kernel_rfl)) ?_
  intro W base args ds gs before hval0 hW hcnd _
  have hval : ∀ (j : Nat) t v, Try.f3.params[j]? = some t → args[j]? = some v → Value.okWide Try.prog W .any base t v := hval0
  have hW' := hW
  obtain ⟨p, q, hA0, hV, rfl, hfz, hnd⟩ := hW
  have hA : DataW.TrodAll enc Try.prog W 0 (fun _ => true) true Try.f3.params.toList args.toList ds p := hA0
  rw [Try.params3] at hA hval
  obtain ⟨v0, vs0, d0, ds0, p0, q0, hargs, rfl, rfl, h0, r0⟩ := trodAll_cons hA
  obtain ⟨v1, vs1, d1, ds1, p1, q1, rfl, rfl, rfl, h1, r1⟩ := trodAll_cons r0
  obtain ⟨v2, vs2, d2, ds2, p2, q2, rfl, rfl, rfl, h2, r2⟩ := trodAll_cons r1
  obtain ⟨v3, vs3, d3, ds3, p3, q3, rfl, rfl, rfl, h3, r3⟩ := trodAll_cons r2
  obtain ⟨rfl, rfl, rfl⟩ := trodAll_nil r3
  obtain rfl : args = #[v0, v1, v2, v3] := by cases args; simp_all
  obtain ⟨rfl, rfl⟩ := trodVars_none hV
  obtain ⟨a0, rfl, rfl, rfl, w0⟩ := open_string Try.underlying9 (hval 0 9 v0 rfl rfl) h0
  obtain ⟨a1, rfl, rfl, rfl, w1⟩ := open_int Try.underlying3 (hval 1 3 v1 rfl rfl) h1
  obtain ⟨a2, rfl, rfl, rfl, w2⟩ := open_int Try.underlying3 (hval 2 3 v2 rfl rfl) h2
  obtain ⟨a3, rfl, rfl, rfl, w3⟩ := open_int Try.underlying3 (hval 3 3 v3 rfl rfl) h3
  clear hA0 hval0
  simp only [List.append_nil] at hW'
  refine (walk a0 a1 a2 a3 w0 w1 w2 w3 W).mono fun e W' ⟨he, bel⟩ => ?_
  subst he
  exact ⟨_, rfl, _, _, _, [], _, [], hW', trodAll_mk1 (shut_bool Try.underlying4 _), (trodAll_cons_mk (shut_string Try.underlying9 w0) (trodAll_cons_mk (shut_int Try.underlying3 w1) (trodAll_cons_mk (shut_int Try.underlying3 w2) (trodAll_cons_mk (shut_int Try.underlying3 w3) trodAll_mk0)))), rfl, bel.frame _, fun h => by cases h⟩

theorem over : Rows.fnNearestSeekingItsOwnAnswerFindsItAgainRow.holds Try.pinned (OpenSpec.ofChange Rows.fnNearestSeekingItsOwnAnswerFindsItAgainSpec) :=
  OpenClaim.holds_of_wide 3 Try.f3 rfl rfl rfl rfl rfl rfl rfl ⟨rfl, rfl, rfl, rfl, rfl⟩ rfl rfl rfl rfl rfl (by kernel_rfl) Try.func3 (by kernel_rfl)
    (of_decide_eq_true (by kernel_rfl)) (by unfold Func.isWrapper; first | (rw [if_pos (by decide +kernel)]; kernel_rfl) | (rw [if_neg (by decide +kernel)]; exact ⟨rfl, rfl⟩))
    (fun os started H enc _ => lifted os started H enc)

/-- ████ THE STATEMENT ████ -/
theorem proved : Rows.FnNearestSeekingItsOwnAnswerFindsItAgainSaid :=
  over
end Go.Proofs.Qxb6614461a.fnNearestSeekingItsOwnAnswerFindsItAgain
