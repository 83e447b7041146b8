/-
  FnAppendHeaderReadBack (3): the walk.
-/
import Derived.Test.Qxb6614586aDoorReader
import Derived.RegionTactic
import Derived.Deep.QuietTactic
import Derived.BigQuiet
namespace Go.Proofs.Qxb6614586aDoor
open Go.ChangeShapes Go.WideShapes Go.RowKit

theorem below_draws {B : Nat} {a w : World} (h : Below B a w) (q : Nat) : Below B a (w.drewN q) := ⟨h.os, h.tape, h.output, h.size, h.block⟩

/-- Two bytes behind the elements. -/
theorem tail_at (A : List Int) (t : Int) : (A ++ [t, 1]).getD A.length 0 = t ∧ (A ++ [t, 1]).getD (A.length + 1) 0 = 1 ∧ ∀ j, j < A.length → (A ++ [t, 1]).getD j 0 = A.getD j 0 := by
  refine ⟨by simp, by simp [List.getD_eq_getElem?_getD], fun j hj => ?_⟩
  simp [List.getD_eq_getElem?_getD, List.getElem?_append_left hj]

theorem Bytes.cap {w : World} {base g o cap : Nat} {A : List Int} (h : Bytes w base (.slice (some ⟨g, o, none⟩) A.length cap) A) : A.length ≤ cap ∧ cap ≤ maxLen := by
  rcases h.2 with ⟨hv, _⟩ | ⟨g', cap', cur, hv, _, _, h1, h2, _⟩
  · simp at hv
  · simp at hv
    obtain ⟨_, rfl⟩ := hv
    exact ⟨h1, h2⟩

/-- What was appended to, written out. -/
theorem out_form {W : World} {base : Nat} {v : Value} {A : List Int} {t : Int} (k1 : Bytes W base v (A ++ [t, 1])) :
    ∃ g o c, v = .slice (some ⟨g, o, none⟩) (A.length + 2) c ∧ g < W.heap.size ∧ A.length + 2 ≤ c ∧ c ≤ maxLen ∧ W.cell? ⟨g, o + A.length, none⟩ = some (.int .u8 t) ∧ W.cell? ⟨g, o + A.length + 1, none⟩ = some (.int .u8 1) ∧ ∀ j, j < A.length → W.cell? ⟨g, o + j, none⟩ = some (.int .u8 (A.getD j 0)) := by
  rcases k1.form with ⟨_, h⟩ | ⟨g, o, c, rfl, _, _, hg, hc⟩
  · simp at h
  · obtain ⟨e1, e2, e3⟩ := tail_at A t
    have hcap := k1.cap
    simp at hcap
    refine ⟨g, o, c, by simp, hg, hcap.1, hcap.2, ?_, ?_, fun j hj => ?_⟩
    · rw [hc A.length (by simp), e1]
    · rw [show o + A.length + 1 = o + (A.length + 1) from rfl, hc (A.length + 1) (by simp), e2]
    · rw [hc j (by simp; omega), e3 j hj]

set_option maxHeartbeats 8000000 in
theorem walkA (a0 : Option Addr) (cap0 : Nat) (A : List Int) (t : Int) (T : TypeId) (ex : Value) (w : World) (hA : A.length ≤ 1048576) (hg : w.cell? ⟨0, 0, none⟩ = some (.iface T ex))
    (hclone : Calls Tryd.prog 6 #[.slice a0 A.length cap0] w fun e w' => ∃ v, e = .returned v ∧ Bytes w' w.heap.size v A ∧ Below w.heap.size w w') :
    Calls Tryd.prog 3 #[.slice a0 A.length cap0, .int .u8 t] w fun e w' => e = .returned (.bool true) ∧ Below w.heap.size w w' := by
  have hcon := zzBytes_any a0 A.length cap0 t w (by unfold maxLen; omega)
  rw [decide_eq_true (by omega)] at hcon
  have h0 := World.block_lt_of_cell? _ _ hg
  simp only at h0
  have hle : decide ((1048576 : Int) < (A.length : Int)) = false := decide_eq_false (by omega)
  have HG : Hid (w.cell? ⟨0, 0, none⟩ = some (.iface T ex)) := hg
  clear hg
  go_enter Tryd.func3, Tryd.ntmps3
  go_wp2_with fail
  refine hcon.mono ?_
  rintro e w' ⟨rfl, rfl⟩
  clear hcon
  go_wp2_with fail
  refine hclone.mono ?_
  rintro e w1 ⟨v1, rfl, k1, hb1⟩
  have hc2 := clone_bytes _ v1 A w1 hA k1
  have s1 := hb1.size
  clear hclone
  go_wp2_with fail
  refine hc2.mono ?_
  rintro e w2 ⟨v2, rfl, k2, hb2⟩
  have s2 := hb2.size
  have k1' := k1.below hb2
  have hc3 := ZZappendHeader_any _ v1 A t w2 hA (by omega) k1'
  have hbz : Below w'.heap.size w' w2 := hb1.trans (hb2.mono s1)
  have hap : v2.ownBlock = none ∨ v2.ownBlock ≠ v1.ownBlock := by
    cases h : v2.ownBlock with
    | none => exact .inl rfl
    | some b => exact .inr (fun e => by have := (k2.lt b h).1; have := (k1.lt b e.symm).2; omega)
  clear hc2 hb2
  go_wp2_with fail
  refine hc3.mono ?_
  rintro e w5 ⟨v1', rfl, m1, g3, _⟩
  have m2 := k2.kept g3 hap
  have s3 := g3.size
  replace hbz := hbz.grown g3 (by omega) (fun b hb => (k1.lt b hb).1)
  clear hc3 k1 k1' k2 hap hb1 g3
  obtain ⟨x1, o1, c1, rfl, hx1, hc1, hc1m, e1, e2, e3⟩ := out_form m1
  have hw := m2.form
  clear m1 m2
  have E3 : Hid (∀ j, j < A.length → w5.cell? ⟨x1, o1 + j, none⟩ = some (.int .u8 (A.getD j 0))) := e3
  clear e3
  unfold maxLen at hc1m
  rcases hw with ⟨rfl, rfl⟩ | ⟨x2, o2, c2, rfl, _, _, _, hw⟩
  · simp only [List.length_nil, Nat.zero_add, Nat.add_zero] at e1 e2 hc1 ⊢
    go_wp2_with fail
    refine wp_loop_rounds 1 ?_
    rw [rounds_succ]
    go_wp2_with fail
    refine (newReader_any _ _ _ _).mono ?_
    rintro e X1 ⟨rfl, hr, hb⟩
    have hR : (w5).heap.size = w5.heap.size := rfl
    have z1 := hb.size
    rw [hR] at hr hb z1 ⊢
    have d1 : X1.cell? ⟨x1, o1, none⟩ = some (.int .u8 t) := (hb.cell (p := ⟨x1, o1, none⟩) hx1).trans e1
    have d2 : X1.cell? ⟨x1, o1 + 1, none⟩ = some (.int .u8 1) := (hb.cell (p := ⟨x1, o1 + 1, none⟩) hx1).trans e2
    have hB1 : Below w'.heap.size w' X1 := (below_draws hbz 0).trans (hb.mono (by show _ ≤ w5.heap.size; omega))
    have hRw : w'.heap.size ≤ w5.heap.size := by omega
    generalize w5.heap.size = R at *
    have hneR : x1 ≠ R := by omega
    have hu1 := u8_yes R x1 (o1) 1 (c1) t X1 (by omega) (by unfold maxLen; omega) hr d1 hneR
    clear hb hR e1 e2 hbz d1
    go_wp2_with fail
    refine hu1.mono ?_
    rintro e X2 ⟨rfl, q1, hr2, hq1, hg2⟩
    obtain rfl := hq1 (by omega)
    have hB2 : Below w'.heap.size w' X2 := hB1.grown hg2 (by have := hB1.size; omega) (fun b hb => by cases hb; exact hRw)
    have d3 : X2.cell? ⟨x1, o1 + 1, none⟩ = some (.int .u8 1) := hg2.cell d2 (by simpa using hneR)
    have hu2 := u8_yes R x1 (o1 + 1) 0 (c1 - 1) 1 X2 (by omega) (by unfold maxLen; omega) hr2 d3 hneR
    clear hu1 d2 hr hg2 hB1 hq1
    go_wp2_with fail
    refine hu2.mono ?_
    rintro e X3 ⟨rfl, q2, hr3, _, hg3⟩
    have hB3 : Below w'.heap.size w' X3 := hB2.grown hg3 (by have := hB2.size; omega) (fun b hb => by cases hb; exact hRw)
    have hE := (hB3.cell (p := ⟨0, 0, none⟩) h0).trans HG.out
    have hu3 := fun wx h => err_any R (.slice (some ⟨x1, q2, none⟩) 0 (c1 - 1 - 1)) .nilIface wx h
    have hu4 := u8_no R (c1 - 1 - 1) (some ⟨x1, q2, none⟩) (.iface T ex) T ex X3 hr3 rfl hE
    have HU3 : Hid _ := hu3
    clear hu2 d3 hr2 hg3 hB2 hu3 hE
    go_wp2_with fail
    refine (HU3.out _ hr3).mono ?_
    rintro e X3' ⟨rfl, rfl⟩
    go_wp2_with fail
    refine hu4.mono ?_
    rintro e X4 ⟨rfl, hr4, hg4⟩
    have hB4 : Below w'.heap.size w' X4 := hB3.grown hg4 (by have := hB3.size; omega) (fun b hb => by cases hb; exact hRw)
    have hu5 := err_any R _ _ X4 hr4
    have hu6 := rest_any R _ _ X4 hr4
    clear hu4 hr3 hg4 hB3 HU3
    go_wp2_with fail
    refine hu5.mono ?_
    rintro e X5 ⟨rfl, rfl⟩
    clear hu5
    go_wp2_with fail
    refine hu6.mono ?_
    rintro e X6 ⟨rfl, rfl⟩
    go_wp2_with fail
    go_ret
    exact ⟨rfl, hB4⟩
  · have E4 : Hid (∀ j, j < A.length → w5.cell? ⟨x2, o2 + j, none⟩ = some (.int .u8 (A.getD j 0))) := hw
    clear hw
    generalize A.length = n at *
    go_wp2_with fail
    go_loopw [7] (fun i wr => ∃ k q : Nat, k ≤ n ∧ i = .int .i64 k ∧ wr = w5.drewN q) (fun i _ => n - (intOf i).toNat)
    case atStart => exact ⟨0, 0, Nat.zero_le _, rfl, rfl⟩
    case round =>
      obtain ⟨k, q, hk, rfl, rfl⟩ := hrel
      by_cases hlt : k < n
      · have y1 := E3.out k hlt
        have y2 := E4.out k hlt
        generalize A.getD k 0 = z at y1 y2
        have hk1 : (k : Int) < (n : Int) + 2 := by omega
        have hk2 : (k : Int) < (n : Int) := by omega
        go_wp2_with fail
        go_quiet (fail)
        go_wp2_with fail
        go_roundw
        case rel => exact ⟨k + 1, _, by omega, by go_num, rfl⟩
        case measure => simp [intOf]; omega
      · obtain rfl : k = n := by omega
        go_wp2_with fail
        refine (newReader_any _ _ _ _).mono ?_
        rintro e X1 ⟨rfl, hr, hb⟩
        have hR : (w5.drewN q).heap.size = w5.heap.size := rfl
        have z1 := hb.size
        rw [hR] at hr hb z1 ⊢
        have d1 : X1.cell? ⟨x1, o1 + k, none⟩ = some (.int .u8 t) := (hb.cell (p := ⟨x1, o1 + k, none⟩) hx1).trans e1
        have d2 : X1.cell? ⟨x1, o1 + k + 1, none⟩ = some (.int .u8 1) := (hb.cell (p := ⟨x1, o1 + k + 1, none⟩) hx1).trans e2
        have hB1 : Below w'.heap.size w' X1 := (below_draws hbz q).trans (hb.mono (by show _ ≤ w5.heap.size; omega))
        have hRw : w'.heap.size ≤ w5.heap.size := by omega
        generalize w5.heap.size = R at *
        have hneR : x1 ≠ R := by omega
        have hu1 := u8_yes R x1 (o1 + k) 1 (c1 - k) t X1 (by omega) (by unfold maxLen; omega) hr d1 hneR
        clear hb hR e1 e2 hbz d1
        go_wp2_with fail
        refine hu1.mono ?_
        rintro e X2 ⟨rfl, q1, hr2, hq1, hg2⟩
        obtain rfl := hq1 (by omega)
        have hB2 : Below w'.heap.size w' X2 := hB1.grown hg2 (by have := hB1.size; omega) (fun b hb => by cases hb; exact hRw)
        have d3 : X2.cell? ⟨x1, o1 + k + 1, none⟩ = some (.int .u8 1) := hg2.cell d2 (by simpa using hneR)
        have hu2 := u8_yes R x1 (o1 + k + 1) 0 (c1 - k - 1) 1 X2 (by omega) (by unfold maxLen; omega) hr2 d3 hneR
        clear hu1 d2 hr hg2 hB1 hq1
        go_wp2_with fail
        refine hu2.mono ?_
        rintro e X3 ⟨rfl, q2, hr3, _, hg3⟩
        have hB3 : Below w'.heap.size w' X3 := hB2.grown hg3 (by have := hB2.size; omega) (fun b hb => by cases hb; exact hRw)
        have hE := (hB3.cell (p := ⟨0, 0, none⟩) h0).trans HG.out
        have hu3 := fun wx h => err_any R (.slice (some ⟨x1, q2, none⟩) 0 (c1 - k - 1 - 1)) .nilIface wx h
        have hu4 := u8_no R (c1 - k - 1 - 1) (some ⟨x1, q2, none⟩) (.iface T ex) T ex X3 hr3 rfl hE
        have HU3 : Hid _ := hu3
        clear hu2 d3 hr2 hg3 hB2 hu3 hE
        go_wp2_with fail
        refine (HU3.out _ hr3).mono ?_
        rintro e X3' ⟨rfl, rfl⟩
        go_wp2_with fail
        refine hu4.mono ?_
        rintro e X4 ⟨rfl, hr4, hg4⟩
        have hB4 : Below w'.heap.size w' X4 := hB3.grown hg4 (by have := hB3.size; omega) (fun b hb => by cases hb; exact hRw)
        have hu5 := err_any R _ _ X4 hr4
        have hu6 := rest_any R _ _ X4 hr4
        clear hu4 hr3 hg4 hB3 HU3
        go_wp2_with fail
        refine hu5.mono ?_
        rintro e X5 ⟨rfl, rfl⟩
        clear hu5
        go_wp2_with fail
        refine hu6.mono ?_
        rintro e X6 ⟨rfl, rfl⟩
        go_wp2_with fail
        go_ret
        exact ⟨rfl, hB4⟩

end Go.Proofs.Qxb6614586aDoor
