/-
  zzBuild (6): a Text over the bytes, its marks laid every E code points.
-/
import Derived.Test.Qxb6614461aMarks
import Derived.Test.Qxb6614461aCount
namespace Go.Proofs.Qxb6614461a
open Go.ChangeShapes Go.WideShapes Go.RowKit

/-- All the marks of a line. -/
def lm (g : Nat → Int) (E : Nat) (p : Nat × Nat) : List (Int × Int × Int) := mks g p.1 p.2 E (p.2 - p.1)

theorem pos_stop {g : Nat → Int} {st en k : Nat} (h : ¬ pos g st en k < en) : pos g st en (k + 1) = pos g st en k := by
  show (if _ then _ else _) = _
  rw [if_neg h]
theorem mks_stop {g : Nat → Int} {st en E k : Nat} (h : ¬ ((k + 1) % E = 0 ∧ pos g st en (k + 1) < en)) : mks g st en E (k + 1) = mks g st en E k := by
  show (if _ then _ else _) = _
  rw [if_neg h]
theorem mks_step {g : Nat → Int} {st en E k : Nat} (h : (k + 1) % E = 0 ∧ pos g st en (k + 1) < en) : mks g st en E (k + 1) = mks g st en E k ++ [spotAt g st en (k + 1)] := by
  show (if _ then _ else _) = _
  rw [if_pos h]
theorem pos_stays {g : Nat → Int} {st en K : Nat} (h : pos g st en K = en) (d : Nat) : pos g st en (K + d) = en := by
  induction d with
  | zero => exact h
  | succ d ih => rw [← Nat.add_assoc, pos_stop (by omega)]; exact ih
theorem mks_stays {g : Nat → Int} {st en E K : Nat} (h : pos g st en K = en) (d : Nat) : mks g st en E (K + d) = mks g st en E K := by
  induction d with
  | zero => rfl
  | succ d ih =>
    have hp := pos_stays h (d + 1)
    rw [← Nat.add_assoc] at hp ⊢
    rw [mks_stop (fun hx => by omega)]
    exact ih
theorem lm_eq {g : Nat → Int} {E K : Nat} {p : Nat × Nat} (h : pos g p.1 p.2 K = p.2) (hK : K ≤ p.2 - p.1) : lm g E p = mks g p.1 p.2 E K := by
  unfold lm
  rw [show p.2 - p.1 = K + (p.2 - p.1 - K) by omega]
  exact mks_stays h _

/-- What a row of numbers that is not empty looks like; where it lies is a letter. -/
theorem Row.form {w : World} {base : Nat} {v : Value} {A : List Int} (h : Row w base v A) (hA : 0 < A.length) :
    ∃ b o cap, v = .slice (some ⟨b, o, none⟩) A.length cap ∧ base ≤ b ∧ b < w.heap.size ∧ ∀ j, j < A.length → w.cell? ⟨b, o + j, none⟩ = some (.int .i64 (A.getD j 0)) := by
  obtain ⟨g, cap, hv, hb, hl⟩ := World.ownsRow.form h hA
  subst hv
  refine ⟨g, 0, cap, rfl, hb, hl, fun j hj => ?_⟩
  have := World.ownsRow.cells h (g := g) rfl j (.int .i64 (A.getD j 0)) (by simp [List.getElem?_map, List.getD_eq_getElem?_getD, List.getElem?_eq_getElem hj])
  have e : (⟨g, 0, none⟩ : Addr).add j = ⟨g, 0 + j, none⟩ := by unfold Addr.add; split <;> simp_all
  rw [e] at this
  exact this

theorem fsts_getD (L : List (Nat × Nat)) (j : Nat) (h : j < L.length) : (fsts L).getD j 0 = ((L.getD j (0, 0)).1 : Int) := by
  simp [fsts, List.getD_eq_getElem?_getD, List.getElem?_eq_getElem h]
theorem snds_getD (L : List (Nat × Nat)) (j : Nat) (h : j < L.length) : (snds L).getD j 0 = ((L.getD j (0, 0)).2 : Int) := by
  simp [snds, List.getD_eq_getElem?_getD, List.getElem?_eq_getElem h]
theorem lbs_at (g : Nat → Int) (n j : Nat) (h : j < (lbs g n).length) : ((lbs g n).getD j (0, 0)).1 ≤ ((lbs g n).getD j (0, 0)).2 ∧ ((lbs g n).getD j (0, 0)).2 ≤ n := by
  rw [List.getD_eq_getElem?_getD, List.getElem?_eq_getElem h]
  exact lbs_bd g n _ (List.getElem_mem h)

theorem Marks.none (w : World) (T : Nat) : Marks w T 0 (.map .none) (fun _ => .slice .none 0 0) (fun _ => []) :=
  ⟨.inl ⟨rfl, fun _ => rfl⟩, fun _ => World.ownsRow_nil _ _ _ _, fun _ _ _ => apart_nil _⟩

/-- What stands when the lines below c have their marks. -/
def Lined (g : Nat → Int) (E n c : Nat) (L : Int → List (Int × Int × Int)) : Prop := (∀ j : Nat, j < c → L j = lm g E ((lbs g n).getD j (0, 0))) ∧ ∀ j : Int, (c : Int) ≤ j → L j = []

theorem le_zero {k a : Nat} (h : k ≤ a) : k ≤ a + 0 := h

set_option maxHeartbeats 8000000 in
theorem zzBuild_small (g : Nat → Int) (B off n cap : Nat) (every : Int) (w : World) (hn : n ≤ 1048576) (hB : B < w.heap.size) (he : every < 1)
    (hc : ∀ j, j < n → w.cell? ⟨B, off + j, none⟩ = some (.int .u8 (g j))) :
    Calls Try.prog 6 #[.slice (some ⟨B, off, none⟩) n cap, .int .i64 every] w fun r w' => ∃ T lv mv V k, r = .returned (.pointer (some ⟨T, 0, none⟩)) ∧ w.heap.size ≤ T ∧ TextAt w' T (.slice (some ⟨B, off, none⟩) n cap) lv mv ∧ Marks w' T k mv V (fun _ => []) ∧ Below w.heap.size w w' := by
  have hcon := zzLineBounds_any g B off n cap w hn hB hc
  have hlen := lbs_len g n
  have hpos : 0 < (lbs g n).length := by unfold lbs; simp
  have l1 := fsts_len (lbs g n)
  have l2 := snds_len (lbs g n)
  generalize fsts (lbs g n) = A at hcon l1
  generalize snds (lbs g n) = F at hcon l2
  generalize (lbs g n).length = m at *
  go_enter Try.func6, Try.ntmps6
  go_wp2_with fail
  refine hcon.mono ?_
  rintro e w1 ⟨v1, v2, rfl, hr1, hr2, hap, hb⟩
  obtain ⟨b1, o1, c1, rfl, hb1, hl1, hc1⟩ := hr1.form (by omega)
  obtain ⟨b2, o2, c2, rfl, hb2, hl2, hc2⟩ := hr2.form (by omega)
  rw [l1] at hc1 ⊢
  rw [l2] at hc2 ⊢
  have hcon2 := newText_any (some ⟨B, off, none⟩) n cap (fun j => A.getD j 0) (fun j => F.getD j 0) b1 o1 c1 b2 o2 c2 m w1 (by omega) hl1 hl2 hc1 hc2
  clear hc1 hc2 hr1 hr2 hap hcon hc
  go_wp2_with fail
  refine hcon2.mono ?_
  rintro e w2 ⟨lv, rfl, ht, hb'⟩
  clear hcon2
  have hs := hb.size
  go_wp2_with fail
  go_ret
  exact ⟨_, lv, _, _, 0, rfl, hs, ht, Marks.none _ _, hb.trans (hb'.mono hs)⟩

set_option maxHeartbeats 8000000 in
theorem zzBuild_marks (g : Nat → Int) (B off n cap E : Nat) (w : World) (hn : n ≤ 1048576) (hg : ∀ j, 0 ≤ g j ∧ g j ≤ 255) (hB : B < w.heap.size) (hE : 1 ≤ E) (hEm : (E : Int) ≤ 9223372036854775807)
    (hc : ∀ j, j < n → w.cell? ⟨B, off + j, none⟩ = some (.int .u8 (g j))) :
    Calls Try.prog 6 #[.slice (some ⟨B, off, none⟩) n cap, .int .i64 E] w fun r w' => ∃ T lv mv V k L, r = .returned (.pointer (some ⟨T, 0, none⟩)) ∧ w.heap.size ≤ T ∧ TextAt w' T (.slice (some ⟨B, off, none⟩) n cap) lv mv ∧ Marks w' T k mv V L ∧ Lined g E n (lbs g n).length L ∧ Below w.heap.size w w' := by
  have hcon := zzLineBounds_any g B off n cap w hn hB hc
  have hlen := lbs_len g n
  have hpos : 0 < (lbs g n).length := by unfold lbs; simp
  have l1 := fsts_len (lbs g n)
  have l2 := snds_len (lbs g n)
  have HF : Hid (∀ j, j < (lbs g n).length → (fsts (lbs g n)).getD j 0 = (((lbs g n).getD j (0, 0)).1 : Int)) := fsts_getD _
  have HS : Hid (∀ j, j < (lbs g n).length → (snds (lbs g n)).getD j 0 = (((lbs g n).getD j (0, 0)).2 : Int)) := snds_getD _
  have HB : Hid (∀ j, j < (lbs g n).length → ((lbs g n).getD j (0, 0)).1 ≤ ((lbs g n).getD j (0, 0)).2 ∧ ((lbs g n).getD j (0, 0)).2 ≤ n) := lbs_at g n
  generalize fsts (lbs g n) = A at hcon l1 HF
  generalize snds (lbs g n) = F at hcon l2 HS
  generalize (lbs g n).length = m at *
  have hE1 : decide ((E : Int) < 1) = false := decide_eq_false (by omega)
  go_enter Try.func6, Try.ntmps6
  go_wp2_with fail
  refine hcon.mono ?_
  rintro e w1 ⟨v1, v2, rfl, hr1, hr2, hap, hb⟩
  obtain ⟨b1, o1, c1, rfl, hb1, hl1, hc1⟩ := hr1.form (by omega)
  obtain ⟨b2, o2, c2, rfl, hb2, hl2, hc2⟩ := hr2.form (by omega)
  rw [l1] at hc1 ⊢
  rw [l2] at hc2 ⊢
  have hcon2 := newText_any (some ⟨B, off, none⟩) n cap (fun j => A.getD j 0) (fun j => F.getD j 0) b1 o1 c1 b2 o2 c2 m w1 (by omega) hl1 hl2 hc1 hc2
  have hs := hb.size
  have C1 : Hid (∀ j, j < m → w1.cell? ⟨b1, o1 + j, none⟩ = some (.int .i64 (((lbs g n).getD j (0, 0)).1 : Int))) := fun j hj => by rw [← HF.out j hj]; exact hc1 j hj
  have C2 : Hid (∀ j, j < m → w1.cell? ⟨b2, o2 + j, none⟩ = some (.int .i64 (((lbs g n).getD j (0, 0)).2 : Int))) := fun j hj => by rw [← HS.out j hj]; exact hc2 j hj
  have C0 : Hid (∀ j, j < n → w1.cell? ⟨B, off + j, none⟩ = some (.int .u8 (g j))) := fun j hj => (hb.cell (by exact hB)).trans (hc j hj)
  clear hc1 hc2 hr1 hr2 hap hcon hc HF HS l1 l2
  go_wp2_with fail
  refine hcon2.mono ?_
  rintro e w2 ⟨lv, rfl, ht, hb'⟩
  clear hcon2
  go_wp2_with fail
  have HBm := hb
  clear hb
  go_loopw [8] (fun s8 wr => ∃ (c k : Nat) (mv : Value) (V : Int → Value) (L : Int → List (Int × Int × Int)), c ≤ m ∧ s8 = .int .i64 c ∧ TextAt wr w1.heap.size (.slice (some ⟨B, off, none⟩) n cap) lv mv ∧ Marks wr w1.heap.size k mv V L ∧ Lined g E n c L ∧ k ≤ c * 1048577 ∧ Below w1.heap.size w1 wr)
    (fun s8 _ => m - (intOf s8).toNat)
  case atStart => exact ⟨0, 0, _, _, _, Nat.zero_le _, rfl, ht, Marks.none _ _, ⟨fun j hj => by omega, fun _ _ => rfl⟩, Nat.zero_le _, hb'⟩
  case round =>
    clear ht hb'
    obtain ⟨c, k, mv, V, L, hcm, rfl, ht, hM, hL, hk, hb⟩ := hrel
    by_cases hlt : c < m
    · have x1 : wr.cell? ⟨b1, o1 + c, none⟩ = some (.int .i64 (((lbs g n).getD c (0, 0)).1 : Int)) := (hb.cell (by exact hl1)).trans (C1.out c hlt)
      have D2 : Hid (w1.cell? ⟨b2, o2 + c, none⟩ = some (.int .i64 (((lbs g n).getD c (0, 0)).2 : Int))) := C2.out c hlt
      have hbd := HB.out c hlt
      have HL1 : Hid (∀ j : Nat, j < c → L j = lm g E ((lbs g n).getD j (0, 0))) := hL.1
      have HL2 : Hid (∀ j : Int, (c : Int) + 1 ≤ j → L j = []) := fun j hj => hL.2 j (by omega)
      have HL0 : Hid (L c = []) := hL.2 c (Int.le_refl _)
      obtain ⟨q, hq⟩ : ∃ q, q = (lbs g n).getD c (0, 0) := ⟨_, rfl⟩
      rw [← hq] at x1 D2 hbd
      have Hq : Hid (q = (lbs g n).getD c (0, 0)) := hq
      clear hq hL
      obtain ⟨st, en⟩ := q
      simp only at x1 D2 hbd
      obtain ⟨K, hK, hKl, hKn⟩ := points_ex g hbd.1
      have HK : Hid (pos g st en K = en) := hK
      have HKl : Hid (∀ j, j < K → pos g st en j < en) := hKl
      clear hK hKl
      go_wp2_with fail
      go_loopw [9, 10, 11] (fun s9 s10 s11 wx => ∃ (t p k : Nat) (u : Int) (mv : Value) (V : Int → Value) (L : Int → List (Int × Int × Int)), t ≤ K ∧ s9 = .int .i64 p ∧ s10 = .int .i64 t ∧ s11 = .int .i64 u ∧ Hid (p = pos g st en t) ∧ Hid (u = uts g st en t) ∧ TextAt wx w1.heap.size (.slice (some ⟨B, off, none⟩) n cap) lv mv ∧ Marks wx w1.heap.size k mv V L ∧
          Hid (L c = mks g st en E t) ∧ Hid (∀ j : Nat, j < c → L j = lm g E ((lbs g n).getD j (0, 0))) ∧ Hid (∀ j : Int, (c : Int) + 1 ≤ j → L j = []) ∧ k ≤ c * 1048577 + t ∧ Below w1.heap.size w1 wx)
        (fun _ s10 _ _ => K - (intOf s10).toNat)
      case atStart => exact ⟨0, st, k, 0, mv, V, L, Nat.zero_le _, rfl, rfl, rfl, rfl, rfl, ht, hM, HL0, HL1, HL2, le_zero hk, hb⟩
      case round =>
        clear ht hM HL0 HL1 HL2 hk hb x1
        obtain ⟨t, p, k, u, mv, V, L, htK, rfl, rfl, rfl, Hp, Hu, ht, hM, HL0, HL1, HL2, hk, hb⟩ := hrel
        by_cases hlt2 : t < K
        · have hpe : p < en := by rw [Hp.out]; exact HKl.out t hlt2
          have x2 : wr.cell? ⟨b2, o2 + c, none⟩ = some (.int .i64 (en : Int)) := (hb.cell (by exact hl2)).trans D2.out
          have hub : 0 ≤ u ∧ u ≤ 2 * t := by rw [Hu.out]; exact uts_bd g st en t
          have hw := wd_bd g p en hpe
          have Hs : Hid (pos g st en (t + 1) = p + (wd g p en).1.toNat) := by
            have := pos_succ (HKl.out t hlt2)
            rw [← Hp.out] at this
            exact this
          have Hv : Hid (uts g st en (t + 1) = u + (wd g p en).2) := by
            have := uts_succ (HKl.out t hlt2)
            rw [← Hp.out, ← Hu.out] at this
            exact this
          have hcon := zzWidth_any g B off n cap p en wr hn (by omega) hpe hg (fun j hj => (hb.cell (by exact Nat.lt_of_lt_of_le hB hs)).trans (C0.out j hj))
          generalize wd g p en = r at hw Hs Hv hcon
          obtain ⟨r1, r2⟩ := r
          simp only at hw Hs Hv hcon
          have hlm : (L c).length ≤ t := by rw [HL0.out]; exact mks_len g st en E t
          have hkm : k < maxLen := by unfold maxLen; omega
          have hwc : (Lit.int .i64 (c : Int)).wf = true := WalkArith.wf_i64 (by omega)
          by_cases hmod : (t + 1) % E = 0
          · have hmb : ((((t : Int) + 1) % (E : Int)) == 0) = true := by
              rw [beq_iff_eq]
              have : (((t + 1) % E : Nat) : Int) = 0 := by omega
              rw [← this]; simp
            by_cases hlt3 : (p : Int) + r1 < en
            · have hcon2 := fun wx ht hM => addMark_any (c : Int) ((p : Int) + r1) ((t : Int) + 1) (u + r2) w1.heap.size k (.slice (some ⟨B, off, none⟩) n cap) lv mv V L wx hwc hkm (by omega) ht hM
              have Hst : Hid (mks g st en E (t + 1) = mks g st en E t ++ [((p : Int) + r1, (t : Int) + 1, u + r2)]) := by
                have h1 : pos g st en (t + 1) < en := by rw [Hs.out]; omega
                have h2 := mks_step (E := E) ⟨hmod, h1⟩
                have h3 : spotAt g st en (t + 1) = ((p : Int) + r1, (t : Int) + 1, u + r2) := by
                  unfold spotAt
                  rw [Hs.out, Hv.out]
                  simp
                  omega
                rw [h3] at h2
                exact h2
              have Hmod : Hid ((t + 1) % E = 0) := hmod
              clear hmod hwc hkm
              have HC2 : Hid _ := hcon2
              clear hcon2
              go_wp2_with (go_at_call 11; refine hcon.mono ?_; rintro e w' ⟨rfl, rfl⟩)
              refine (HC2.out _ ht hM).mono ?_
              rintro e w3 ⟨rfl, mv', V', ht', hM', hb3⟩
              clear hcon x2 ht hM
              go_wp2_with fail
              go_roundw
              case rel => exact ⟨t + 1, p + r1.toNat, k + 1, u + r2, mv', V', _, by omega, by congr 1; omega, by go_num, rfl, Hs.out.symm, Hv.out.symm, ht', hM', by unfold Hid; rw [upd_same, HL0.out, Hst.out], fun j hj => (upd_other _ _ (by omega)).trans (HL1.out j hj), fun j hj => (upd_other _ _ (by omega)).trans (HL2.out j hj), by omega, hb.trans hb3⟩
              case measure => simp [intOf]; omega
            · have Hst : Hid (mks g st en E (t + 1) = mks g st en E t) := mks_stop (fun hx => by have := hx.2; rw [Hs.out] at this; omega)
              clear hmod hwc hkm
              go_wp2_with (go_at_call 11; refine hcon.mono ?_; rintro e w' ⟨rfl, rfl⟩)
              go_roundw
              case rel => exact ⟨t + 1, p + r1.toNat, k, u + r2, mv, V, L, by omega, by congr 1; omega, by go_num, rfl, Hs.out.symm, Hv.out.symm, ht, hM, by unfold Hid; rw [HL0.out, Hst.out], HL1, HL2, by omega, hb⟩
              case measure => simp [intOf]; omega
          · have hmb : ((((t : Int) + 1) % (E : Int)) == 0) = false := by
              rw [beq_eq_false_iff_ne]
              intro h0
              have : (((t + 1) % E : Nat) : Int) = ((t : Int) + 1) % (E : Int) := by simp
              omega
            have Hst : Hid (mks g st en E (t + 1) = mks g st en E t) := mks_stop (fun hx => hmod hx.1)
            clear hmod hwc hkm
            go_wp2_with (go_at_call 11; refine hcon.mono ?_; rintro e w' ⟨rfl, rfl⟩)
            go_roundw
            case rel => exact ⟨t + 1, p + r1.toNat, k, u + r2, mv, V, L, by omega, by congr 1; omega, by go_num, rfl, Hs.out.symm, Hv.out.symm, ht, hM, by unfold Hid; rw [HL0.out, Hst.out], HL1, HL2, by omega, hb⟩
            case measure => simp [intOf]; omega
        · obtain rfl : t = K := by omega
          have hpe : p = en := by rw [Hp.out]; exact HK.out
          have x2 : wr.cell? ⟨b2, o2 + c, none⟩ = some (.int .i64 (en : Int)) := (hb.cell (by exact hl2)).trans D2.out
          have hLn : Lined g E n (c + 1) L := by
            refine ⟨fun j hj => ?_, fun j hj => HL2.out j (by omega)⟩
            by_cases e : j = c
            · subst e
              rw [HL0.out, ← Hq.out, lm_eq (K := t) HK.out hKn]
            · exact HL1.out j (by omega)
          subst hpe
          go_wp2_with fail
          go_roundw
          case rel => exact ⟨c + 1, k, mv, V, L, by omega, by go_num, ht, hM, hLn, by omega, hb⟩
          case measure => simp [intOf]; omega
    · obtain rfl : c = m := by omega
      go_wp2_with fail
      go_ret
      exact ⟨_, lv, mv, V, k, L, rfl, hs, ht, hM, hL, HBm.trans (hb.mono hs)⟩

end Go.Proofs.Qxb6614461a
