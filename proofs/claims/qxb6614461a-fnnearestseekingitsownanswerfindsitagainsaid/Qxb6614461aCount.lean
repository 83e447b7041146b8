/-
  zzCount (7), zzLineBounds (5).
-/
import Derived.Test.Qxb6614461aPlain
import Derived.WalkKit
namespace Go.Proofs.Qxb6614461a
open Go.ChangeShapes Go.WideShapes Go.RowKit

set_option maxHeartbeats 1000000 in
theorem zzCount_any (g : Nat → Int) (B off n cap st en K : Nat) (w : World) (hn : n ≤ 1048576) (hen : en ≤ n) (hst : st ≤ en) (hg : ∀ j, 0 ≤ g j ∧ g j ≤ 255)
    (hc : ∀ j, j < n → w.cell? ⟨B, off + j, none⟩ = some (.int .u8 (g j))) (hK : pos g st en K = en) (hlt : ∀ j, j < K → pos g st en j < en) :
    Calls Try.prog 7 #[.slice (some ⟨B, off, none⟩) n cap, .int .i64 st, .int .i64 en] w fun r w' => r = .returned (.int .i64 K) ∧ w' = w := by
  have hKn := pos_ge g st en K hlt
  have HK : Hid (pos g st en K = en) := hK
  have HL : Hid (∀ j, j < K → pos g st en j < en) := hlt
  have HC : Hid (∀ j, j < n → w.cell? ⟨B, off + j, none⟩ = some (.int .u8 (g j))) := hc
  have hKn' : K ≤ 1048576 := by omega
  clear hK hlt hKn hc
  go_enter Try.func7, Try.ntmps7
  go_wp2
  go_loop [7, 8] (fun k i => ∃ m p : Nat, m ≤ K ∧ Hid (p = pos g st en m) ∧ k = .int .i64 m ∧ i = .int .i64 p) (fun k _ => K - (intOf k).toNat)
  case atStart => exact ⟨0, st, Nat.zero_le _, rfl, rfl, rfl⟩
  case round =>
    obtain ⟨m, p, hm, hp, rfl, rfl⟩ := hrel
    by_cases hlt : m < K
    · have hpe : p < en := by rw [hp.out]; exact HL.out m hlt
      have hw := wd_bd g p en hpe
      have hs : Hid (pos g st en (m + 1) = p + (wd g p en).1.toNat) := by
        have := pos_succ (HL.out m hlt)
        rw [← hp.out] at this
        exact this
      have hcon := zzWidth_any g B off n cap p en w hn hen hpe hg HC.out
      generalize wd g p en = r at hw hs hcon
      obtain ⟨r1, r2⟩ := r
      simp only at hw hs hcon
      go_wp2_with (go_at_call 11; refine hcon.mono ?_; rintro e w' ⟨rfl, rfl⟩)
      go_round
      case rel => exact ⟨m + 1, p + r1.toNat, by omega, hs.out.symm, by go_num, by congr 1; omega⟩
      case measure => simp [intOf]; omega
    · obtain rfl : m = K := by omega
      have hpe : p = en := by rw [hp.out]; exact HK.out
      subst hpe
      go_wp2
      go_ret
      exact ⟨rfl, rfl⟩

end Go.Proofs.Qxb6614461a
