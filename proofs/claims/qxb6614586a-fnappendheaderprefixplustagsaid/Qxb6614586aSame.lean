/-
  zzBytes (4), zzSameBytes (7) at two headers.
-/
import Derived.Test.Qxb6614586aClone
import Derived.RegionTactic
import Derived.Deep.QuietTactic
import Derived.BigQuiet
namespace Go.Proofs.Qxb6614586a
open Go.ChangeShapes Go.WideShapes Go.RowKit

theorem zzBytes_any (a : Option Addr) (n cap : Nat) (t u : Int) (w : World) (hn : n ≤ maxLen) :
    Calls Try.prog 4 #[.slice a n cap, .int .u8 t, .int .u8 u] w fun e w' => e = .returned (.bool (decide ((n : Int) ≤ 1048576))) ∧ w' = w := by
  unfold maxLen at hn
  by_cases h : (n : Int) ≤ 1048576
  · have h' : ¬ (1048576 : Int) < (n : Int) := by omega
    rw [decide_eq_true h]
    go_enter Try.func4, Try.ntmps4
    go_wp2
    go_ret
    exact ⟨rfl, rfl⟩
  · have h' : (1048576 : Int) < (n : Int) := by omega
    rw [decide_eq_false h]
    go_enter Try.func4, Try.ntmps4
    go_wp2
    go_ret
    exact ⟨rfl, rfl⟩

set_option maxHeartbeats 2000000 in
theorem same_yes (g1 o1 c1 g2 o2 c2 : Nat) (t : Int) (w : World) (h1 : w.cell? ⟨g1, o1, none⟩ = some (.int .u8 t)) (h2 : w.cell? ⟨g1, o1 + 1, none⟩ = some (.int .u8 1)) (h3 : w.cell? ⟨g2, o2, none⟩ = some (.int .u8 t)) (h4 : w.cell? ⟨g2, o2 + 1, none⟩ = some (.int .u8 1)) :
    Calls Try.prog 7 #[.slice (some ⟨g1, o1, none⟩) 2 c1, .slice (some ⟨g2, o2, none⟩) 2 c2] w fun e w' => e = .returned (.bool true) ∧ ∃ q, w' = w.drewN q := by
  go_enter Try.func7, Try.ntmps7
  go_wp2
  refine wp_loop_rounds 3 ?_
  rw [rounds_succ]
  go_wp2
  go_quiet (fail)
  go_wp2
  rw [rounds_succ]
  go_wp2
  go_quiet (fail)
  go_wp2
  rw [rounds_succ]
  go_wp2
  go_ret
  exact ⟨rfl, _, rfl⟩

set_option maxHeartbeats 2000000 in
theorem same_no (g1 o1 c1 g2 o2 c2 : Nat) (t u : Int) (w : World) (hne : (t == u) = false) (h1 : w.cell? ⟨g1, o1, none⟩ = some (.int .u8 t)) (h3 : w.cell? ⟨g2, o2, none⟩ = some (.int .u8 u)) :
    Calls Try.prog 7 #[.slice (some ⟨g1, o1, none⟩) 2 c1, .slice (some ⟨g2, o2, none⟩) 2 c2] w fun e w' => e = .returned (.bool false) ∧ ∃ q, w' = w.drewN q := by
  have hb : (t != u) = true := by simp [bne, hne]
  go_enter Try.func7, Try.ntmps7
  go_wp2
  refine wp_loop_rounds 3 ?_
  rw [rounds_succ]
  go_wp2
  go_quiet (fail)
  go_wp2
  go_ret
  exact ⟨rfl, _, rfl⟩

end Go.Proofs.Qxb6614586a
