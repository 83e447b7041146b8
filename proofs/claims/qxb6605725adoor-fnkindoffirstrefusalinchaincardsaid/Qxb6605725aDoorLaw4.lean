/-
  The law (4), walked; zzBytes (9).
-/
import Derived.Test.Qxb6605725aDoorChain
namespace Go.Proofs.Qxb6605725aDoor
open Go.RowKit Go.Extern.Stop Go.Stop Go.Extern

/-- A boolean is returned. -/
def IsBool (e : Ending) : Prop := ∃ b, e = .returned (.bool b)

set_option maxHeartbeats 2000000 in
theorem zzBytes4_any (s0 : ByteArray) (k1 : Int) (s1 : ByteArray) (k2 : Int) (s2 : ByteArray) (w : World) (h0 : s0.size ≤ maxLen) (h1 : s1.size ≤ maxLen) (h2 : s2.size ≤ maxLen) :
    Calls Tryd.prog 9 #[.string s0, .int .i64 k1, .string s1, .int .i64 k2, .string s2] w fun e w' => IsBool e ∧ w' = w := by
  unfold maxLen at h0 h1 h2
  go_enter Tryd.func9, Tryd.ntmps9
  by_cases c0 : (1048576 : Int) < (s0.size : Int)
  · go_wp2
    go_ret
    exact ⟨⟨_, rfl⟩, rfl⟩
  by_cases c1 : (1048576 : Int) < (s1.size : Int)
  · go_wp2
    go_ret
    exact ⟨⟨_, rfl⟩, rfl⟩
  by_cases d1 : (1048576 : Int) < (s0.size : Int) + (s1.size : Int)
  · go_wp2
    go_ret
    exact ⟨⟨_, rfl⟩, rfl⟩
  by_cases c2 : (1048576 : Int) < (s2.size : Int)
  · go_wp2
    go_ret
    exact ⟨⟨_, rfl⟩, rfl⟩
  by_cases d2 : (1048576 : Int) < (s0.size : Int) + (s1.size : Int) + (s2.size : Int)
  · go_wp2
    go_ret
    exact ⟨⟨_, rfl⟩, rfl⟩
  · go_wp2
    go_ret
    exact ⟨⟨_, rfl⟩, rfl⟩

set_option maxHeartbeats 2000000 in
theorem law4 (o : ByteArray) (k1 : Int) (m1 : ByteArray) (k2 : Int) (m2 : ByteArray) (w : World) (h0 : o.size ≤ maxLen) (h1 : m1.size ≤ maxLen) (h2 : m2.size ≤ maxLen) (hg : Var0 w) :
    Calls Tryd.prog 4 #[.string o, .int .i64 k1, .string m1, .int .i64 k2, .string m2] w fun e w' => e = .returned (.bool true) ∧ Below w.heap.size w w' := by
  have hcon := zzBytes4_any o k1 m1 k2 m2 w h0 h1 h2
  have c1 := joined_any o k1 m1 k2 m2 w hg
  have HG : Hid (Var0 w) := hg
  have hpos := hg.pos
  unfold maxLen at h0 h1 h2
  clear hg
  go_enter Tryd.func4, Tryd.ntmps4
  go_wp2_with fail
  refine hcon.mono ?_
  rintro e w' ⟨⟨b, rfl⟩, rfl⟩
  clear hcon
  cases b
  · go_wp2_with fail
    go_ret
    exact ⟨rfl, Below.refl _ _⟩
  by_cases p0 : (65536 : Int) < (o.size : Int)
  · go_wp2_with fail
    go_ret
    exact ⟨rfl, Below.refl _ _⟩
  by_cases p1 : (65536 : Int) < (m1.size : Int)
  · go_wp2_with fail
    go_ret
    exact ⟨rfl, Below.refl _ _⟩
  by_cases p2 : (65536 : Int) < (m2.size : Int)
  · go_wp2_with fail
    go_ret
    exact ⟨rfl, Below.refl _ _⟩
  go_wp2_with fail
  refine c1.mono ?_
  rintro e X1 ⟨rfl, hb1⟩
  have hg1 := HG.out.below hb1 hpos
  have c2 := joined_any o k2 m2 k1 m1 X1 hg1
  have HG1 : Hid (Var0 X1) := hg1
  have z1 := hb1.size
  clear c1 hg1
  go_wp2_with fail
  refine c2.mono ?_
  rintro e X2 ⟨rfl, hb2⟩
  have c3 := joined_plain_any o m1 X2 (HG1.out.below hb2 (by omega))
  have z2 := hb2.size
  clear c2
  go_wp2_with fail
  refine c3.mono ?_
  rintro e X3 ⟨rfl, hb3⟩
  have hb : Below w'.heap.size w' X3 := (hb1.trans (hb2.mono z1)).trans (hb3.mono (by omega))
  clear c3 hb1 hb2 hb3
  go_wp2_with fail
  go_ret
  exact ⟨rfl, hb⟩

end Go.Proofs.Qxb6605725aDoor
