/-
  THE LEAVES OF THE ROAD: zzBytes (4), zzMarkIndex (8), zzWidth (11), zzCount (7).
-/
import Derived.Test.Qxb6614461aRows
import Derived.WalkKit
namespace Go.Proofs.Qxb6614461a
open Go.ChangeShapes Go.WideShapes Go.RowKit

theorem zzBytes_any (s : ByteArray) (a b c : Int) (w : World) (hs : s.size ≤ maxLen) :
    Calls Try.prog 4 #[.string s, .int .i64 a, .int .i64 b, .int .i64 c] w fun e w' => e = .returned (.bool (decide ((s.size : Int) ≤ 1048576))) ∧ w' = w := by
  unfold maxLen at hs
  by_cases h : (s.size : Int) ≤ 1048576
  · have h' : ¬ (1048576 : Int) < (s.size : Int) := by omega
    rw [decide_eq_true h]
    go_enter Try.func4, Try.ntmps4
    go_wp2
    go_ret
    exact ⟨rfl, rfl⟩
  · have h' : (1048576 : Int) < (s.size : Int) := by omega
    rw [decide_eq_false h]
    go_enter Try.func4, Try.ntmps4
    go_wp2
    go_ret
    exact ⟨rfl, rfl⟩

/-- zzMarkIndex, as plain mathematics. -/
def markIndex (k every col : Int) : Int :=
  if every < 1 ∨ col < 1 ∨ k < 1 then 0 else min ((col - 1) / every) ((k - 1) / every)

theorem ret_int {k : IntKind} {a b : Int} (h : a = b) : Ending.returned (.int k a) = .returned (.int k b) := by rw [h]

theorem zzMarkIndex_any (k e c : Int) (w : World) (hk : k ≤ 9223372036854775807) (he : e ≤ 9223372036854775807) (hc : c ≤ 9223372036854775807) :
    Calls Try.prog 8 #[.int .i64 k, .int .i64 e, .int .i64 c] w fun r w' => r = .returned (.int .i64 (markIndex k e c)) ∧ w' = w := by
  have h0 : e < 1 ∨ c < 1 ∨ k < 1 → 0 = markIndex k e c := fun h => by unfold markIndex; rw [if_pos h]
  have h1 : ¬ (e < 1 ∨ c < 1 ∨ k < 1) → min ((c - 1) / e) ((k - 1) / e) = markIndex k e c := fun h => by unfold markIndex; rw [if_neg h]
  generalize markIndex k e c = r at h0 h1 ⊢
  have H0 : Hid _ := h0
  have H1 : Hid _ := h1
  clear h0 h1
  by_cases he1 : e < 1
  · go_enter Try.func8, Try.ntmps8
    go_wp2
    go_ret
    exact ⟨ret_int (H0.out (by omega)), rfl⟩
  by_cases hc1 : c < 1
  · go_enter Try.func8, Try.ntmps8
    go_wp2
    go_ret
    exact ⟨ret_int (H0.out (by omega)), rfl⟩
  by_cases hk1 : k < 1
  · go_enter Try.func8, Try.ntmps8
    go_wp2
    go_ret
    exact ⟨ret_int (H0.out (by omega)), rfl⟩
  by_cases hm : (k - 1) / e < (c - 1) / e
  · go_enter Try.func8, Try.ntmps8
    go_wp2
    go_ret
    exact ⟨ret_int (by rw [← H1.out (by omega)]; omega), rfl⟩
  · go_enter Try.func8, Try.ntmps8
    go_wp2
    go_ret
    exact ⟨ret_int (by rw [← H1.out (by omega)]; omega), rfl⟩

/-- The tail of zzWidth: 'size' bytes are wanted; the second lies between lo and hi, each later one between 128 and 191. -/
def chk (g : Nat → Int) (i n size : Nat) (lo hi : Int) : Int × Int :=
  if n < i + size then (1, 1) else
  if g (i + 1) < lo ∨ hi < g (i + 1) then (1, 1) else
  if (List.range size).all (fun m => decide (m < 2 ∨ (128 ≤ g (i + m) ∧ g (i + m) ≤ 191))) = true then (if size = 4 then (4, 2) else (size, 1)) else (1, 1)

/-- zzWidth, as plain mathematics: g: the bytes; i: the place; n: the line's end. -/
def wd (g : Nat → Int) (i n : Nat) : Int × Int :=
  if g i < 194 then (1, 1) else
  if g i ≤ 223 then chk g i n 2 128 191 else
  if g i = 224 then chk g i n 3 160 191 else
  if g i ≤ 236 then chk g i n 3 128 191 else
  if g i = 237 then chk g i n 3 128 159 else
  if g i ≤ 239 then chk g i n 3 128 191 else
  if g i = 240 then chk g i n 4 144 191 else
  if g i ≤ 243 then chk g i n 4 128 191 else
  if g i = 244 then chk g i n 4 128 143 else (1, 1)

/-- What a number that is not k says to a test by '=='. -/
theorem ne_b {c : Int} (k : Int) (h : c ≠ k) : (c == k) = false := beq_eq_false_iff_ne.2 h

theorem chk_short {g : Nat → Int} {i n size : Nat} {lo hi : Int} (h : n < i + size) : chk g i n size lo hi = (1, 1) := by unfold chk; rw [if_pos h]
theorem chk_second {g : Nat → Int} {i n size : Nat} {lo hi : Int} (h : g (i + 1) < lo ∨ hi < g (i + 1)) : chk g i n size lo hi = (1, 1) := by
  unfold chk
  by_cases hs : n < i + size
  · rw [if_pos hs]
  · rw [if_neg hs, if_pos h]
theorem chk_later {g : Nat → Int} {i n size : Nat} {lo hi : Int} (m : Nat) (h2 : 2 ≤ m) (hm : m < size) (h : g (i + m) < 128 ∨ 191 < g (i + m)) : chk g i n size lo hi = (1, 1) := by
  unfold chk; split
  · rfl
  · split
    · rfl
    · rw [if_neg]
      intro ha
      have := List.all_eq_true.1 ha m (List.mem_range.2 hm)
      simp at this
      omega
theorem chk_all {g : Nat → Int} {i n size : Nat} {lo hi : Int} (h : i + size ≤ n) (h1 : lo ≤ g (i + 1) ∧ g (i + 1) ≤ hi) (ha : ∀ m, 2 ≤ m → m < size → 128 ≤ g (i + m) ∧ g (i + m) ≤ 191) : chk g i n size lo hi = if size = 4 then (4, 2) else ((size : Int), 1) := by
  unfold chk
  rw [if_neg (by omega), if_neg (by omega), if_pos]
  rw [List.all_eq_true]
  intro m hm
  have hm := List.mem_range.1 hm
  have := ha m
  simp
  omega
theorem chk_all2 {g : Nat → Int} {i n : Nat} {lo hi : Int} (h : i + 2 ≤ n) (h1 : lo ≤ g (i + 1) ∧ g (i + 1) ≤ hi) : chk g i n 2 lo hi = (2, 1) := chk_all h h1 (fun m _ _ => by omega)
theorem chk_all3 {g : Nat → Int} {i n : Nat} {lo hi : Int} (h : i + 3 ≤ n) (h1 : lo ≤ g (i + 1) ∧ g (i + 1) ≤ hi) (h2 : 128 ≤ g (i + 2) ∧ g (i + 2) ≤ 191) : chk g i n 3 lo hi = (3, 1) :=
  chk_all h h1 (fun m _ _ => by
    obtain rfl : m = 2 := by omega
    exact h2)
theorem chk_all4 {g : Nat → Int} {i n : Nat} {lo hi : Int} (h : i + 4 ≤ n) (h1 : lo ≤ g (i + 1) ∧ g (i + 1) ≤ hi) (h2 : 128 ≤ g (i + 2) ∧ g (i + 2) ≤ 191) (h3 : 128 ≤ g (i + 3) ∧ g (i + 3) ≤ 191) : chk g i n 4 lo hi = (4, 2) :=
  chk_all h h1 (fun m _ _ => by
    rcases (show m = 2 ∨ m = 3 by omega) with rfl | rfl
    · exact h2
    · exact h3)

set_option maxHeartbeats 2000000 in
theorem zzWidth_2 (g : Nat → Int) (B off n cap i en : Nat) (w : World) (hn : n ≤ 1048576) (hen : en ≤ n) (hi : i < en) (hg : ∀ j, 0 ≤ g j ∧ g j ≤ 255)
    (hc : ∀ j, j < n → w.cell? ⟨B, off + j, none⟩ = some (.int .u8 (g j))) (c1 : 194 ≤ g i) (c2 : g i ≤ 223) :
    Calls Try.prog 11 #[.slice (some ⟨B, off, none⟩) n cap, .int .i64 i, .int .i64 en] w fun r w' => r = .returned (.tuple #[.int .i64 (chk g i en 2 128 191).1, .int .i64 (chk g i en 2 128 191).2]) ∧ w' = w := by
  have h0 := hc i (by omega)
  have h1 := hc (i + 1)
  have b224 := ne_b 224 (show g i ≠ 224 by omega)
  have b237 := ne_b 237 (show g i ≠ 237 by omega)
  have b238 := ne_b 238 (show g i ≠ 238 by omega)
  have b239 := ne_b 239 (show g i ≠ 239 by omega)
  have b240 := ne_b 240 (show g i ≠ 240 by omega)
  have b244 := ne_b 244 (show g i ≠ 244 by omega)
  clear hc
  have g0 := hg i
  have g1 := hg (i + 1)
  clear hg
  generalize hr : chk g i en 2 128 191 = r
  have H : Hid (chk g i en 2 128 191 = r) := hr
  clear hr
  by_cases hA : (en : Int) - (i : Int) < 2
  · clear h1
    go_enter Try.func11, Try.ntmps11
    go_wp2
    go_ret2
    have e : r = (1, 1) := by rw [← H.out]; exact chk_short (by omega)
    subst e
    exact ⟨rfl, rfl⟩
  have k1 : (i : Int) + 1 < (n : Int) := by omega
  replace h1 := h1 (by omega)
  by_cases hB : g (i + 1) < 128
  ·
    go_enter Try.func11, Try.ntmps11
    go_wp2
    go_ret2
    have e : r = (1, 1) := by rw [← H.out]; exact chk_second (.inl hB)
    subst e
    exact ⟨rfl, rfl⟩
  by_cases hC : 191 < g (i + 1)
  ·
    go_enter Try.func11, Try.ntmps11
    go_wp2
    go_ret2
    have e : r = (1, 1) := by rw [← H.out]; exact chk_second (.inr hC)
    subst e
    exact ⟨rfl, rfl⟩
  go_enter Try.func11, Try.ntmps11
  go_wp2
  refine wp_loop_rounds 1 ?_
  rw [rounds_succ]
  go_wp2
  go_ret2
  have e : r = (2, 1) := by rw [← H.out]; exact chk_all2 (by omega) (by omega)
  subst e
  exact ⟨rfl, rfl⟩

set_option maxHeartbeats 2000000 in
theorem zzWidth_E0 (g : Nat → Int) (B off n cap i en : Nat) (w : World) (hn : n ≤ 1048576) (hen : en ≤ n) (hi : i < en) (hg : ∀ j, 0 ≤ g j ∧ g j ≤ 255)
    (hc : ∀ j, j < n → w.cell? ⟨B, off + j, none⟩ = some (.int .u8 (g j))) (c1 : g i = 224) :
    Calls Try.prog 11 #[.slice (some ⟨B, off, none⟩) n cap, .int .i64 i, .int .i64 en] w fun r w' => r = .returned (.tuple #[.int .i64 (chk g i en 3 160 191).1, .int .i64 (chk g i en 3 160 191).2]) ∧ w' = w := by
  have h0 := hc i (by omega)
  have h1 := hc (i + 1)
  have h2 := hc (i + 2)
  have b224 : (g i == 224) = true := by rw [c1]; rfl
  have b237 := ne_b 237 (show g i ≠ 237 by omega)
  have b238 := ne_b 238 (show g i ≠ 238 by omega)
  have b239 := ne_b 239 (show g i ≠ 239 by omega)
  have b240 := ne_b 240 (show g i ≠ 240 by omega)
  have b244 := ne_b 244 (show g i ≠ 244 by omega)
  clear hc
  have g0 := hg i
  have g1 := hg (i + 1)
  have g2 := hg (i + 2)
  have c1a : 224 ≤ g i := by omega
  have c1b : g i ≤ 224 := by omega
  clear c1
  clear hg
  generalize hr : chk g i en 3 160 191 = r
  have H : Hid (chk g i en 3 160 191 = r) := hr
  clear hr
  by_cases hA : (en : Int) - (i : Int) < 3
  · clear h1 h2
    go_enter Try.func11, Try.ntmps11
    go_wp2
    go_ret2
    have e : r = (1, 1) := by rw [← H.out]; exact chk_short (by omega)
    subst e
    exact ⟨rfl, rfl⟩
  have k1 : (i : Int) + 1 < (n : Int) := by omega
  replace h1 := h1 (by omega)
  have k2 : (i : Int) + 2 < (n : Int) := by omega
  replace h2 := h2 (by omega)
  by_cases hB : g (i + 1) < 160
  ·
    go_enter Try.func11, Try.ntmps11
    go_wp2
    go_ret2
    have e : r = (1, 1) := by rw [← H.out]; exact chk_second (.inl hB)
    subst e
    exact ⟨rfl, rfl⟩
  by_cases hC : 191 < g (i + 1)
  ·
    go_enter Try.func11, Try.ntmps11
    go_wp2
    go_ret2
    have e : r = (1, 1) := by rw [← H.out]; exact chk_second (.inr hC)
    subst e
    exact ⟨rfl, rfl⟩
  by_cases hD : g (i + 2) < 128
  ·
    go_enter Try.func11, Try.ntmps11
    go_wp2
    refine wp_loop_rounds 1 ?_
    rw [rounds_succ]
    go_wp2
    go_ret2
    have e : r = (1, 1) := by rw [← H.out]; exact chk_later 2 (by omega) (by omega) (.inl hD)
    subst e
    exact ⟨rfl, rfl⟩
  by_cases hE : 191 < g (i + 2)
  ·
    go_enter Try.func11, Try.ntmps11
    go_wp2
    refine wp_loop_rounds 1 ?_
    rw [rounds_succ]
    go_wp2
    go_ret2
    have e : r = (1, 1) := by rw [← H.out]; exact chk_later 2 (by omega) (by omega) (.inr hE)
    subst e
    exact ⟨rfl, rfl⟩
  go_enter Try.func11, Try.ntmps11
  go_wp2
  refine wp_loop_rounds 2 ?_
  rw [rounds_succ]
  go_wp2
  rw [rounds_succ]
  go_wp2
  go_ret2
  have e : r = (3, 1) := by rw [← H.out]; exact chk_all3 (by omega) (by omega) (by omega)
  subst e
  exact ⟨rfl, rfl⟩

set_option maxHeartbeats 2000000 in
theorem zzWidth_E1 (g : Nat → Int) (B off n cap i en : Nat) (w : World) (hn : n ≤ 1048576) (hen : en ≤ n) (hi : i < en) (hg : ∀ j, 0 ≤ g j ∧ g j ≤ 255)
    (hc : ∀ j, j < n → w.cell? ⟨B, off + j, none⟩ = some (.int .u8 (g j))) (c1 : 225 ≤ g i) (c2 : g i ≤ 236) :
    Calls Try.prog 11 #[.slice (some ⟨B, off, none⟩) n cap, .int .i64 i, .int .i64 en] w fun r w' => r = .returned (.tuple #[.int .i64 (chk g i en 3 128 191).1, .int .i64 (chk g i en 3 128 191).2]) ∧ w' = w := by
  have h0 := hc i (by omega)
  have h1 := hc (i + 1)
  have h2 := hc (i + 2)
  have b224 := ne_b 224 (show g i ≠ 224 by omega)
  have b237 := ne_b 237 (show g i ≠ 237 by omega)
  have b238 := ne_b 238 (show g i ≠ 238 by omega)
  have b239 := ne_b 239 (show g i ≠ 239 by omega)
  have b240 := ne_b 240 (show g i ≠ 240 by omega)
  have b244 := ne_b 244 (show g i ≠ 244 by omega)
  clear hc
  have g0 := hg i
  have g1 := hg (i + 1)
  have g2 := hg (i + 2)
  clear hg
  generalize hr : chk g i en 3 128 191 = r
  have H : Hid (chk g i en 3 128 191 = r) := hr
  clear hr
  by_cases hA : (en : Int) - (i : Int) < 3
  · clear h1 h2
    go_enter Try.func11, Try.ntmps11
    go_wp2
    go_ret2
    have e : r = (1, 1) := by rw [← H.out]; exact chk_short (by omega)
    subst e
    exact ⟨rfl, rfl⟩
  have k1 : (i : Int) + 1 < (n : Int) := by omega
  replace h1 := h1 (by omega)
  have k2 : (i : Int) + 2 < (n : Int) := by omega
  replace h2 := h2 (by omega)
  by_cases hB : g (i + 1) < 128
  ·
    go_enter Try.func11, Try.ntmps11
    go_wp2
    go_ret2
    have e : r = (1, 1) := by rw [← H.out]; exact chk_second (.inl hB)
    subst e
    exact ⟨rfl, rfl⟩
  by_cases hC : 191 < g (i + 1)
  ·
    go_enter Try.func11, Try.ntmps11
    go_wp2
    go_ret2
    have e : r = (1, 1) := by rw [← H.out]; exact chk_second (.inr hC)
    subst e
    exact ⟨rfl, rfl⟩
  by_cases hD : g (i + 2) < 128
  ·
    go_enter Try.func11, Try.ntmps11
    go_wp2
    refine wp_loop_rounds 1 ?_
    rw [rounds_succ]
    go_wp2
    go_ret2
    have e : r = (1, 1) := by rw [← H.out]; exact chk_later 2 (by omega) (by omega) (.inl hD)
    subst e
    exact ⟨rfl, rfl⟩
  by_cases hE : 191 < g (i + 2)
  ·
    go_enter Try.func11, Try.ntmps11
    go_wp2
    refine wp_loop_rounds 1 ?_
    rw [rounds_succ]
    go_wp2
    go_ret2
    have e : r = (1, 1) := by rw [← H.out]; exact chk_later 2 (by omega) (by omega) (.inr hE)
    subst e
    exact ⟨rfl, rfl⟩
  go_enter Try.func11, Try.ntmps11
  go_wp2
  refine wp_loop_rounds 2 ?_
  rw [rounds_succ]
  go_wp2
  rw [rounds_succ]
  go_wp2
  go_ret2
  have e : r = (3, 1) := by rw [← H.out]; exact chk_all3 (by omega) (by omega) (by omega)
  subst e
  exact ⟨rfl, rfl⟩

set_option maxHeartbeats 2000000 in
theorem zzWidth_ED (g : Nat → Int) (B off n cap i en : Nat) (w : World) (hn : n ≤ 1048576) (hen : en ≤ n) (hi : i < en) (hg : ∀ j, 0 ≤ g j ∧ g j ≤ 255)
    (hc : ∀ j, j < n → w.cell? ⟨B, off + j, none⟩ = some (.int .u8 (g j))) (c1 : g i = 237) :
    Calls Try.prog 11 #[.slice (some ⟨B, off, none⟩) n cap, .int .i64 i, .int .i64 en] w fun r w' => r = .returned (.tuple #[.int .i64 (chk g i en 3 128 159).1, .int .i64 (chk g i en 3 128 159).2]) ∧ w' = w := by
  have h0 := hc i (by omega)
  have h1 := hc (i + 1)
  have h2 := hc (i + 2)
  have b224 := ne_b 224 (show g i ≠ 224 by omega)
  have b237 : (g i == 237) = true := by rw [c1]; rfl
  have b238 := ne_b 238 (show g i ≠ 238 by omega)
  have b239 := ne_b 239 (show g i ≠ 239 by omega)
  have b240 := ne_b 240 (show g i ≠ 240 by omega)
  have b244 := ne_b 244 (show g i ≠ 244 by omega)
  clear hc
  have g0 := hg i
  have g1 := hg (i + 1)
  have g2 := hg (i + 2)
  have c1a : 237 ≤ g i := by omega
  have c1b : g i ≤ 237 := by omega
  clear c1
  clear hg
  generalize hr : chk g i en 3 128 159 = r
  have H : Hid (chk g i en 3 128 159 = r) := hr
  clear hr
  by_cases hA : (en : Int) - (i : Int) < 3
  · clear h1 h2
    go_enter Try.func11, Try.ntmps11
    go_wp2
    go_ret2
    have e : r = (1, 1) := by rw [← H.out]; exact chk_short (by omega)
    subst e
    exact ⟨rfl, rfl⟩
  have k1 : (i : Int) + 1 < (n : Int) := by omega
  replace h1 := h1 (by omega)
  have k2 : (i : Int) + 2 < (n : Int) := by omega
  replace h2 := h2 (by omega)
  by_cases hB : g (i + 1) < 128
  ·
    go_enter Try.func11, Try.ntmps11
    go_wp2
    go_ret2
    have e : r = (1, 1) := by rw [← H.out]; exact chk_second (.inl hB)
    subst e
    exact ⟨rfl, rfl⟩
  by_cases hC : 159 < g (i + 1)
  ·
    go_enter Try.func11, Try.ntmps11
    go_wp2
    go_ret2
    have e : r = (1, 1) := by rw [← H.out]; exact chk_second (.inr hC)
    subst e
    exact ⟨rfl, rfl⟩
  by_cases hD : g (i + 2) < 128
  ·
    go_enter Try.func11, Try.ntmps11
    go_wp2
    refine wp_loop_rounds 1 ?_
    rw [rounds_succ]
    go_wp2
    go_ret2
    have e : r = (1, 1) := by rw [← H.out]; exact chk_later 2 (by omega) (by omega) (.inl hD)
    subst e
    exact ⟨rfl, rfl⟩
  by_cases hE : 191 < g (i + 2)
  ·
    go_enter Try.func11, Try.ntmps11
    go_wp2
    refine wp_loop_rounds 1 ?_
    rw [rounds_succ]
    go_wp2
    go_ret2
    have e : r = (1, 1) := by rw [← H.out]; exact chk_later 2 (by omega) (by omega) (.inr hE)
    subst e
    exact ⟨rfl, rfl⟩
  go_enter Try.func11, Try.ntmps11
  go_wp2
  refine wp_loop_rounds 2 ?_
  rw [rounds_succ]
  go_wp2
  rw [rounds_succ]
  go_wp2
  go_ret2
  have e : r = (3, 1) := by rw [← H.out]; exact chk_all3 (by omega) (by omega) (by omega)
  subst e
  exact ⟨rfl, rfl⟩

set_option maxHeartbeats 2000000 in
theorem zzWidth_EE (g : Nat → Int) (B off n cap i en : Nat) (w : World) (hn : n ≤ 1048576) (hen : en ≤ n) (hi : i < en) (hg : ∀ j, 0 ≤ g j ∧ g j ≤ 255)
    (hc : ∀ j, j < n → w.cell? ⟨B, off + j, none⟩ = some (.int .u8 (g j))) (c1 : g i = 238) :
    Calls Try.prog 11 #[.slice (some ⟨B, off, none⟩) n cap, .int .i64 i, .int .i64 en] w fun r w' => r = .returned (.tuple #[.int .i64 (chk g i en 3 128 191).1, .int .i64 (chk g i en 3 128 191).2]) ∧ w' = w := by
  have h0 := hc i (by omega)
  have h1 := hc (i + 1)
  have h2 := hc (i + 2)
  have b224 := ne_b 224 (show g i ≠ 224 by omega)
  have b237 := ne_b 237 (show g i ≠ 237 by omega)
  have b238 : (g i == 238) = true := by rw [c1]; rfl
  have b239 := ne_b 239 (show g i ≠ 239 by omega)
  have b240 := ne_b 240 (show g i ≠ 240 by omega)
  have b244 := ne_b 244 (show g i ≠ 244 by omega)
  clear hc
  have g0 := hg i
  have g1 := hg (i + 1)
  have g2 := hg (i + 2)
  have c1a : 238 ≤ g i := by omega
  have c1b : g i ≤ 238 := by omega
  clear c1
  clear hg
  generalize hr : chk g i en 3 128 191 = r
  have H : Hid (chk g i en 3 128 191 = r) := hr
  clear hr
  by_cases hA : (en : Int) - (i : Int) < 3
  · clear h1 h2
    go_enter Try.func11, Try.ntmps11
    go_wp2
    go_ret2
    have e : r = (1, 1) := by rw [← H.out]; exact chk_short (by omega)
    subst e
    exact ⟨rfl, rfl⟩
  have k1 : (i : Int) + 1 < (n : Int) := by omega
  replace h1 := h1 (by omega)
  have k2 : (i : Int) + 2 < (n : Int) := by omega
  replace h2 := h2 (by omega)
  by_cases hB : g (i + 1) < 128
  ·
    go_enter Try.func11, Try.ntmps11
    go_wp2
    go_ret2
    have e : r = (1, 1) := by rw [← H.out]; exact chk_second (.inl hB)
    subst e
    exact ⟨rfl, rfl⟩
  by_cases hC : 191 < g (i + 1)
  ·
    go_enter Try.func11, Try.ntmps11
    go_wp2
    go_ret2
    have e : r = (1, 1) := by rw [← H.out]; exact chk_second (.inr hC)
    subst e
    exact ⟨rfl, rfl⟩
  by_cases hD : g (i + 2) < 128
  ·
    go_enter Try.func11, Try.ntmps11
    go_wp2
    refine wp_loop_rounds 1 ?_
    rw [rounds_succ]
    go_wp2
    go_ret2
    have e : r = (1, 1) := by rw [← H.out]; exact chk_later 2 (by omega) (by omega) (.inl hD)
    subst e
    exact ⟨rfl, rfl⟩
  by_cases hE : 191 < g (i + 2)
  ·
    go_enter Try.func11, Try.ntmps11
    go_wp2
    refine wp_loop_rounds 1 ?_
    rw [rounds_succ]
    go_wp2
    go_ret2
    have e : r = (1, 1) := by rw [← H.out]; exact chk_later 2 (by omega) (by omega) (.inr hE)
    subst e
    exact ⟨rfl, rfl⟩
  go_enter Try.func11, Try.ntmps11
  go_wp2
  refine wp_loop_rounds 2 ?_
  rw [rounds_succ]
  go_wp2
  rw [rounds_succ]
  go_wp2
  go_ret2
  have e : r = (3, 1) := by rw [← H.out]; exact chk_all3 (by omega) (by omega) (by omega)
  subst e
  exact ⟨rfl, rfl⟩

set_option maxHeartbeats 2000000 in
theorem zzWidth_EF (g : Nat → Int) (B off n cap i en : Nat) (w : World) (hn : n ≤ 1048576) (hen : en ≤ n) (hi : i < en) (hg : ∀ j, 0 ≤ g j ∧ g j ≤ 255)
    (hc : ∀ j, j < n → w.cell? ⟨B, off + j, none⟩ = some (.int .u8 (g j))) (c1 : g i = 239) :
    Calls Try.prog 11 #[.slice (some ⟨B, off, none⟩) n cap, .int .i64 i, .int .i64 en] w fun r w' => r = .returned (.tuple #[.int .i64 (chk g i en 3 128 191).1, .int .i64 (chk g i en 3 128 191).2]) ∧ w' = w := by
  have h0 := hc i (by omega)
  have h1 := hc (i + 1)
  have h2 := hc (i + 2)
  have b224 := ne_b 224 (show g i ≠ 224 by omega)
  have b237 := ne_b 237 (show g i ≠ 237 by omega)
  have b238 := ne_b 238 (show g i ≠ 238 by omega)
  have b239 : (g i == 239) = true := by rw [c1]; rfl
  have b240 := ne_b 240 (show g i ≠ 240 by omega)
  have b244 := ne_b 244 (show g i ≠ 244 by omega)
  clear hc
  have g0 := hg i
  have g1 := hg (i + 1)
  have g2 := hg (i + 2)
  have c1a : 239 ≤ g i := by omega
  have c1b : g i ≤ 239 := by omega
  clear c1
  clear hg
  generalize hr : chk g i en 3 128 191 = r
  have H : Hid (chk g i en 3 128 191 = r) := hr
  clear hr
  by_cases hA : (en : Int) - (i : Int) < 3
  · clear h1 h2
    go_enter Try.func11, Try.ntmps11
    go_wp2
    go_ret2
    have e : r = (1, 1) := by rw [← H.out]; exact chk_short (by omega)
    subst e
    exact ⟨rfl, rfl⟩
  have k1 : (i : Int) + 1 < (n : Int) := by omega
  replace h1 := h1 (by omega)
  have k2 : (i : Int) + 2 < (n : Int) := by omega
  replace h2 := h2 (by omega)
  by_cases hB : g (i + 1) < 128
  ·
    go_enter Try.func11, Try.ntmps11
    go_wp2
    go_ret2
    have e : r = (1, 1) := by rw [← H.out]; exact chk_second (.inl hB)
    subst e
    exact ⟨rfl, rfl⟩
  by_cases hC : 191 < g (i + 1)
  ·
    go_enter Try.func11, Try.ntmps11
    go_wp2
    go_ret2
    have e : r = (1, 1) := by rw [← H.out]; exact chk_second (.inr hC)
    subst e
    exact ⟨rfl, rfl⟩
  by_cases hD : g (i + 2) < 128
  ·
    go_enter Try.func11, Try.ntmps11
    go_wp2
    refine wp_loop_rounds 1 ?_
    rw [rounds_succ]
    go_wp2
    go_ret2
    have e : r = (1, 1) := by rw [← H.out]; exact chk_later 2 (by omega) (by omega) (.inl hD)
    subst e
    exact ⟨rfl, rfl⟩
  by_cases hE : 191 < g (i + 2)
  ·
    go_enter Try.func11, Try.ntmps11
    go_wp2
    refine wp_loop_rounds 1 ?_
    rw [rounds_succ]
    go_wp2
    go_ret2
    have e : r = (1, 1) := by rw [← H.out]; exact chk_later 2 (by omega) (by omega) (.inr hE)
    subst e
    exact ⟨rfl, rfl⟩
  go_enter Try.func11, Try.ntmps11
  go_wp2
  refine wp_loop_rounds 2 ?_
  rw [rounds_succ]
  go_wp2
  rw [rounds_succ]
  go_wp2
  go_ret2
  have e : r = (3, 1) := by rw [← H.out]; exact chk_all3 (by omega) (by omega) (by omega)
  subst e
  exact ⟨rfl, rfl⟩

set_option maxHeartbeats 2000000 in
theorem zzWidth_F0 (g : Nat → Int) (B off n cap i en : Nat) (w : World) (hn : n ≤ 1048576) (hen : en ≤ n) (hi : i < en) (hg : ∀ j, 0 ≤ g j ∧ g j ≤ 255)
    (hc : ∀ j, j < n → w.cell? ⟨B, off + j, none⟩ = some (.int .u8 (g j))) (c1 : g i = 240) :
    Calls Try.prog 11 #[.slice (some ⟨B, off, none⟩) n cap, .int .i64 i, .int .i64 en] w fun r w' => r = .returned (.tuple #[.int .i64 (chk g i en 4 144 191).1, .int .i64 (chk g i en 4 144 191).2]) ∧ w' = w := by
  have h0 := hc i (by omega)
  have h1 := hc (i + 1)
  have h2 := hc (i + 2)
  have h3 := hc (i + 3)
  have b224 := ne_b 224 (show g i ≠ 224 by omega)
  have b237 := ne_b 237 (show g i ≠ 237 by omega)
  have b238 := ne_b 238 (show g i ≠ 238 by omega)
  have b239 := ne_b 239 (show g i ≠ 239 by omega)
  have b240 : (g i == 240) = true := by rw [c1]; rfl
  have b244 := ne_b 244 (show g i ≠ 244 by omega)
  clear hc
  have g0 := hg i
  have g1 := hg (i + 1)
  have g2 := hg (i + 2)
  have g3 := hg (i + 3)
  have c1a : 240 ≤ g i := by omega
  have c1b : g i ≤ 240 := by omega
  clear c1
  clear hg
  generalize hr : chk g i en 4 144 191 = r
  have H : Hid (chk g i en 4 144 191 = r) := hr
  clear hr
  by_cases hA : (en : Int) - (i : Int) < 4
  · clear h1 h2 h3
    go_enter Try.func11, Try.ntmps11
    go_wp2
    go_ret2
    have e : r = (1, 1) := by rw [← H.out]; exact chk_short (by omega)
    subst e
    exact ⟨rfl, rfl⟩
  have k1 : (i : Int) + 1 < (n : Int) := by omega
  replace h1 := h1 (by omega)
  have k2 : (i : Int) + 2 < (n : Int) := by omega
  replace h2 := h2 (by omega)
  have k3 : (i : Int) + 3 < (n : Int) := by omega
  replace h3 := h3 (by omega)
  by_cases hB : g (i + 1) < 144
  ·
    go_enter Try.func11, Try.ntmps11
    go_wp2
    go_ret2
    have e : r = (1, 1) := by rw [← H.out]; exact chk_second (.inl hB)
    subst e
    exact ⟨rfl, rfl⟩
  by_cases hC : 191 < g (i + 1)
  ·
    go_enter Try.func11, Try.ntmps11
    go_wp2
    go_ret2
    have e : r = (1, 1) := by rw [← H.out]; exact chk_second (.inr hC)
    subst e
    exact ⟨rfl, rfl⟩
  by_cases hD : g (i + 2) < 128
  ·
    go_enter Try.func11, Try.ntmps11
    go_wp2
    refine wp_loop_rounds 1 ?_
    rw [rounds_succ]
    go_wp2
    go_ret2
    have e : r = (1, 1) := by rw [← H.out]; exact chk_later 2 (by omega) (by omega) (.inl hD)
    subst e
    exact ⟨rfl, rfl⟩
  by_cases hE : 191 < g (i + 2)
  ·
    go_enter Try.func11, Try.ntmps11
    go_wp2
    refine wp_loop_rounds 1 ?_
    rw [rounds_succ]
    go_wp2
    go_ret2
    have e : r = (1, 1) := by rw [← H.out]; exact chk_later 2 (by omega) (by omega) (.inr hE)
    subst e
    exact ⟨rfl, rfl⟩
  by_cases hF : g (i + 3) < 128
  ·
    go_enter Try.func11, Try.ntmps11
    go_wp2
    refine wp_loop_rounds 2 ?_
    rw [rounds_succ]
    go_wp2
    rw [rounds_succ]
    go_wp2
    go_ret2
    have e : r = (1, 1) := by rw [← H.out]; exact chk_later 3 (by omega) (by omega) (.inl hF)
    subst e
    exact ⟨rfl, rfl⟩
  by_cases hG : 191 < g (i + 3)
  ·
    go_enter Try.func11, Try.ntmps11
    go_wp2
    refine wp_loop_rounds 2 ?_
    rw [rounds_succ]
    go_wp2
    rw [rounds_succ]
    go_wp2
    go_ret2
    have e : r = (1, 1) := by rw [← H.out]; exact chk_later 3 (by omega) (by omega) (.inr hG)
    subst e
    exact ⟨rfl, rfl⟩
  go_enter Try.func11, Try.ntmps11
  go_wp2
  refine wp_loop_rounds 3 ?_
  rw [rounds_succ]
  go_wp2
  rw [rounds_succ]
  go_wp2
  rw [rounds_succ]
  go_wp2
  go_ret2
  have e : r = (4, 2) := by rw [← H.out]; exact chk_all4 (by omega) (by omega) (by omega) (by omega)
  subst e
  exact ⟨rfl, rfl⟩

set_option maxHeartbeats 2000000 in
theorem zzWidth_F1 (g : Nat → Int) (B off n cap i en : Nat) (w : World) (hn : n ≤ 1048576) (hen : en ≤ n) (hi : i < en) (hg : ∀ j, 0 ≤ g j ∧ g j ≤ 255)
    (hc : ∀ j, j < n → w.cell? ⟨B, off + j, none⟩ = some (.int .u8 (g j))) (c1 : 241 ≤ g i) (c2 : g i ≤ 243) :
    Calls Try.prog 11 #[.slice (some ⟨B, off, none⟩) n cap, .int .i64 i, .int .i64 en] w fun r w' => r = .returned (.tuple #[.int .i64 (chk g i en 4 128 191).1, .int .i64 (chk g i en 4 128 191).2]) ∧ w' = w := by
  have h0 := hc i (by omega)
  have h1 := hc (i + 1)
  have h2 := hc (i + 2)
  have h3 := hc (i + 3)
  have b224 := ne_b 224 (show g i ≠ 224 by omega)
  have b237 := ne_b 237 (show g i ≠ 237 by omega)
  have b238 := ne_b 238 (show g i ≠ 238 by omega)
  have b239 := ne_b 239 (show g i ≠ 239 by omega)
  have b240 := ne_b 240 (show g i ≠ 240 by omega)
  have b244 := ne_b 244 (show g i ≠ 244 by omega)
  clear hc
  have g0 := hg i
  have g1 := hg (i + 1)
  have g2 := hg (i + 2)
  have g3 := hg (i + 3)
  clear hg
  generalize hr : chk g i en 4 128 191 = r
  have H : Hid (chk g i en 4 128 191 = r) := hr
  clear hr
  by_cases hA : (en : Int) - (i : Int) < 4
  · clear h1 h2 h3
    go_enter Try.func11, Try.ntmps11
    go_wp2
    go_ret2
    have e : r = (1, 1) := by rw [← H.out]; exact chk_short (by omega)
    subst e
    exact ⟨rfl, rfl⟩
  have k1 : (i : Int) + 1 < (n : Int) := by omega
  replace h1 := h1 (by omega)
  have k2 : (i : Int) + 2 < (n : Int) := by omega
  replace h2 := h2 (by omega)
  have k3 : (i : Int) + 3 < (n : Int) := by omega
  replace h3 := h3 (by omega)
  by_cases hB : g (i + 1) < 128
  ·
    go_enter Try.func11, Try.ntmps11
    go_wp2
    go_ret2
    have e : r = (1, 1) := by rw [← H.out]; exact chk_second (.inl hB)
    subst e
    exact ⟨rfl, rfl⟩
  by_cases hC : 191 < g (i + 1)
  ·
    go_enter Try.func11, Try.ntmps11
    go_wp2
    go_ret2
    have e : r = (1, 1) := by rw [← H.out]; exact chk_second (.inr hC)
    subst e
    exact ⟨rfl, rfl⟩
  by_cases hD : g (i + 2) < 128
  ·
    go_enter Try.func11, Try.ntmps11
    go_wp2
    refine wp_loop_rounds 1 ?_
    rw [rounds_succ]
    go_wp2
    go_ret2
    have e : r = (1, 1) := by rw [← H.out]; exact chk_later 2 (by omega) (by omega) (.inl hD)
    subst e
    exact ⟨rfl, rfl⟩
  by_cases hE : 191 < g (i + 2)
  ·
    go_enter Try.func11, Try.ntmps11
    go_wp2
    refine wp_loop_rounds 1 ?_
    rw [rounds_succ]
    go_wp2
    go_ret2
    have e : r = (1, 1) := by rw [← H.out]; exact chk_later 2 (by omega) (by omega) (.inr hE)
    subst e
    exact ⟨rfl, rfl⟩
  by_cases hF : g (i + 3) < 128
  ·
    go_enter Try.func11, Try.ntmps11
    go_wp2
    refine wp_loop_rounds 2 ?_
    rw [rounds_succ]
    go_wp2
    rw [rounds_succ]
    go_wp2
    go_ret2
    have e : r = (1, 1) := by rw [← H.out]; exact chk_later 3 (by omega) (by omega) (.inl hF)
    subst e
    exact ⟨rfl, rfl⟩
  by_cases hG : 191 < g (i + 3)
  ·
    go_enter Try.func11, Try.ntmps11
    go_wp2
    refine wp_loop_rounds 2 ?_
    rw [rounds_succ]
    go_wp2
    rw [rounds_succ]
    go_wp2
    go_ret2
    have e : r = (1, 1) := by rw [← H.out]; exact chk_later 3 (by omega) (by omega) (.inr hG)
    subst e
    exact ⟨rfl, rfl⟩
  go_enter Try.func11, Try.ntmps11
  go_wp2
  refine wp_loop_rounds 3 ?_
  rw [rounds_succ]
  go_wp2
  rw [rounds_succ]
  go_wp2
  rw [rounds_succ]
  go_wp2
  go_ret2
  have e : r = (4, 2) := by rw [← H.out]; exact chk_all4 (by omega) (by omega) (by omega) (by omega)
  subst e
  exact ⟨rfl, rfl⟩

set_option maxHeartbeats 2000000 in
theorem zzWidth_F4 (g : Nat → Int) (B off n cap i en : Nat) (w : World) (hn : n ≤ 1048576) (hen : en ≤ n) (hi : i < en) (hg : ∀ j, 0 ≤ g j ∧ g j ≤ 255)
    (hc : ∀ j, j < n → w.cell? ⟨B, off + j, none⟩ = some (.int .u8 (g j))) (c1 : g i = 244) :
    Calls Try.prog 11 #[.slice (some ⟨B, off, none⟩) n cap, .int .i64 i, .int .i64 en] w fun r w' => r = .returned (.tuple #[.int .i64 (chk g i en 4 128 143).1, .int .i64 (chk g i en 4 128 143).2]) ∧ w' = w := by
  have h0 := hc i (by omega)
  have h1 := hc (i + 1)
  have h2 := hc (i + 2)
  have h3 := hc (i + 3)
  have b224 := ne_b 224 (show g i ≠ 224 by omega)
  have b237 := ne_b 237 (show g i ≠ 237 by omega)
  have b238 := ne_b 238 (show g i ≠ 238 by omega)
  have b239 := ne_b 239 (show g i ≠ 239 by omega)
  have b240 := ne_b 240 (show g i ≠ 240 by omega)
  have b244 : (g i == 244) = true := by rw [c1]; rfl
  clear hc
  have g0 := hg i
  have g1 := hg (i + 1)
  have g2 := hg (i + 2)
  have g3 := hg (i + 3)
  have c1a : 244 ≤ g i := by omega
  have c1b : g i ≤ 244 := by omega
  clear c1
  clear hg
  generalize hr : chk g i en 4 128 143 = r
  have H : Hid (chk g i en 4 128 143 = r) := hr
  clear hr
  by_cases hA : (en : Int) - (i : Int) < 4
  · clear h1 h2 h3
    go_enter Try.func11, Try.ntmps11
    go_wp2
    go_ret2
    have e : r = (1, 1) := by rw [← H.out]; exact chk_short (by omega)
    subst e
    exact ⟨rfl, rfl⟩
  have k1 : (i : Int) + 1 < (n : Int) := by omega
  replace h1 := h1 (by omega)
  have k2 : (i : Int) + 2 < (n : Int) := by omega
  replace h2 := h2 (by omega)
  have k3 : (i : Int) + 3 < (n : Int) := by omega
  replace h3 := h3 (by omega)
  by_cases hB : g (i + 1) < 128
  ·
    go_enter Try.func11, Try.ntmps11
    go_wp2
    go_ret2
    have e : r = (1, 1) := by rw [← H.out]; exact chk_second (.inl hB)
    subst e
    exact ⟨rfl, rfl⟩
  by_cases hC : 143 < g (i + 1)
  ·
    go_enter Try.func11, Try.ntmps11
    go_wp2
    go_ret2
    have e : r = (1, 1) := by rw [← H.out]; exact chk_second (.inr hC)
    subst e
    exact ⟨rfl, rfl⟩
  by_cases hD : g (i + 2) < 128
  ·
    go_enter Try.func11, Try.ntmps11
    go_wp2
    refine wp_loop_rounds 1 ?_
    rw [rounds_succ]
    go_wp2
    go_ret2
    have e : r = (1, 1) := by rw [← H.out]; exact chk_later 2 (by omega) (by omega) (.inl hD)
    subst e
    exact ⟨rfl, rfl⟩
  by_cases hE : 191 < g (i + 2)
  ·
    go_enter Try.func11, Try.ntmps11
    go_wp2
    refine wp_loop_rounds 1 ?_
    rw [rounds_succ]
    go_wp2
    go_ret2
    have e : r = (1, 1) := by rw [← H.out]; exact chk_later 2 (by omega) (by omega) (.inr hE)
    subst e
    exact ⟨rfl, rfl⟩
  by_cases hF : g (i + 3) < 128
  ·
    go_enter Try.func11, Try.ntmps11
    go_wp2
    refine wp_loop_rounds 2 ?_
    rw [rounds_succ]
    go_wp2
    rw [rounds_succ]
    go_wp2
    go_ret2
    have e : r = (1, 1) := by rw [← H.out]; exact chk_later 3 (by omega) (by omega) (.inl hF)
    subst e
    exact ⟨rfl, rfl⟩
  by_cases hG : 191 < g (i + 3)
  ·
    go_enter Try.func11, Try.ntmps11
    go_wp2
    refine wp_loop_rounds 2 ?_
    rw [rounds_succ]
    go_wp2
    rw [rounds_succ]
    go_wp2
    go_ret2
    have e : r = (1, 1) := by rw [← H.out]; exact chk_later 3 (by omega) (by omega) (.inr hG)
    subst e
    exact ⟨rfl, rfl⟩
  go_enter Try.func11, Try.ntmps11
  go_wp2
  refine wp_loop_rounds 3 ?_
  rw [rounds_succ]
  go_wp2
  rw [rounds_succ]
  go_wp2
  rw [rounds_succ]
  go_wp2
  go_ret2
  have e : r = (4, 2) := by rw [← H.out]; exact chk_all4 (by omega) (by omega) (by omega) (by omega)
  subst e
  exact ⟨rfl, rfl⟩

set_option maxHeartbeats 1000000 in
theorem zzWidth_any (g : Nat → Int) (B off n cap i en : Nat) (w : World) (hn : n ≤ 1048576) (hen : en ≤ n) (hi : i < en) (hg : ∀ j, 0 ≤ g j ∧ g j ≤ 255)
    (hc : ∀ j, j < n → w.cell? ⟨B, off + j, none⟩ = some (.int .u8 (g j))) :
    Calls Try.prog 11 #[.slice (some ⟨B, off, none⟩) n cap, .int .i64 i, .int .i64 en] w fun r w' => r = .returned (.tuple #[.int .i64 (wd g i en).1, .int .i64 (wd g i en).2]) ∧ w' = w := by
  by_cases c1 : g i < 194 ∨ 244 < g i
  · have e1 : wd g i en = (1, 1) := by
      unfold wd
      by_cases c2 : g i < 194
      · rw [if_pos c2]
      · rw [if_neg c2, if_neg (by omega), if_neg (by omega), if_neg (by omega), if_neg (by omega), if_neg (by omega), if_neg (by omega), if_neg (by omega), if_neg (by omega)]
    rw [e1]
    have h0 := hc i (by omega)
    have g0 := hg i
    have b224 := ne_b 224 (show g i ≠ 224 by omega)
    have b237 := ne_b 237 (show g i ≠ 237 by omega)
    have b238 := ne_b 238 (show g i ≠ 238 by omega)
    have b239 := ne_b 239 (show g i ≠ 239 by omega)
    have b240 := ne_b 240 (show g i ≠ 240 by omega)
    have b244 := ne_b 244 (show g i ≠ 244 by omega)
    clear hc hg e1
    rcases (show g i < 128 ∨ (128 ≤ g i ∧ g i < 194) ∨ 244 < g i by omega) with c2 | c2 | c2
    all_goals
      go_enter Try.func11, Try.ntmps11
      go_wp2
      go_ret2
      exact ⟨rfl, rfl⟩
  · unfold wd
    rw [if_neg (by omega)]
    by_cases c2 : g i ≤ 223
    · rw [if_pos c2]; exact zzWidth_2 g B off n cap i en w hn hen hi hg hc (by omega) c2
    rw [if_neg c2]
    by_cases c3 : g i = 224
    · rw [if_pos c3]; exact zzWidth_E0 g B off n cap i en w hn hen hi hg hc c3
    rw [if_neg c3]
    by_cases c4 : g i ≤ 236
    · rw [if_pos c4]; exact zzWidth_E1 g B off n cap i en w hn hen hi hg hc (by omega) c4
    rw [if_neg c4]
    by_cases c5 : g i = 237
    · rw [if_pos c5]; exact zzWidth_ED g B off n cap i en w hn hen hi hg hc c5
    rw [if_neg c5]
    by_cases c6 : g i ≤ 239
    · rw [if_pos c6]
      by_cases c7 : g i = 238
      · exact zzWidth_EE g B off n cap i en w hn hen hi hg hc c7
      · exact zzWidth_EF g B off n cap i en w hn hen hi hg hc (by omega)
    rw [if_neg c6]
    by_cases c8 : g i = 240
    · rw [if_pos c8]; exact zzWidth_F0 g B off n cap i en w hn hen hi hg hc c8
    rw [if_neg c8]
    by_cases c9 : g i ≤ 243
    · rw [if_pos c9]; exact zzWidth_F1 g B off n cap i en w hn hen hi hg hc (by omega) c9
    rw [if_neg c9]
    rw [if_pos (show g i = 244 by omega)]
    exact zzWidth_F4 g B off n cap i en w hn hen hi hg hc (by omega)

theorem chk_bd (g : Nat → Int) (i n size : Nat) (lo hi : Int) (h1 : 1 ≤ size) (h4 : size ≤ 4) (hi1 : i < n) : 1 ≤ (chk g i n size lo hi).1 ∧ (i : Int) + (chk g i n size lo hi).1 ≤ n ∧ 1 ≤ (chk g i n size lo hi).2 ∧ (chk g i n size lo hi).2 ≤ 2 := by
  by_cases hs : n < i + size
  · rw [chk_short hs]; simp; omega
  · by_cases hb : g (i + 1) < lo ∨ hi < g (i + 1)
    · rw [chk_second hb]; simp; omega
    · unfold chk
      rw [if_neg hs, if_neg hb]
      split
      · split
        · simp; omega
        · simp; omega
      · simp; omega

/-- A code point is at least one byte long and ends within the line; it takes one unit or two. -/
theorem wd_bd (g : Nat → Int) (i n : Nat) (h : i < n) : 1 ≤ (wd g i n).1 ∧ (i : Int) + (wd g i n).1 ≤ n ∧ 1 ≤ (wd g i n).2 ∧ (wd g i n).2 ≤ 2 := by
  have key : ∀ (c : Prop) [Decidable c] (x y : Int × Int), (1 ≤ x.1 ∧ (i : Int) + x.1 ≤ n ∧ 1 ≤ x.2 ∧ x.2 ≤ 2) → (1 ≤ y.1 ∧ (i : Int) + y.1 ≤ n ∧ 1 ≤ y.2 ∧ y.2 ≤ 2) → 1 ≤ (if c then x else y).1 ∧ (i : Int) + (if c then x else y).1 ≤ n ∧ 1 ≤ (if c then x else y).2 ∧ (if c then x else y).2 ≤ 2 := by
    intro c _ x y hx hy
    by_cases hc : c
    · rw [if_pos hc]; exact hx
    · rw [if_neg hc]; exact hy
  have one : 1 ≤ ((1, 1) : Int × Int).1 ∧ (i : Int) + ((1, 1) : Int × Int).1 ≤ n ∧ 1 ≤ ((1, 1) : Int × Int).2 ∧ ((1, 1) : Int × Int).2 ≤ 2 := by simp; omega
  have ch := fun size lo hi h1 h4 => chk_bd g i n size lo hi h1 h4 h
  unfold wd
  refine key _ _ _ one ?_
  refine key _ _ _ (ch 2 128 191 (by omega) (by omega)) ?_
  refine key _ _ _ (ch 3 160 191 (by omega) (by omega)) ?_
  refine key _ _ _ (ch 3 128 191 (by omega) (by omega)) ?_
  refine key _ _ _ (ch 3 128 159 (by omega) (by omega)) ?_
  refine key _ _ _ (ch 3 128 191 (by omega) (by omega)) ?_
  refine key _ _ _ (ch 4 144 191 (by omega) (by omega)) ?_
  refine key _ _ _ (ch 4 128 191 (by omega) (by omega)) ?_
  refine key _ _ _ (ch 4 128 143 (by omega) (by omega)) one

end Go.Proofs.Qxb6614461a
