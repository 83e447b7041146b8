/-
  decimalOf (9): a string of digits.
-/
import Derived.Test.Qxb6614599aWords
import Derived.Laws.IdiomStrings
import Derived.Lib.SmallJoins
namespace Go.Proofs.Qxb6614599a
open Go.ChangeShapes Go.WideShapes Go.RowKit

/-- What decimalOf hands back: digits, at least one, at most 24. -/
def Digits (t : ByteArray) : Prop := 1 ≤ t.size ∧ t.size ≤ 24 ∧ allCode t.data.toList = true

theorem decimal_zero (n : Int) (w : World) (h : n ≤ 0) : Calls Try.prog 9 #[.int .i64 n] w fun e w' => (∃ t, e = .returned (.string t) ∧ Digits t) ∧ Below w.heap.size w w' := by
  go_enter Try.func9, Try.ntmps9
  go_wp2_with fail
  go_ret
  exact ⟨⟨_, rfl, by decide, by decide, by decide⟩, Below.refl _ _⟩

theorem dig_step {y : Int} {i : Nat} (hi : 17 ≤ i) (hy : 1 ≤ y) (h : y < (10 : Int) ^ (i - 17)) : 18 ≤ i ∧ y / 10 < (10 : Int) ^ (i - 1 - 17) := by
  have h18 : 18 ≤ i := by
    rcases Nat.lt_or_ge i 18 with h1 | h1
    · obtain rfl : i = 17 := by omega
      simp at h
      omega
    · exact h1
  refine ⟨h18, ?_⟩
  obtain ⟨k, rfl⟩ : ∃ k, i = k + 18 := ⟨i - 18, by omega⟩
  have e1 : k + 18 - 17 = k + 1 := by omega
  have e2 : k + 18 - 1 - 17 = k := by omega
  rw [e1, Int.pow_succ] at h
  rw [e2]
  generalize (10 : Int) ^ k = z at h ⊢
  omega

/-- The buffer from place i on: digits. -/
structure Buf (W : World) (B i : Nat) (cs : Array Value) (D : Nat → UInt8) : Prop where
  block : W.heap[B]? = some (.cells cs 28 (0, 0))
  size : cs.size = 24
  dig : ∀ j, i ≤ j → j < 24 → cs[j]? = some (.int .u8 ((D j).toNat : Int)) ∧ 48 ≤ (D j).toNat ∧ (D j).toNat ≤ 57

theorem Buf.step {W : World} {B i : Nat} {cs : Array Value} {D : Nat → UInt8} (h : Buf W B i cs D) (hi : 1 ≤ i) (hi2 : i ≤ 24) {d : Int} (h0 : 0 ≤ d) (h9 : d ≤ 9) :
    Buf (W.setCell ⟨B, i - 1, none⟩ (.int .u8 (48 + d))) B (i - 1) (cs.setIfInBounds (i - 1) (.int .u8 (48 + d))) (fun j => if j = i - 1 then UInt8.ofNat (48 + d).toNat else D j) := by
  refine ⟨Joins.block_setCell h.block _, by simp [h.size], fun j h1 h2 => ?_⟩
  by_cases e : j = i - 1
  · subst e
    have hs := h.size
    have hto : (UInt8.ofNat (48 + d).toNat).toNat = (48 + d).toNat := by
      rw [UInt8.toNat_ofNat']
      omega
    simp only [if_pos]
    rw [hto]
    refine ⟨?_, by omega, by omega⟩
    rw [Array.getElem?_setIfInBounds_self_of_lt (by omega)]
    congr 2
    omega
  · simp only [if_neg e]
    rw [Array.getElem?_setIfInBounds_ne (fun h => e h.symm)]
    exact h.dig j (by omega) h2

/-- The digits as a list of bytes. -/
def digs (D : Nat → UInt8) (i : Nat) : List UInt8 := (List.range (24 - i)).map (fun j => D (i + j))
theorem digs_len (D : Nat → UInt8) (i : Nat) : (digs D i).length = 24 - i := by simp [digs]
theorem Buf.digits {W : World} {B i : Nat} {cs : Array Value} {D : Nat → UInt8} (h : Buf W B i cs D) (h1 : i < 24) : Digits ⟨(digs D i).toArray⟩ := by
  have hl := digs_len D i
  refine ⟨by show 1 ≤ (digs D i).toArray.size; simp; omega, by show (digs D i).toArray.size ≤ 24; simp; omega, ?_⟩
  unfold allCode
  rw [List.all_eq_true]
  intro x hx
  simp [digs] at hx
  obtain ⟨j, hj, rfl⟩ := hx
  have := h.dig (i + j) (by omega) (by omega)
  exact code_yes (by omega)
theorem Buf.conv {W : World} {B i : Nat} {cs : Array Value} {D : Nat → UInt8} (h : Buf W B i cs D) : (convert 29 9 (.slice (some ⟨B, i, none⟩) (24 - i) (24 - i))).run Try.prog W = .ok (.string ⟨(digs D i).toArray⟩) W := by
  have := run_convert_bytes_back (P := Try.prog) W 29 9 5 ⟨B, i, none⟩ (24 - i) (digs D i) Try.underlying29 Try.underlying5 Try.underlying9 (fun j hj => by
    have hl := digs_len D i
    have e : (⟨B, i, none⟩ : Addr).add j = ⟨B, i + j, none⟩ := by unfold Addr.add; split <;> simp_all
    rw [e, Joins.cell_of_block h.block, (h.dig (i + j) (by omega) (by omega)).1]
    simp [digs])
  rwa [digs_len] at this

theorem len28 : Try.prog.arrayLen 28 = 24 := by kernel_rfl
theorem elem28 (w : World) : (sizeOf (Try.prog.elem 28)).run Try.prog w = .ok 1 w := by kernel_rfl
theorem under28 : Try.prog.underlying 28 = some (.array (Try.prog.arrayLen 28) (Try.prog.elem 28)) := by kernel_rfl
/-- 'buf[i:]'. -/
theorem slice_buf (B i : Nat) (hi : i < 24) (w : World) : (Instr.sliceAt 28 (.pointer (some ⟨B, 0, none⟩)) (some (.int .i64 i)) none none).run Try.prog w = .ok (.slice (some ⟨B, i, none⟩) (24 - i) (24 - i)) w := by
  rw [run_sliceAt_array_l w 28 ⟨B, 0, none⟩ under28 .i64 (i : Int) (by omega) (by rw [len28]; omega), elem28, len28]
  have e : (⟨B, 0, none⟩ : Addr).add (i * 1) = ⟨B, i, none⟩ := by unfold Addr.add; split <;> simp_all
  show Result.ok (slicedAt ⟨B, 0, none⟩ (i : Int).toNat 24 24 1) w = _
  unfold slicedAt
  rw [Int.toNat_natCast, if_neg (by omega), e]

set_option maxHeartbeats 2000000 in
theorem decimal_pos (n : Int) (w : World) (h : 1 ≤ n) (hn : n ≤ 1048576) : Calls Try.prog 9 #[.int .i64 n] w fun e w' => (∃ t, e = .returned (.string t) ∧ Digits t) ∧ Below w.heap.size w w' := by
  have hd : decide (n ≤ 0) = false := decide_eq_false (by omega)
  go_enter Try.func9, Try.ntmps9
  go_wp2_with fail
  go_loopw [0, 4] (fun s0 s4 wr => ∃ (i : Nat) (y : Int) (cs : Array Value) (D : Nat → UInt8), 17 ≤ i ∧ i ≤ 24 ∧ 0 ≤ y ∧ y ≤ 1048576 ∧ Hid (y < (10 : Int) ^ (i - 17)) ∧ s0 = .int .i64 y ∧ s4 = .int .i64 i ∧ (i = 24 → 1 ≤ y) ∧ Buf wr w.heap.size i cs D ∧ Below w.heap.size w wr)
    (fun s0 _ _ => (intOf s0).toNat)
  case atStart => exact ⟨24, n, _, fun _ => 0, by omega, by omega, by omega, hn, by show n < 10 ^ 7; omega, rfl, rfl, fun _ => h, ⟨heap_alloc_new w _, rfl, fun j h1 h2 => by omega⟩, (Below.refl _ _).alloc (Nat.le_refl _) _⟩
  case round =>
    clear h hn
    obtain ⟨i, y, cs, D, hi1, hi2, hy0, hym, Hy, rfl, rfl, h24, hbuf, hb⟩ := hrel
    by_cases hpos : 0 < y
    · obtain ⟨h18, hdiv⟩ := dig_step hi1 (by omega) Hy.out
      have Hd : Hid (y / 10 < (10 : Int) ^ (i - 1 - 17)) := hdiv
      have hstep := hbuf.step (by omega) hi2 (d := y % 10) (by omega) (by omega)
      obtain ⟨z, c1⟩ : ∃ z, wr.cell? ⟨w.heap.size, i - 1, none⟩ = some z := ⟨cs[i - 1]'(by rw [hbuf.size]; omega), by rw [Joins.cell_of_block hbuf.block, Array.getElem?_eq_getElem]⟩
      have c2 := Joins.unfrozen_of_block hbuf.block (i - 1)
      have hb2 := hb.setCell (p := ⟨w.heap.size, i - 1, none⟩) (Nat.le_refl _) (.int .u8 (48 + y % 10))
      clear hdiv Hy hbuf
      go_wp2_with fail
      go_roundw
      case rel => exact ⟨i - 1, y / 10, _, _, by omega, by omega, by omega, by omega, Hd, rfl, by congr 1; omega, fun e => by omega, hstep, hb2⟩
      case measure => simp [intOf]; omega
    · have hi3 : i < 24 := by
        rcases Nat.lt_or_ge i 24 with h1 | h1
        · exact h1
        · have := h24 (by omega); omega
      have hconv := hbuf.conv
      have hsl := slice_buf w.heap.size i hi3 wr
      have hdg := hbuf.digits hi3
      have HDG : Hid (Digits ⟨(digs D i).toArray⟩) := hdg
      generalize (⟨(digs D i).toArray⟩ : ByteArray) = t at hconv HDG
      clear hdg h24 Hy hbuf
      go_wp2_with fail
      go_ret
      exact ⟨⟨t, rfl, HDG.out⟩, hb⟩

theorem decimal_any (n : Int) (w : World) (hn : n ≤ 1048576) : Calls Try.prog 9 #[.int .i64 n] w fun e w' => (∃ t, e = .returned (.string t) ∧ Digits t) ∧ Below w.heap.size w w' := by
  by_cases h : n ≤ 0
  · exact decimal_zero n w h
  · exact decimal_pos n w (by omega) hn

end Go.Proofs.Qxb6614599a
