import Derived.Test.YbulkdxbkDoorKb
import Derived.WalkSmall
import Derived.Laws.Bits64b
namespace Go.Proofs.YbulkdxbkDoor
open Go.RowKit
set_option linter.unusedVariables false

/-! ### The lowest bit -/
theorem odd_part (x : Nat) (h : 0 < x) : ∃ k m, x = 2 ^ k * (2 * m + 1) := by
  induction x using Nat.strongRecOn with
  | ind x ih =>
    by_cases ho : x % 2 = 1
    · exact ⟨0, x / 2, by omega⟩
    · obtain ⟨k, m, e⟩ := ih (x / 2) (by omega) (by omega)
      refine ⟨k + 1, m, ?_⟩
      have : x = 2 * (x / 2) := by omega
      rw [this, e, Nat.pow_succ]
      rw [Nat.mul_comm (2 ^ k) 2, Nat.mul_assoc]
theorem bit_x (k m j : Nat) : (2 ^ k * (2 * m + 1)).testBit j = if j < k then false else (2 * m + 1).testBit (j - k) := by
  have := Nat.testBit_two_pow_mul_add (2 * m + 1) (Nat.two_pow_pos k) j
  simpa using this
theorem bit_pred (k m j : Nat) : (2 ^ k * (2 * m + 1) - 1).testBit j = if j < k then true else (2 * m).testBit (j - k) := by
  have h1 : 0 < 2 ^ k := Nat.two_pow_pos k
  have e : 2 ^ k * (2 * m + 1) - 1 = 2 ^ k * (2 * m) + (2 ^ k - 1) := by
    rw [Nat.mul_add, Nat.mul_one]; omega
  rw [e, Nat.testBit_two_pow_mul_add (2 * m) (by omega) j]
  split
  · rename_i h; rw [Nat.testBit_two_pow_sub_one]; simp [h]
  · rfl
theorem bit_odd (m j : Nat) : (2 * m + 1).testBit j = if j = 0 then true else m.testBit (j - 1) := by
  cases j with
  | zero => simp [Nat.testBit_zero]
  | succ j =>
    rw [Nat.testBit_succ]
    simp
    congr 1
    omega
theorem bit_even (m j : Nat) : (2 * m).testBit j = if j = 0 then false else m.testBit (j - 1) := by
  cases j with
  | zero => simp [Nat.testBit_zero]
  | succ j =>
    rw [Nat.testBit_succ]
    simp
theorem and_pred (k m : Nat) : (2 ^ k * (2 * m + 1)) &&& (2 ^ k * (2 * m + 1) - 1) = 2 ^ k * (2 * m) := by
  apply Nat.eq_of_testBit_eq
  intro j
  have h0 := Nat.testBit_two_pow_mul_add (2 * m) (Nat.two_pow_pos k) j
  simp only [Nat.add_zero] at h0
  rw [Nat.testBit_and, bit_x, bit_pred, h0]
  by_cases h : j < k
  · simp [h]
  · simp only [h, if_false]
    rw [bit_odd, bit_even]
    by_cases e : j - k = 0
    · simp [e]
    · simp [e]
theorem and_neg (k m : Nat) (hx : 2 ^ k * (2 * m + 1) < 2 ^ 64) : (2 ^ k * (2 * m + 1)) &&& (2 ^ 64 - 2 ^ k * (2 * m + 1)) = 2 ^ k := by
  have hpos : 0 < 2 ^ k * (2 * m + 1) := Nat.mul_pos (Nat.two_pow_pos k) (by omega)
  apply Nat.eq_of_testBit_eq
  intro j
  have e : 2 ^ 64 - 2 ^ k * (2 * m + 1) = 2 ^ 64 - ((2 ^ k * (2 * m + 1) - 1) + 1) := by omega
  rw [Nat.testBit_and, e, Nat.testBit_two_pow_sub_succ (by omega), bit_x, bit_pred, Nat.testBit_two_pow]
  have hk : k < 64 := by
    have h2 : 2 ^ k < 2 ^ 64 := by
      refine Nat.lt_of_le_of_lt ?_ hx
      exact Nat.le_mul_of_pos_right _ (by omega)
    exact (Nat.pow_lt_pow_iff_right (by omega)).1 h2
  by_cases h : j < k
  · have : ¬ k = j := by omega
    simp [h, this]
  · simp only [h, if_false]
    rw [bit_odd, bit_even]
    by_cases e : j - k = 0
    · have : k = j := by omega
      subst this
      simp [hk]
    · have : ¬ k = j := by omega
      simp [e, this]
      intro h _; exact h
/-! ### math/bits.TrailingZeros64 -/
def deB : List Nat := [0, 1, 56, 2, 57, 49, 28, 3, 61, 58, 42, 50, 38, 29, 17, 4, 62, 47, 59, 36, 45, 43, 51, 22, 53, 39, 33, 30, 24, 18, 12, 5, 63, 55, 48, 27, 60, 41, 37, 16, 46, 35, 44, 21, 52, 32, 23, 11, 54, 26, 40, 15, 34, 20, 31, 10, 25, 14, 19, 9, 13, 8, 7, 6]
theorem deB_at : ∀ k : Fin 64, deB[(2 ^ k.val * 285870213051353865 % 18446744073709551616) / 288230376151711744]? = some k.val := by decide
def TabAt (w : World) : Prop := ∀ (i x : Nat), deB[i]? = some x → w.cell? ⟨3, i, none⟩ = some (.int .u8 (x : Int))
theorem low_lt {k m : Nat} (hx : 2 ^ k * (2 * m + 1) < 18446744073709551616) : k < 64 := by
  have h2 : 2 ^ k < 2 ^ 64 := Nat.lt_of_le_of_lt (Nat.le_mul_of_pos_right _ (by omega)) hx
  exact (Nat.pow_lt_pow_iff_right (by omega)).1 h2
theorem tz_any (w : World) (x k m : Nat) (e : x = 2 ^ k * (2 * m + 1)) (hx : x < 18446744073709551616) (hT : TabAt w) :
    Calls Ybad.prog 33 #[.int .u64 (x : Int)] w fun e w' => e = .returned (.int .i64 (k : Int)) ∧ w' = w := by
  have h0 : 0 < x := by rw [e]; exact Nat.mul_pos (Nat.two_pow_pos k) (by omega)
  have hne : ¬ ((x : Int) = 0) := by omega
  have hne' : ((x : Int) == 0) = false := by simp; omega
  have hk : k < 64 := low_lt (e ▸ hx)
  obtain ⟨ix, hix⟩ : ∃ ix, ix = (2 ^ k * 285870213051353865 % 18446744073709551616) / 288230376151711744 := ⟨_, rfl⟩
  have hl : ix < 64 := by rw [hix]; omega
  have hcell := hT ix k (by rw [hix]; exact deB_at ⟨k, hk⟩)
  have hw1 : IntKind.u64.wrap (-(x : Int)) = ((18446744073709551616 - x : Nat) : Int) := by simp [IntKind.wrap, IntKind.signed, IntKind.bits]; omega
  have ha : bits BinOp.and IntKind.u64 (x : Int) (IntKind.u64.wrap (-(x : Int))) = ((2 ^ k : Nat) : Int) := by
    rw [hw1, bits_and_u64_nat x (18446744073709551616 - x) hx (by omega)]
    congr 1
    rw [e]
    exact and_neg k m (e ▸ hx)
  have hidx : IntKind.u64.wrap (bits BinOp.and IntKind.u64 (x : Int) (IntKind.u64.wrap (-(x : Int))) * 285870213051353865) / 288230376151711744 = (ix : Int) := by
    rw [ha, hix]
    simp [IntKind.wrap, IntKind.signed, IntKind.bits]
  clear hT ha hw1 hix e
  go_enter Ybad.func33, Ybad.ntmps33
  go_wp2_with fail
  go_ret
  exact ⟨rfl, rfl⟩
end Go.Proofs.YbulkdxbkDoor
