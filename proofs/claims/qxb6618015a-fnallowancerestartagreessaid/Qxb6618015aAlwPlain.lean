/-
  PLAIN ARITHMETIC for the laws over Allowance.bytesAt. No Go text is walked here.
-/
import Derived.Laws.BitsLemmas
import Derived.Laws.Bits64b
namespace Go.Proofs.Qxb6618015a.Alw
open Go
set_option linter.unusedVariables false

/-- What an allowance of bound B that held L holds c cycles later. -/
def bal (B L c : Int) : Int := if B ≤ L then L else if B ≤ L + c * B then B else L + c * B

theorem bal_zero (B L : Int) : bal B L 0 = L := by unfold bal; simp; omega
theorem bal_above (B L c : Int) (h : B ≤ L) : bal B L c = L := by unfold bal; rw [if_pos h]

/-- The quotient that bytesAt compares with, as a number of its own. -/
theorem quo_bounds (B L : Int) (hB : 1 ≤ B) (hl : L < B) :
    ((B - L + B - 1) / B) * B ≤ B - L + B - 1 ∧ B - L ≤ ((B - L + B - 1) / B) * B ∧ 0 ≤ (B - L + B - 1) / B ∧ (B - L + B - 1) / B ≤ B - L + B - 1 := by
  have h1 := Int.mul_ediv_add_emod (B - L + B - 1) B
  have h2 := Int.emod_nonneg (B - L + B - 1) (show B ≠ 0 by omega)
  have h3 := Int.emod_lt_of_pos (B - L + B - 1) (show 0 < B by omega)
  have h4 : 0 ≤ (B - L + B - 1) / B := Int.ediv_nonneg (by omega) (by omega)
  have h5 : (B - L + B - 1) / B * 1 ≤ (B - L + B - 1) / B * B := Int.mul_le_mul_of_nonneg_left hB h4
  rw [Int.mul_comm B] at h1
  exact ⟨by omega, by omega, h4, by omega⟩

theorem quo_wrap (B L : Int) (hB : 1 ≤ B) (hB1 : B ≤ 2305843009213693952) (hl : L < B) (hL : -2305843009213693952 ≤ L) :
    IntKind.u64.wrap ((B - L + B - 1) / B) = (B - L + B - 1) / B := by
  obtain ⟨_, _, h3, h4⟩ := quo_bounds B L hB hl
  rw [IntKind.wrap_u64]; omega

/-- Enough cycles: the bound. -/
theorem bal_full (B L c : Int) (hB : 1 ≤ B) (hB1 : B ≤ 2305843009213693952) (hl : L < B) (hL : -2305843009213693952 ≤ L)
    (h : IntKind.u64.wrap ((B - L + B - 1) / B) ≤ c) : bal B L c = B := by
  rw [quo_wrap B L hB hB1 hl hL] at h
  obtain ⟨_, h2, _, _⟩ := quo_bounds B L hB hl
  have h5 : (B - L + B - 1) / B * B ≤ c * B := Int.mul_le_mul_of_nonneg_right h (by omega)
  unfold bal
  rw [if_neg (by omega), if_pos (by omega)]

/-- Too few cycles: the sum, which fits. -/
theorem bal_few (B L c : Int) (hB : 1 ≤ B) (hB1 : B ≤ 2305843009213693952) (hl : L < B) (hL : -2305843009213693952 ≤ L) (c0 : 0 ≤ c)
    (h : c < IntKind.u64.wrap ((B - L + B - 1) / B)) : bal B L c = L + c * B ∧ 0 ≤ c * B ∧ L + c * B < B ∧ c ≤ c * B := by
  rw [quo_wrap B L hB hB1 hl hL] at h
  obtain ⟨h1, _, _, _⟩ := quo_bounds B L hB hl
  have h5 : (c + 1) * B ≤ (B - L + B - 1) / B * B := Int.mul_le_mul_of_nonneg_right (by omega) (by omega)
  rw [Int.add_mul] at h5
  have h6 : 0 ≤ c * B := Int.mul_nonneg c0 (by omega)
  have h7 : c * 1 ≤ c * B := Int.mul_le_mul_of_nonneg_left hB c0
  refine ⟨?_, h6, by omega, by omega⟩
  unfold bal
  rw [if_neg (by omega), if_neg (by omega)]

theorem bal_range (B L c : Int) (c0 : 0 ≤ c) (hB : 0 ≤ B) : L ≤ bal B L c ∧ (bal B L c ≤ L ∨ bal B L c ≤ B) := by
  have h6 : 0 ≤ c * B := Int.mul_nonneg c0 hB
  unfold bal
  split
  · omega
  · split <;> omega

/-- One cycle more adds the bound, but never goes above it. -/
theorem bal_step (B L c : Int) (c0 : 0 ≤ c) (hB : 0 ≤ B) :
    (B ≤ bal B L c → bal B L (c + 1) = bal B L c) ∧ (bal B L c < B → B < bal B L c + B → bal B L (c + 1) = B) ∧ (bal B L c < B → bal B L c + B ≤ B → bal B L (c + 1) = bal B L c + B) := by
  have h6 : 0 ≤ c * B := Int.mul_nonneg c0 hB
  have h7 : (c + 1) * B = c * B + B := by rw [Int.add_mul]; omega
  unfold bal
  rw [h7]
  refine ⟨?_, ?_, ?_⟩
  · split
    · intro _; rfl
    · split <;> intro _ <;> split <;> omega
  · split
    · intro _ _; omega
    · split <;> intro _ _ <;> split <;> omega
  · split
    · intro _ _; omega
    · split <;> intro _ _ <;> split <;> omega

/-- Starting anew from what is held gives the same; it never falls; it stays below the larger of the two. -/
theorem bal_restart (B L c d : Int) (c0 : 0 ≤ c) (d0 : 0 ≤ d) (hB : 0 ≤ B) :
    bal B (bal B L c) d = bal B L (c + d) ∧ bal B L c ≤ bal B L (c + d) := by
  have h6 : 0 ≤ c * B := Int.mul_nonneg c0 hB
  have h8 : 0 ≤ d * B := Int.mul_nonneg d0 hB
  have h7 : (c + d) * B = c * B + d * B := by rw [Int.add_mul]
  by_cases h1 : B ≤ L
  · have e : ∀ x, bal B L x = L := fun x => bal_above B L x h1
    rw [e, e, e]
    exact ⟨rfl, by omega⟩
  · by_cases h2 : B ≤ L + c * B
    · have e1 : bal B L c = B := by unfold bal; rw [if_neg h1, if_pos h2]
      have e2 : bal B L (c + d) = B := by unfold bal; rw [if_neg h1, h7, if_pos (by omega)]
      rw [e1, e2, bal_above B B d (by omega)]
      exact ⟨rfl, by omega⟩
    · have e1 : bal B L c = L + c * B := by unfold bal; rw [if_neg h1, if_neg h2]
      rw [e1]
      unfold bal
      rw [if_neg h2, if_neg h1, h7, ← Int.add_assoc]
      refine ⟨rfl, ?_⟩
      split <;> omega
end Go.Proofs.Qxb6618015a.Alw
