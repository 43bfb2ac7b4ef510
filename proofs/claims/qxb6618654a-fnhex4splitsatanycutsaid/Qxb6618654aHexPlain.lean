/-
  PLAIN MATHEMATICS for the laws over hex4: the value of a hex digit; four of them or-ed together; the closed form. No Go text is walked here.
-/
import Derived.Laws.BitsLemmas
import Derived.Laws.Bits64b
import Derived.Laws.BitsAllLaws
namespace Go.Proofs.Qxb6618654a.Hex
open Go
set_option linter.unusedVariables false

/-- The value of the hex digit c, or -1. -/
def hv (c : Int) : Int := if 48 ≤ c ∧ c ≤ 57 then c - 48 else if 97 ≤ c ∧ c ≤ 102 then c - 87 else if 65 ≤ c ∧ c ≤ 70 then c - 55 else -1
theorem hv_range (c : Int) : -1 ≤ hv c ∧ hv c ≤ 15 := by
  unfold hv
  split
  · omega
  · split
    · omega
    · split <;> omega
/-- The case of a letter swapped. -/
def swp (c : Int) : Int := if 97 ≤ c ∧ c ≤ 122 then c - 32 else if 65 ≤ c ∧ c ≤ 90 then c + 32 else c
theorem hv_swp (c : Int) : hv (swp c) = hv c := by
  unfold swp
  split
  · unfold hv
    repeat (split <;> try omega)
  · split
    · unfold hv
      repeat (split <;> try omega)
    · rfl
theorem swp_range (c : Int) (h0 : 0 ≤ c) (h1 : c ≤ 255) : 0 ≤ swp c ∧ swp c ≤ 255 := by
  unfold swp
  split
  · omega
  · split <;> omega

/-- The closed form over four digits' values. -/
def cl4 (d0 d1 d2 d3 : Int) : Int :=
  if d3 < 0 then -1 else if d2 < 0 then d3 - 16 else if d1 < 0 then 16 * d2 + d3 - 256 else if d0 < 0 then 256 * d1 + 16 * d2 + d3 - 4096 else 4096 * d0 + 256 * d1 + 16 * d2 + d3

/-! ### or on int32: a multiple of a power of two, and what lies below it or is all ones above it -/
theorem ofInt_i32 (X : Int) (h0 : -2147483648 ≤ X) (h1 : X < 2147483648) : BitVec.ofInt 32 X = BitVec.ofNat 32 (X % 4294967296).toNat := by
  apply BitVec.eq_of_toNat_eq
  rw [BitVec.toNat_ofInt, BitVec.toNat_ofNat]
  omega
theorem or_i32_nat (X Y : Int) (x0 : -2147483648 ≤ X) (x1 : X < 2147483648) (y0 : -2147483648 ≤ Y) (y1 : Y < 2147483648) :
    bits .or .i32 X Y = IntKind.i32.wrap (((X % 4294967296).toNat ||| (Y % 4294967296).toNat : Nat) : Int) := by
  show IntKind.i32.wrap ((BitVec.ofInt 32 X ||| BitVec.ofInt 32 Y).toNat : Int) = _
  rw [ofInt_i32 X x0 x1, ofInt_i32 Y y0 y1, BitVec.toNat_or, BitVec.toNat_ofNat, BitVec.toNat_ofNat]
  have e1 : (X % 4294967296).toNat % 2 ^ 32 = (X % 4294967296).toNat := Nat.mod_eq_of_lt (by omega)
  have e2 : (Y % 4294967296).toNat % 2 ^ 32 = (Y % 4294967296).toNat := Nat.mod_eq_of_lt (by omega)
  rw [e1, e2]
theorem or_low (X y : Int) (j : Nat) (x0 : -2147483648 ≤ X) (x1 : X < 2147483648) (hx : ∃ u : Nat, (X % 4294967296).toNat = 2 ^ j * u) (y0 : 0 ≤ y) (y1 : y.toNat < 2 ^ j) (hs : X + y < 2147483648) (hneg : X < 0 → X + y < 0) (y2 : y < 2147483648) :
    bits .or .i32 X y = X + y := by
  rw [or_i32_nat X y x0 x1 (by omega) y2]
  obtain ⟨u, hu⟩ := hx
  have ey : (y % 4294967296).toNat = y.toNat := by omega
  rw [ey, hu, ← Nat.two_pow_add_eq_or_of_lt y1 u, ← hu, IntKind.wrap_i32]
  have := Int.toNat_of_nonneg y0
  omega
/-- All ones from bit j on, y below: whatever lies at bit j and above is swallowed. -/
theorem or_high (X : Int) (j y : Nat) (hj : j < 31) (x0 : -2147483648 ≤ X) (x1 : X < 2147483648) (hx : ∃ u : Nat, (X % 4294967296).toNat = 2 ^ j * u) (hy : y < 2 ^ j) (Y : Int) (hY : (Y % 4294967296).toNat = 2 ^ j * (2 ^ (32 - j) - 1) + y) (y0 : -2147483648 ≤ Y) (y1 : Y < 0) :
    bits .or .i32 X Y = Y := by
  rw [or_i32_nat X Y x0 x1 y0 (by omega)]
  obtain ⟨u, hu⟩ := hx
  have e : (X % 4294967296).toNat ||| (Y % 4294967296).toNat = (Y % 4294967296).toNat := by
    have hlt : u < 2 ^ (32 - j) := by
      have h1 : 2 ^ j * u < 2 ^ j * 2 ^ (32 - j) := by
        rw [← Nat.pow_add, show j + (32 - j) = 32 by omega, ← hu]
        omega
      exact Nat.lt_of_mul_lt_mul_left h1
    rw [hu, hY]
    apply Nat.eq_of_testBit_eq
    intro i
    rw [Nat.testBit_or, Nat.testBit_two_pow_mul, Nat.testBit_two_pow_mul_add _ hy, Nat.testBit_two_pow_sub_one]
    by_cases c : j ≤ i
    · have c' : ¬ i < j := by omega
      by_cases d : i - j < 32 - j
      · simp [c', d]
      · have : u.testBit (i - j) = false := Nat.testBit_lt_two_pow (Nat.lt_of_lt_of_le hlt (Nat.pow_le_pow_right (by decide) (by omega)))
        simp [d, this]
    · have c' : i < j := by omega
      simp [c, c']
  rw [e, IntKind.wrap_i32]
  omega

/-! ### At the four places -/
theorem or_low4 (X y : Int) (x0 : -2147483648 ≤ X) (x1 : X ≤ 2147483632) (hx : X % 16 = 0) (y0 : 0 ≤ y) (y1 : y < 16) : bits .or .i32 X y = X + y :=
  or_low X y 4 x0 (by omega) ⟨(X % 4294967296).toNat / 16, by omega⟩ y0 (by omega) (by omega) (by omega) (by omega)
theorem or_low8 (X y : Int) (x0 : -2147483648 ≤ X) (x1 : X ≤ 2147483392) (hx : X % 256 = 0) (y0 : 0 ≤ y) (y1 : y < 256) : bits .or .i32 X y = X + y :=
  or_low X y 8 x0 (by omega) ⟨(X % 4294967296).toNat / 256, by omega⟩ y0 (by omega) (by omega) (by omega) (by omega)
theorem or_low12 (X y : Int) (x0 : -2147483648 ≤ X) (x1 : X ≤ 2147479552) (hx : X % 4096 = 0) (y0 : 0 ≤ y) (y1 : y < 4096) : bits .or .i32 X y = X + y :=
  or_low X y 12 x0 (by omega) ⟨(X % 4294967296).toNat / 4096, by omega⟩ y0 (by omega) (by omega) (by omega) (by omega)
theorem or_low16 (X y : Int) (x0 : -2147483648 ≤ X) (x1 : X ≤ 2147418112) (hx : X % 65536 = 0) (y0 : 0 ≤ y) (y1 : y < 65536) : bits .or .i32 X y = X + y :=
  or_low X y 16 x0 (by omega) ⟨(X % 4294967296).toNat / 65536, by omega⟩ y0 (by omega) (by omega) (by omega) (by omega)
theorem or_all (X : Int) (x0 : -2147483648 ≤ X) (x1 : X < 2147483648) : bits .or .i32 X (-1) = -1 :=
  or_high X 0 0 (by decide) x0 x1 ⟨(X % 4294967296).toNat, by omega⟩ (by decide) (-1) (by decide) (by decide) (by decide)
theorem or_high4 (X Y : Int) (x0 : -2147483648 ≤ X) (x1 : X < 2147483648) (hx : X % 16 = 0) (y0 : -16 ≤ Y) (y1 : Y < 0) : bits .or .i32 X Y = Y :=
  or_high X 4 (Y + 16).toNat (by decide) x0 x1 ⟨(X % 4294967296).toNat / 16, by omega⟩ (by omega) Y (by omega) (by omega) y1
theorem or_high8 (X Y : Int) (x0 : -2147483648 ≤ X) (x1 : X < 2147483648) (hx : X % 256 = 0) (y0 : -256 ≤ Y) (y1 : Y < 0) : bits .or .i32 X Y = Y :=
  or_high X 8 (Y + 256).toNat (by decide) x0 x1 ⟨(X % 4294967296).toNat / 256, by omega⟩ (by omega) Y (by omega) (by omega) y1
theorem or_high12 (X Y : Int) (x0 : -2147483648 ≤ X) (x1 : X < 2147483648) (hx : X % 4096 = 0) (y0 : -4096 ≤ Y) (y1 : Y < 0) : bits .or .i32 X Y = Y :=
  or_high X 12 (Y + 4096).toNat (by decide) x0 x1 ⟨(X % 4294967296).toNat / 4096, by omega⟩ (by omega) Y (by omega) (by omega) y1
theorem or_high16 (X Y : Int) (x0 : -2147483648 ≤ X) (x1 : X < 2147483648) (hx : X % 65536 = 0) (y0 : -65536 ≤ Y) (y1 : Y < 0) : bits .or .i32 X Y = Y :=
  or_high X 16 (Y + 65536).toNat (by decide) x0 x1 ⟨(X % 4294967296).toNat / 65536, by omega⟩ (by omega) Y (by omega) (by omega) y1

/-- A digit's value. -/
def Dg (d : Int) : Prop := -1 ≤ d ∧ d ≤ 15
theorem cl4_range (d0 d1 d2 d3 : Int) (h0 : Dg d0) (h1 : Dg d1) (h2 : Dg d2) (h3 : Dg d3) : -4096 ≤ cl4 d0 d1 d2 d3 ∧ cl4 d0 d1 d2 d3 ≤ 65535 := by
  obtain ⟨_, _⟩ := h0; obtain ⟨_, _⟩ := h1; obtain ⟨_, _⟩ := h2; obtain ⟨_, _⟩ := h3
  unfold cl4
  (repeat' split) <;> omega
/-- It lies within 0..65535 just when all four are digits. -/
theorem cl4_sign (d0 d1 d2 d3 : Int) (h0 : Dg d0) (h1 : Dg d1) (h2 : Dg d2) (h3 : Dg d3) : (0 ≤ cl4 d0 d1 d2 d3) ↔ (0 ≤ d0 ∧ 0 ≤ d1 ∧ 0 ≤ d2 ∧ 0 ≤ d3) := by
  obtain ⟨_, _⟩ := h0; obtain ⟨_, _⟩ := h1; obtain ⟨_, _⟩ := h2; obtain ⟨_, _⟩ := h3
  unfold cl4
  (repeat' split) <;> omega
theorem or_four (d0 d1 d2 d3 : Int) (h0 : Dg d0) (h1 : Dg d1) (h2 : Dg d2) (h3 : Dg d3) :
    bits .or .i32 (bits .or .i32 (bits .or .i32 (d0 * 4096) (d1 * 256)) (d2 * 16)) d3 = cl4 d0 d1 d2 d3 := by
  obtain ⟨_, _⟩ := h0; obtain ⟨_, _⟩ := h1; obtain ⟨_, _⟩ := h2; obtain ⟨_, _⟩ := h3
  have s1 : ∃ A, bits .or .i32 (d0 * 4096) (d1 * 256) = A ∧ A % 256 = 0 ∧ -4096 ≤ A ∧ A ≤ 65535 ∧ (d1 < 0 → A = -256) ∧ (0 ≤ d1 → A = d0 * 4096 + d1 * 256) := by
    by_cases c : d1 < 0
    · exact ⟨-256, by rw [show d1 * 256 = -256 by omega]; exact or_high8 _ _ (by omega) (by omega) (by omega) (by omega) (by omega), by omega, by omega, by omega, fun _ => rfl, by omega⟩
    · exact ⟨_, or_low12 _ _ (by omega) (by omega) (by omega) (by omega) (by omega), by omega, by omega, by omega, by omega, fun _ => rfl⟩
  obtain ⟨A, eA, a1, a2, a3, a4, a5⟩ := s1
  have s2 : ∃ B, bits .or .i32 A (d2 * 16) = B ∧ B % 16 = 0 ∧ -4096 ≤ B ∧ B ≤ 65535 ∧ (d2 < 0 → B = -16) ∧ (0 ≤ d2 → B = A + d2 * 16) := by
    by_cases c : d2 < 0
    · exact ⟨-16, by rw [show d2 * 16 = -16 by omega]; exact or_high4 _ _ (by omega) (by omega) (by omega) (by omega) (by omega), by omega, by omega, by omega, fun _ => rfl, by omega⟩
    · exact ⟨_, or_low8 _ _ (by omega) (by omega) (by omega) (by omega) (by omega), by omega, by omega, by omega, by omega, fun _ => rfl⟩
  obtain ⟨B, eB, b1, b2, b3, b4, b5⟩ := s2
  rw [eA, eB]
  unfold cl4
  by_cases c : d3 < 0
  · rw [if_pos c, show d3 = -1 by omega]
    exact or_all _ (by omega) (by omega)
  · rw [if_neg c, or_low4 _ _ (by omega) (by omega) b1 (by omega) (by omega)]
    (repeat' split) <;> omega

/-- Cut at any place: the left part shifted up, or-ed with the right part. -/
theorem cut0 (d0 d1 d2 d3 : Int) (h0 : Dg d0) (h1 : Dg d1) (h2 : Dg d2) (h3 : Dg d3) : bits .or .i32 (cl4 0 0 0 0 * 65536) (cl4 d0 d1 d2 d3) = cl4 d0 d1 d2 d3 := by
  have r := cl4_range d0 d1 d2 d3 h0 h1 h2 h3
  rw [show cl4 0 0 0 0 * 65536 = 0 from rfl]
  by_cases c : cl4 d0 d1 d2 d3 < 0
  · exact or_high12 _ _ (by omega) (by omega) (by omega) (by omega) c
  · rw [or_low16 _ _ (by omega) (by omega) (by omega) (by omega) (by omega)]; omega
theorem cut1 (d0 d1 d2 d3 : Int) (h0 : Dg d0) (h1 : Dg d1) (h2 : Dg d2) (h3 : Dg d3) : bits .or .i32 (cl4 0 0 0 d0 * 4096) (cl4 0 d1 d2 d3) = cl4 d0 d1 d2 d3 := by
  obtain ⟨_, _⟩ := h0; obtain ⟨_, _⟩ := h1; obtain ⟨_, _⟩ := h2; obtain ⟨_, _⟩ := h3
  have el : cl4 0 0 0 d0 = d0 := by unfold cl4; (repeat' split) <;> omega
  rw [el]
  by_cases c : cl4 0 d1 d2 d3 < 0
  · have e : cl4 d0 d1 d2 d3 = cl4 0 d1 d2 d3 := by unfold cl4 at c ⊢; (repeat' split) <;> (repeat' split at c) <;> omega
    have l : -4096 ≤ cl4 0 d1 d2 d3 := by unfold cl4; (repeat' split) <;> omega
    rw [e]
    exact or_high12 _ _ (by omega) (by omega) (by omega) l c
  · have e : cl4 d0 d1 d2 d3 = d0 * 4096 + cl4 0 d1 d2 d3 := by unfold cl4 at c ⊢; (repeat' split) <;> (repeat' split at c) <;> omega
    have u : cl4 0 d1 d2 d3 < 4096 := by unfold cl4; (repeat' split) <;> omega
    rw [e]
    exact or_low12 _ _ (by omega) (by omega) (by omega) (by omega) u
theorem cut2 (d0 d1 d2 d3 : Int) (h0 : Dg d0) (h1 : Dg d1) (h2 : Dg d2) (h3 : Dg d3) : bits .or .i32 (cl4 0 0 d0 d1 * 256) (cl4 0 0 d2 d3) = cl4 d0 d1 d2 d3 := by
  have r := cl4_range 0 0 d0 d1 ⟨by decide, by decide⟩ ⟨by decide, by decide⟩ h0 h1
  obtain ⟨_, _⟩ := h0; obtain ⟨_, _⟩ := h1; obtain ⟨_, _⟩ := h2; obtain ⟨_, _⟩ := h3
  by_cases c : cl4 0 0 d2 d3 < 0
  · have e : cl4 d0 d1 d2 d3 = cl4 0 0 d2 d3 := by unfold cl4 at c ⊢; (repeat' split) <;> (repeat' split at c) <;> omega
    have l : -256 ≤ cl4 0 0 d2 d3 := by unfold cl4; (repeat' split) <;> omega
    rw [e]
    exact or_high8 _ _ (by omega) (by omega) (by omega) l c
  · have e : cl4 d0 d1 d2 d3 = cl4 0 0 d0 d1 * 256 + cl4 0 0 d2 d3 := by unfold cl4 at c ⊢; (repeat' split) <;> (repeat' split at c) <;> omega
    have u : cl4 0 0 d2 d3 < 256 := by unfold cl4; (repeat' split) <;> omega
    rw [e]
    exact or_low8 _ _ (by omega) (by omega) (by omega) (by omega) u
theorem cut3 (d0 d1 d2 d3 : Int) (h0 : Dg d0) (h1 : Dg d1) (h2 : Dg d2) (h3 : Dg d3) : bits .or .i32 (cl4 0 d0 d1 d2 * 16) (cl4 0 0 0 d3) = cl4 d0 d1 d2 d3 := by
  have r := cl4_range 0 d0 d1 d2 ⟨by decide, by decide⟩ h0 h1 h2
  obtain ⟨_, _⟩ := h0; obtain ⟨_, _⟩ := h1; obtain ⟨_, _⟩ := h2; obtain ⟨_, _⟩ := h3
  have el : cl4 0 0 0 d3 = d3 := by unfold cl4; (repeat' split) <;> omega
  rw [el]
  by_cases c : d3 < 0
  · have e : cl4 d0 d1 d2 d3 = -1 := by unfold cl4; rw [if_pos c]
    rw [e, show d3 = -1 by omega]
    exact or_all _ (by omega) (by omega)
  · have e : cl4 d0 d1 d2 d3 = cl4 0 d0 d1 d2 * 16 + d3 := by unfold cl4; (repeat' split) <;> omega
    rw [e]
    exact or_low4 _ _ (by omega) (by omega) (by omega) (by omega) (by omega)
theorem cut4 (d0 d1 d2 d3 : Int) (h0 : Dg d0) (h1 : Dg d1) (h2 : Dg d2) (h3 : Dg d3) : bits .or .i32 (cl4 d0 d1 d2 d3 * 1) (cl4 0 0 0 0) = cl4 d0 d1 d2 d3 := by
  have r := cl4_range d0 d1 d2 d3 h0 h1 h2 h3
  rw [show cl4 0 0 0 0 = 0 from rfl, Int.mul_one]
  rw [or_low _ 0 0 (by omega) (by omega) ⟨(cl4 d0 d1 d2 d3 % 4294967296).toNat, by omega⟩ (by decide) (by decide) (by omega) (by omega) (by decide)]
  omega
end Go.Proofs.Qxb6618654a.Hex
