/-
  PLAIN ARITHMETIC for the laws over AtomicOp.Combine: masks of whole bytes, and what and, or, xor do to sums. No Go text is walked here.
-/
import Derived.Laws.BitsLemmas
import Derived.Laws.Bits64b
import Derived.Laws.BitsAllLaws
namespace Go.Proofs.Qxb6618015a.Cmb
open Go
set_option linter.unusedVariables false
set_option linter.unusedSimpArgs false

/-- Two to the power of eight times n: the number of values of n bytes. -/
def M (n : Int) : Int := 2 ^ (8 * n.toNat)

theorem M_cases (n : Int) (h1 : 1 ≤ n) (h8 : n ≤ 8) :
    (n = 1 ∧ M n = 256) ∨ (n = 2 ∧ M n = 65536) ∨ (n = 3 ∧ M n = 16777216) ∨ (n = 4 ∧ M n = 4294967296) ∨ (n = 5 ∧ M n = 1099511627776) ∨ (n = 6 ∧ M n = 281474976710656) ∨ (n = 7 ∧ M n = 72057594037927936) ∨ (n = 8 ∧ M n = 18446744073709551616) := by
  have h : n = 1 ∨ n = 2 ∨ n = 3 ∨ n = 4 ∨ n = 5 ∨ n = 6 ∨ n = 7 ∨ n = 8 := by omega
  rcases h with rfl | rfl | rfl | rfl | rfl | rfl | rfl | rfl <;> simp [M]

theorem M_bounds (n : Int) (h1 : 1 ≤ n) (h8 : n ≤ 8) : 256 ≤ M n ∧ M n ≤ 18446744073709551616 := by
  have := M_cases n h1 h8
  omega

theorem M_dvd (n : Int) (h1 : 1 ≤ n) (h8 : n ≤ 8) (x : Int) : x % 18446744073709551616 % M n = x % M n := by
  have := M_cases n h1 h8
  rcases this with ⟨_, e⟩ | ⟨_, e⟩ | ⟨_, e⟩ | ⟨_, e⟩ | ⟨_, e⟩ | ⟨_, e⟩ | ⟨_, e⟩ | ⟨_, e⟩ <;> rw [e] <;> omega

/-- The mask as Combine reckons it. -/
theorem shr_mask (n : Int) (h1 : 1 ≤ n) (h8 : n ≤ 8) : (18446744073709551615 : Int) / 2 ^ (64 - 8 * n).toNat = M n - 1 := by
  have h : n = 1 ∨ n = 2 ∨ n = 3 ∨ n = 4 ∨ n = 5 ∨ n = 6 ∨ n = 7 ∨ n = 8 := by omega
  rcases h with rfl | rfl | rfl | rfl | rfl | rfl | rfl | rfl <;> decide +kernel

/-- The mask as zzMask reckons it. -/
theorem shl_mask (n : Int) (h1 : 1 ≤ n) (h8 : n < 8) : IntKind.u64.wrap (IntKind.u64.wrap (2 ^ (8 * n).toNat) - 1) = M n - 1 := by
  have h : n = 1 ∨ n = 2 ∨ n = 3 ∨ n = 4 ∨ n = 5 ∨ n = 6 ∨ n = 7 := by omega
  rcases h with rfl | rfl | rfl | rfl | rfl | rfl | rfl <;> decide +kernel

theorem wraps_u64 (n : Int) (h0 : 0 ≤ n) (h1 : n < 2 ^ 64) : IntKind.u64.wrap n = n := by rw [IntKind.wrap_u64]; omega

theorem and_mask (n : Int) (h1 : 1 ≤ n) (h8 : n ≤ 8) (x : Int) (x0 : 0 ≤ x) (x1 : x < 18446744073709551616) :
    bits .and .u64 x (M n - 1) = x % M n :=
  bits_mask .u64 64 (by decide) wraps_u64 (8 * n.toNat) (by omega) x x0 (by omega)

theorem wrap_range (x : Int) : 0 ≤ IntKind.u64.wrap x ∧ IntKind.u64.wrap x < 18446744073709551616 := by
  rw [IntKind.wrap_u64]; omega

/-- What ends in a wrap and is then masked. -/
theorem wrap_mask (n : Int) (h1 : 1 ≤ n) (h8 : n ≤ 8) (x : Int) : bits .and .u64 (IntKind.u64.wrap x) (M n - 1) = x % M n := by
  rw [and_mask n h1 h8 _ (wrap_range x).1 (wrap_range x).2, IntKind.wrap_u64, M_dvd n h1 h8]

theorem mod_range (n : Int) (h1 : 1 ≤ n) (h8 : n ≤ 8) (x : Int) : 0 ≤ x % M n ∧ x % M n < M n := by
  have := M_bounds n h1 h8
  exact ⟨Int.emod_nonneg _ (by omega), Int.emod_lt_of_pos _ (by omega)⟩

theorem mod_small (n x : Int) (x0 : 0 ≤ x) (x1 : x < M n) : x % M n = x := Int.emod_eq_of_lt x0 x1

/-! ### and, or, xor against plus -/
theorem and_or_nat : ∀ (n a b : Nat), a < 2 ^ n → b < 2 ^ n → (a &&& b) + (a ||| b) = a + b ∧ (a ^^^ b) + (a &&& b) = a ||| b := by
  intro n
  induction n with
  | zero =>
    intro a b ha hb
    have ea : a = 0 := by omega
    have eb : b = 0 := by omega
    subst ea; subst eb; decide
  | succ n ih =>
    intro a b ha hb
    have h2 : 2 ^ (n + 1) = 2 * 2 ^ n := by rw [Nat.pow_succ]; omega
    obtain ⟨i1, i2⟩ := ih (a / 2) (b / 2) (by omega) (by omega)
    rw [← Nat.and_div_two, ← Nat.or_div_two] at i1
    rw [← Nat.xor_div_two, ← Nat.and_div_two, ← Nat.or_div_two] at i2
    have m1 := @Nat.and_mod_two_eq_one a b
    have m2 := @Nat.or_mod_two_eq_one a b
    have m3 := @Nat.xor_mod_two_eq_one a b
    have r1 := Nat.mod_two_eq_zero_or_one (a &&& b)
    have r2 := Nat.mod_two_eq_zero_or_one (a ||| b)
    have r3 := Nat.mod_two_eq_zero_or_one (a ^^^ b)
    generalize a &&& b = p at *
    generalize a ||| b = q at *
    generalize a ^^^ b = r at *
    rcases Nat.mod_two_eq_zero_or_one a with ea | ea <;> rcases Nat.mod_two_eq_zero_or_one b with eb | eb <;> simp [ea, eb] at m1 m2 m3 <;> omega

theorem andNot_u64 (a b : Nat) (ha : a < 18446744073709551616) (hb : b < 18446744073709551616) (h : a ||| b = b) : bits .andNot .u64 (a : Int) (b : Int) = 0 := by
  show IntKind.u64.wrap ((BitVec.ofInt 64 (a : Int) &&& ~~~BitVec.ofInt 64 (b : Int)).toNat : Int) = _
  have e : BitVec.ofInt 64 (a : Int) &&& ~~~BitVec.ofInt 64 (b : Int) = 0#64 := by
    apply BitVec.eq_of_getLsbD_eq
    intro i hi
    simp only [BitVec.ofInt_natCast, BitVec.getLsbD_and, BitVec.getLsbD_not, BitVec.getLsbD_ofNat, BitVec.getLsbD_zero]
    have ht : (a ||| b).testBit i = b.testBit i := by rw [h]
    rw [Nat.testBit_or] at ht
    cases h1 : a.testBit i <;> cases h2 : b.testBit i <;> simp_all
  rw [e]; decide

/-! ### What Combine leaves, as plain functions of the masked values -/
def incF (o a : Int) : Int := if a ≤ o then 0 else o + 1
def decF (o a : Int) : Int := if o = 0 ∨ a < o then a else o - 1
def andF (o a : Int) : Int := ((o.toNat &&& a.toNat : Nat) : Int)
def orF (o a : Int) : Int := ((o.toNat ||| a.toNat : Nat) : Int)
def xorF (o a : Int) : Int := ((o.toNat ^^^ a.toNat : Nat) : Int)


theorem inc_ge (n : Int) (h1 : 1 ≤ n) (h8 : n ≤ 8) (x a : Int) (h : a % M n ≤ x % M n) : bits .and .u64 0 (M n - 1) = incF (x % M n) (a % M n) := by
  rw [and_mask n h1 h8 0 (by omega) (by omega)]
  unfold incF
  rw [if_pos h]; simp
theorem inc_lt (n : Int) (h1 : 1 ≤ n) (h8 : n ≤ 8) (x a : Int) (h : x % M n < a % M n) : bits .and .u64 (IntKind.u64.wrap (x % M n + 1)) (M n - 1) = incF (x % M n) (a % M n) := by
  rw [wrap_mask n h1 h8]
  have hx := mod_range n h1 h8 x
  have ha := mod_range n h1 h8 a
  rw [mod_small n _ (by omega) (by omega)]
  unfold incF
  rw [if_neg (by omega)]
theorem dec_wrap (n : Int) (h1 : 1 ≤ n) (h8 : n ≤ 8) (x a : Int) (h : x % M n = 0 ∨ a % M n < x % M n) : bits .and .u64 (a % M n) (M n - 1) = decF (x % M n) (a % M n) := by
  have hx := mod_range n h1 h8 x
  have ha := mod_range n h1 h8 a
  have hM := M_bounds n h1 h8
  rw [and_mask n h1 h8 _ (by omega) (by omega), mod_small n _ (by omega) (by omega)]
  unfold decF
  rw [if_pos h]
theorem dec_down (n : Int) (h1 : 1 ≤ n) (h8 : n ≤ 8) (x a : Int) (h : ¬ x % M n = 0) (h' : ¬ a % M n < x % M n) : bits .and .u64 (IntKind.u64.wrap (x % M n - 1)) (M n - 1) = decF (x % M n) (a % M n) := by
  have hx := mod_range n h1 h8 x
  have ha := mod_range n h1 h8 a
  rw [wrap_mask n h1 h8, mod_small n _ (by omega) (by omega)]
  unfold decF
  rw [if_neg (by omega)]
theorem add_all (n : Int) (h1 : 1 ≤ n) (h8 : n ≤ 8) (x a : Int) : bits .and .u64 (IntKind.u64.wrap (x % M n + a % M n)) (M n - 1) = (x % M n + a % M n) % M n :=
  wrap_mask n h1 h8 _

theorem toNat_lt (n y : Int) (hy : y < M n) (y0 : 0 ≤ y) : y.toNat < 2 ^ (8 * n.toNat) := by
  have h : ((y.toNat : Nat) : Int) < ((2 ^ (8 * n.toNat) : Nat) : Int) := by
    rw [Int.toNat_of_nonneg y0]; simpa [M] using hy
  exact_mod_cast h

theorem and_all (n : Int) (h1 : 1 ≤ n) (h8 : n ≤ 8) (x a : Int) : bits .and .u64 (bits .and .u64 (x % M n) (a % M n)) (M n - 1) = andF (x % M n) (a % M n) := by
  have hx := mod_range n h1 h8 x
  have ha := mod_range n h1 h8 a
  have hM := M_bounds n h1 h8
  have e : bits .and .u64 (x % M n) (a % M n) = andF (x % M n) (a % M n) := by
    have := bits_and_u64_nat (x % M n).toNat (a % M n).toNat (by omega) (by omega)
    rwa [Int.toNat_of_nonneg hx.1, Int.toNat_of_nonneg ha.1] at this
  rw [e]
  have hlt : (x % M n).toNat &&& (a % M n).toNat < 2 ^ (8 * n.toNat) := Nat.and_lt_two_pow _ (toNat_lt n _ ha.2 ha.1)
  have hlt' : andF (x % M n) (a % M n) < M n := by unfold andF M; exact_mod_cast hlt
  have h0 : 0 ≤ andF (x % M n) (a % M n) := by unfold andF; omega
  rw [and_mask n h1 h8 _ h0 (by omega), mod_small n _ h0 hlt']
theorem or_all (n : Int) (h1 : 1 ≤ n) (h8 : n ≤ 8) (x a : Int) : bits .and .u64 (bits .or .u64 (x % M n) (a % M n)) (M n - 1) = orF (x % M n) (a % M n) := by
  have hx := mod_range n h1 h8 x
  have ha := mod_range n h1 h8 a
  have hM := M_bounds n h1 h8
  have e : bits .or .u64 (x % M n) (a % M n) = orF (x % M n) (a % M n) := by
    have := bits_or_u64_nat (x % M n).toNat (a % M n).toNat (by omega) (by omega)
    rwa [Int.toNat_of_nonneg hx.1, Int.toNat_of_nonneg ha.1] at this
  rw [e]
  have hlt : (x % M n).toNat ||| (a % M n).toNat < 2 ^ (8 * n.toNat) := Nat.or_lt_two_pow (toNat_lt n _ hx.2 hx.1) (toNat_lt n _ ha.2 ha.1)
  have hlt' : orF (x % M n) (a % M n) < M n := by unfold orF M; exact_mod_cast hlt
  have h0 : 0 ≤ orF (x % M n) (a % M n) := by unfold orF; omega
  rw [and_mask n h1 h8 _ h0 (by omega), mod_small n _ h0 hlt']
theorem xor_all (n : Int) (h1 : 1 ≤ n) (h8 : n ≤ 8) (x a : Int) : bits .and .u64 (bits .xor .u64 (x % M n) (a % M n)) (M n - 1) = xorF (x % M n) (a % M n) := by
  have hx := mod_range n h1 h8 x
  have ha := mod_range n h1 h8 a
  have hM := M_bounds n h1 h8
  have e : bits .xor .u64 (x % M n) (a % M n) = xorF (x % M n) (a % M n) := by
    have := bits_xor_u64_nat (x % M n).toNat (a % M n).toNat (by omega) (by omega)
    rwa [Int.toNat_of_nonneg hx.1, Int.toNat_of_nonneg ha.1] at this
  rw [e]
  have hlt : (x % M n).toNat ^^^ (a % M n).toNat < 2 ^ (8 * n.toNat) := Nat.xor_lt_two_pow (toNat_lt n _ hx.2 hx.1) (toNat_lt n _ ha.2 ha.1)
  have hlt' : xorF (x % M n) (a % M n) < M n := by unfold xorF M; exact_mod_cast hlt
  have h0 : 0 ≤ xorF (x % M n) (a % M n) := by unfold xorF; omega
  rw [and_mask n h1 h8 _ h0 (by omega), mod_small n _ h0 hlt']

end Go.Proofs.Qxb6618015a.Cmb
