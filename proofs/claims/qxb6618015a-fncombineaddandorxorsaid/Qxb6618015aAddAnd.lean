import Derived.Test.Qxb6618015aCmbWalks
namespace Go.Proofs.Qxb6618015a.Cmb
open Go.RowKit
set_option linter.unusedVariables false

/-- What a call that only computes leaves: the value, and the world as it was. -/
def Gives64 (f : Nat) (args : Array Value) (v : Int) : Prop := ∀ w : World, Calls Try.prog f args w fun e w' => e = .returned (.int .u64 v) ∧ w' = w

set_option maxHeartbeats 400000 in
theorem addand_core (n x a m X A P Q R S N F : Int) (h1 : 1 ≤ n) (h8 : n ≤ 8)
    (bx : bits .and .u64 x m = X) (ba : bits .and .u64 a m = A)
    (CM : Gives64 9 #[.int .u64 n] m)
    (CP : Gives64 10 #[.int .u8 2, .int .u64 x, .int .u64 a, .int .u64 0, .int .u64 n] P)
    (CQ : Gives64 10 #[.int .u8 3, .int .u64 x, .int .u64 a, .int .u64 0, .int .u64 n] Q)
    (CR : Gives64 10 #[.int .u8 4, .int .u64 x, .int .u64 a, .int .u64 0, .int .u64 n] R)
    (CS : Gives64 10 #[.int .u8 1, .int .u64 x, .int .u64 a, .int .u64 0, .int .u64 n] S)
    (CF : Gives64 10 #[.int .u8 1, .int .u64 S, .int .u64 N, .int .u64 0, .int .u64 n] F)
    (u1 : (bits .andNot .u64 P X != 0) = false) (u2 : (bits .andNot .u64 P A != 0) = false)
    (u3 : (bits .andNot .u64 X Q != 0) = false) (u4 : (bits .andNot .u64 A Q != 0) = false)
    (u5 : P + Q = X + A) (u6 : (R != IntKind.u64.wrap (Q - P)) = false)
    (u7 : (S != bits .and .u64 (IntKind.u64.wrap (X + A)) m) = false)
    (u8 : bits .and .u64 (IntKind.u64.wrap (-A)) m = N) (u9 : (F == X) = true) (w : World) :
    Calls Try.prog 4 #[.int .u64 x, .int .u64 a, .int .u64 n] w fun e w' => e = .returned (.bool true) ∧ w' = w := by
  go_enter Try.func4, Try.ntmps4
  go_wp2_with fail
  refine (CM _).mono ?_
  rintro e w' ⟨rfl, rfl⟩
  go_wp2_with fail
  refine (CP _).mono ?_
  rintro e w' ⟨rfl, rfl⟩
  go_wp2_with fail
  refine (CQ _).mono ?_
  rintro e w' ⟨rfl, rfl⟩
  go_wp2_with fail
  refine (CR _).mono ?_
  rintro e w' ⟨rfl, rfl⟩
  go_wp2_with fail
  refine (CS _).mono ?_
  rintro e w' ⟨rfl, rfl⟩
  go_wp2_with fail
  refine (CF _).mono ?_
  rintro e w' ⟨rfl, rfl⟩
  go_wp2_with fail
  go_ret
  exact ⟨rfl, rfl⟩

/-! ### The plain law -/
theorem toNat_cast {X : Int} (h : 0 ≤ X) : ((X.toNat : Nat) : Int) = X := Int.toNat_of_nonneg h
theorem and_plus_or (X A : Int) (x0 : 0 ≤ X) (x1 : X < 18446744073709551616) (a0 : 0 ≤ A) (a1 : A < 18446744073709551616) :
    andF X A + orF X A = X + A ∧ xorF X A = orF X A - andF X A := by
  have h := and_or_nat 64 X.toNat A.toNat (by omega) (by omega)
  unfold andF orF xorF
  omega
theorem and_sub_left (X A : Int) (x0 : 0 ≤ X) (x1 : X < 18446744073709551616) (a0 : 0 ≤ A) (a1 : A < 18446744073709551616) : bits .andNot .u64 (andF X A) X = 0 := by
  have hl : X.toNat &&& A.toNat ≤ X.toNat := Nat.and_le_left
  have h := andNot_u64 (X.toNat &&& A.toNat) X.toNat (by omega) (by omega) (by
    apply Nat.eq_of_testBit_eq; intro i
    rw [Nat.testBit_or, Nat.testBit_and]
    cases X.toNat.testBit i <;> cases A.toNat.testBit i <;> rfl)
  rw [toNat_cast x0] at h
  exact h
theorem and_sub_right (X A : Int) (x0 : 0 ≤ X) (x1 : X < 18446744073709551616) (a0 : 0 ≤ A) (a1 : A < 18446744073709551616) : bits .andNot .u64 (andF X A) A = 0 := by
  have hl : X.toNat &&& A.toNat ≤ X.toNat := Nat.and_le_left
  have h := andNot_u64 (X.toNat &&& A.toNat) A.toNat (by omega) (by omega) (by
    apply Nat.eq_of_testBit_eq; intro i
    rw [Nat.testBit_or, Nat.testBit_and]
    cases X.toNat.testBit i <;> cases A.toNat.testBit i <;> rfl)
  rw [toNat_cast a0] at h
  exact h
theorem or_sup_left (X A : Int) (x0 : 0 ≤ X) (x1 : X < 18446744073709551616) (a0 : 0 ≤ A) (a1 : A < 18446744073709551616) : bits .andNot .u64 X (orF X A) = 0 := by
  have hl : X.toNat ||| A.toNat < 2 ^ 64 := Nat.or_lt_two_pow (by omega) (by omega)
  have h := andNot_u64 X.toNat (X.toNat ||| A.toNat) (by omega) (by omega) (by
    apply Nat.eq_of_testBit_eq; intro i
    rw [Nat.testBit_or, Nat.testBit_or]
    cases X.toNat.testBit i <;> cases A.toNat.testBit i <;> rfl)
  rw [toNat_cast x0] at h
  exact h
theorem or_sup_right (X A : Int) (x0 : 0 ≤ X) (x1 : X < 18446744073709551616) (a0 : 0 ≤ A) (a1 : A < 18446744073709551616) : bits .andNot .u64 A (orF X A) = 0 := by
  have hl : X.toNat ||| A.toNat < 2 ^ 64 := Nat.or_lt_two_pow (by omega) (by omega)
  have h := andNot_u64 A.toNat (X.toNat ||| A.toNat) (by omega) (by omega) (by
    apply Nat.eq_of_testBit_eq; intro i
    rw [Nat.testBit_or, Nat.testBit_or]
    cases X.toNat.testBit i <;> cases A.toNat.testBit i <;> rfl)
  rw [toNat_cast a0] at h
  exact h
theorem xor_range (X A : Int) (x1 : X < 18446744073709551616) (a1 : A < 18446744073709551616) : 0 ≤ xorF X A ∧ xorF X A < 18446744073709551616 := by
  have hl : X.toNat ^^^ A.toNat < 2 ^ 64 := Nat.xor_lt_two_pow (by omega) (by omega)
  unfold xorF
  omega
/-- Adding the masked negation undoes the masked sum. -/
theorem add_neg_back (m X A : Int) (hm : 0 < m) (x0 : 0 ≤ X) (x1 : X < m) : ((X + A) % m % m + (-A) % m % m) % m = X := by
  rw [Int.emod_emod, Int.emod_emod, ← Int.add_emod]
  rw [show X + A + -A = X by omega]
  exact Int.emod_eq_of_lt x0 x1

theorem addand (n : Int) (h1 : 1 ≤ n) (h8 : n ≤ 8) (x a : Int) (x0 : 0 ≤ x) (x1 : x < 18446744073709551616) (a0 : 0 ≤ a) (a1 : a < 18446744073709551616) (w : World) :
    Calls Try.prog 4 #[.int .u64 x, .int .u64 a, .int .u64 n] w fun e w' => e = .returned (.bool true) ∧ w' = w := by
  have rX := mod_range n h1 h8 x
  have rA := mod_range n h1 h8 a
  have hM := M_bounds n h1 h8
  have rS := mod_range n h1 h8 (x % M n + a % M n)
  have rN := mod_range n h1 h8 (-(a % M n))
  have sm := and_plus_or (x % M n) (a % M n) rX.1 (by omega) rA.1 (by omega)
  have rR := xor_range (x % M n) (a % M n) (by omega) (by omega)
  have e1 := and_sub_left (x % M n) (a % M n) rX.1 (by omega) rA.1 (by omega)
  have e2 := and_sub_right (x % M n) (a % M n) rX.1 (by omega) rA.1 (by omega)
  have e3 := or_sup_left (x % M n) (a % M n) rX.1 (by omega) rA.1 (by omega)
  have e4 := or_sup_right (x % M n) (a % M n) rX.1 (by omega) rA.1 (by omega)
  have e6 : IntKind.u64.wrap (orF (x % M n) (a % M n) - andF (x % M n) (a % M n)) = xorF (x % M n) (a % M n) := by
    rw [← sm.2]; exact wraps_u64 _ rR.1 (by omega)
  have e7 := wrap_mask n h1 h8 (x % M n + a % M n)
  have e8 := wrap_mask n h1 h8 (-(a % M n))
  have e9 := add_neg_back (M n) (x % M n) (a % M n) (by omega) rX.1 rX.2
  exact addand_core n x a (M n - 1) (x % M n) (a % M n) (andF (x % M n) (a % M n)) (orF (x % M n) (a % M n)) (xorF (x % M n) (a % M n)) ((x % M n + a % M n) % M n) ((-(a % M n)) % M n)
    (((x % M n + a % M n) % M n % M n + (-(a % M n)) % M n % M n) % M n) h1 h8 (and_mask n h1 h8 x x0 x1) (and_mask n h1 h8 a a0 a1)
    (mask_any n h1 h8) (and_any n h1 h8 x a x0 x1 a0 a1) (or_any n h1 h8 x a x0 x1 a0 a1) (xor_any n h1 h8 x a x0 x1 a0 a1) (add_any n h1 h8 x a x0 x1 a0 a1)
    (add_any n h1 h8 _ _ rS.1 (by omega) rN.1 (by omega))
    (by rw [e1]; rfl) (by rw [e2]; rfl) (by rw [e3]; rfl) (by rw [e4]; rfl) sm.1 (by rw [e6]; simp) (by rw [e7]; simp) e8 (by rw [e9]; simp) w

/-- Outside the widths 1 to 8 the law answers at once. -/
theorem addand_out (n x a : Int) (h : n < 1 ∨ 8 < n) (w : World) :
    Calls Try.prog 4 #[.int .u64 x, .int .u64 a, .int .u64 n] w fun e w' => e = .returned (.bool true) ∧ w' = w := by
  by_cases c : n < 1
  · clear h
    go_enter Try.func4, Try.ntmps4
    go_wp2_with fail
    go_ret
    exact ⟨rfl, rfl⟩
  · have c' : 8 < n := by omega
    clear h
    go_enter Try.func4, Try.ntmps4
    go_wp2_with fail
    go_ret
    exact ⟨rfl, rfl⟩
end Go.Proofs.Qxb6618015a.Cmb
