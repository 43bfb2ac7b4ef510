import Derived.Test.Qxb6618015aRows
import Derived.Test.Qxb6618015aCmbPlain
import Derived.WalkKit
import Derived.RowKit3
import Derived.OpenShut
namespace Go.Proofs.Qxb6618015a.Cmb
open Go.RowKit
set_option linter.unusedVariables false
theorem ret_int {k : IntKind} {a b : Int} (h : a = b) : Ending.returned (.int k a) = .returned (.int k b) := by rw [h]

theorem u64_of_wf {x : Int} (h : (Lit.int .u64 x).wf = true) : 0 ≤ x ∧ x < 18446744073709551616 := by
  have h' := bounds_u64 h
  omega

theorem mask_any (n : Int) (h1 : 1 ≤ n) (h8 : n ≤ 8) (w : World) : Calls Try.prog 9 #[.int .u64 n] w fun e w' => e = .returned (.int .u64 (M n - 1)) ∧ w' = w := by
  by_cases c : 8 ≤ n
  · have e : n = 8 := by omega
    subst e
    go_enter Try.func9, Try.ntmps9
    go_wp2
    go_ret
    exact ⟨ret_int (by decide +kernel), rfl⟩
  · have H : Hid (IntKind.u64.wrap (IntKind.u64.wrap (2 ^ (8 * n).toNat) - 1) = M n - 1) := shl_mask n h1 (by omega)
    go_enter Try.func9, Try.ntmps9
    go_wp2
    go_ret
    exact ⟨ret_int H.out, rfl⟩

theorem inc_any (n : Int) (h1 : 1 ≤ n) (h8 : n ≤ 8) (x a : Int) (x0 : 0 ≤ x) (x1 : x < 18446744073709551616) (a0 : 0 ≤ a) (a1 : a < 18446744073709551616) (w : World) : Calls Try.prog 10 #[.int .u8 8, .int .u64 x, .int .u64 a, .int .u64 0, .int .u64 n] w fun e w' => e = .returned (.int .u64 (incF (x % M n) (a % M n))) ∧ w' = w := by
  have H : Hid ((18446744073709551615 : Int) / 2 ^ (64 - 8 * n).toNat = M n - 1) := shr_mask n h1 h8
  have X : Hid (bits .and .u64 x (M n - 1) = x % M n) := and_mask n h1 h8 x x0 x1
  have A : Hid (bits .and .u64 a (M n - 1) = a % M n) := and_mask n h1 h8 a a0 a1
  clear x0 x1 a0 a1
  go_enter Try.func10, Try.ntmps10
  go_wp2
  · rename_i h
    rw [H.out, X.out, A.out] at h
    go_ret
    exact ⟨ret_int (by rw [H.out]; exact inc_ge n h1 h8 x a h), rfl⟩
  · rename_i h
    rw [H.out, X.out, A.out] at h
    go_ret
    exact ⟨ret_int (by rw [H.out, X.out]; exact inc_lt n h1 h8 x a h), rfl⟩
theorem add_any (n : Int) (h1 : 1 ≤ n) (h8 : n ≤ 8) (x a : Int) (x0 : 0 ≤ x) (x1 : x < 18446744073709551616) (a0 : 0 ≤ a) (a1 : a < 18446744073709551616) (w : World) : Calls Try.prog 10 #[.int .u8 1, .int .u64 x, .int .u64 a, .int .u64 0, .int .u64 n] w fun e w' => e = .returned (.int .u64 ((x % M n + a % M n) % M n)) ∧ w' = w := by
  have H : Hid ((18446744073709551615 : Int) / 2 ^ (64 - 8 * n).toNat = M n - 1) := shr_mask n h1 h8
  have X : Hid (bits .and .u64 x (M n - 1) = x % M n) := and_mask n h1 h8 x x0 x1
  have A : Hid (bits .and .u64 a (M n - 1) = a % M n) := and_mask n h1 h8 a a0 a1
  clear x0 x1 a0 a1
  go_enter Try.func10, Try.ntmps10
  go_wp2
  go_ret
  exact ⟨ret_int (by rw [H.out, X.out, A.out]; exact add_all n h1 h8 x a), rfl⟩

theorem and_any (n : Int) (h1 : 1 ≤ n) (h8 : n ≤ 8) (x a : Int) (x0 : 0 ≤ x) (x1 : x < 18446744073709551616) (a0 : 0 ≤ a) (a1 : a < 18446744073709551616) (w : World) : Calls Try.prog 10 #[.int .u8 2, .int .u64 x, .int .u64 a, .int .u64 0, .int .u64 n] w fun e w' => e = .returned (.int .u64 (andF (x % M n) (a % M n))) ∧ w' = w := by
  have H : Hid ((18446744073709551615 : Int) / 2 ^ (64 - 8 * n).toNat = M n - 1) := shr_mask n h1 h8
  have X : Hid (bits .and .u64 x (M n - 1) = x % M n) := and_mask n h1 h8 x x0 x1
  have A : Hid (bits .and .u64 a (M n - 1) = a % M n) := and_mask n h1 h8 a a0 a1
  clear x0 x1 a0 a1
  go_enter Try.func10, Try.ntmps10
  go_wp2
  go_ret
  exact ⟨ret_int (by rw [H.out, X.out, A.out]; exact and_all n h1 h8 x a), rfl⟩

theorem or_any (n : Int) (h1 : 1 ≤ n) (h8 : n ≤ 8) (x a : Int) (x0 : 0 ≤ x) (x1 : x < 18446744073709551616) (a0 : 0 ≤ a) (a1 : a < 18446744073709551616) (w : World) : Calls Try.prog 10 #[.int .u8 3, .int .u64 x, .int .u64 a, .int .u64 0, .int .u64 n] w fun e w' => e = .returned (.int .u64 (orF (x % M n) (a % M n))) ∧ w' = w := by
  have H : Hid ((18446744073709551615 : Int) / 2 ^ (64 - 8 * n).toNat = M n - 1) := shr_mask n h1 h8
  have X : Hid (bits .and .u64 x (M n - 1) = x % M n) := and_mask n h1 h8 x x0 x1
  have A : Hid (bits .and .u64 a (M n - 1) = a % M n) := and_mask n h1 h8 a a0 a1
  clear x0 x1 a0 a1
  go_enter Try.func10, Try.ntmps10
  go_wp2
  go_ret
  exact ⟨ret_int (by rw [H.out, X.out, A.out]; exact or_all n h1 h8 x a), rfl⟩

theorem xor_any (n : Int) (h1 : 1 ≤ n) (h8 : n ≤ 8) (x a : Int) (x0 : 0 ≤ x) (x1 : x < 18446744073709551616) (a0 : 0 ≤ a) (a1 : a < 18446744073709551616) (w : World) : Calls Try.prog 10 #[.int .u8 4, .int .u64 x, .int .u64 a, .int .u64 0, .int .u64 n] w fun e w' => e = .returned (.int .u64 (xorF (x % M n) (a % M n))) ∧ w' = w := by
  have H : Hid ((18446744073709551615 : Int) / 2 ^ (64 - 8 * n).toNat = M n - 1) := shr_mask n h1 h8
  have X : Hid (bits .and .u64 x (M n - 1) = x % M n) := and_mask n h1 h8 x x0 x1
  have A : Hid (bits .and .u64 a (M n - 1) = a % M n) := and_mask n h1 h8 a a0 a1
  clear x0 x1 a0 a1
  go_enter Try.func10, Try.ntmps10
  go_wp2
  go_ret
  exact ⟨ret_int (by rw [H.out, X.out, A.out]; exact xor_all n h1 h8 x a), rfl⟩

theorem dec_any (n : Int) (h1 : 1 ≤ n) (h8 : n ≤ 8) (x a : Int) (x0 : 0 ≤ x) (x1 : x < 18446744073709551616) (a0 : 0 ≤ a) (a1 : a < 18446744073709551616) (w : World) : Calls Try.prog 10 #[.int .u8 9, .int .u64 x, .int .u64 a, .int .u64 0, .int .u64 n] w fun e w' => e = .returned (.int .u64 (decF (x % M n) (a % M n))) ∧ w' = w := by
  have H : Hid ((18446744073709551615 : Int) / 2 ^ (64 - 8 * n).toNat = M n - 1) := shr_mask n h1 h8
  have X : Hid (bits .and .u64 x (M n - 1) = x % M n) := and_mask n h1 h8 x x0 x1
  have A : Hid (bits .and .u64 a (M n - 1) = a % M n) := and_mask n h1 h8 a a0 a1
  clear x0 x1 a0 a1
  by_cases c1 : bits .and .u64 x (18446744073709551615 / 2 ^ (64 - 8 * n).toNat) = 0
  · have b1 : (bits .and .u64 x (18446744073709551615 / 2 ^ (64 - 8 * n).toNat) == 0) = true := by simpa using c1
    have c2 := c1
    rw [H.out, X.out] at c2
    have C : Hid (x % M n = 0) := c2
    clear c1 c2
    go_enter Try.func10, Try.ntmps10
    go_wp2
    go_ret
    exact ⟨ret_int (by rw [H.out, A.out]; exact dec_wrap n h1 h8 x a (.inl C.out)), rfl⟩
  · have b1 : (bits .and .u64 x (18446744073709551615 / 2 ^ (64 - 8 * n).toNat) == 0) = false := by simpa using c1
    have C1 : Hid (¬ x % M n = 0) := by rw [H.out, X.out] at c1; exact c1
    clear c1
    by_cases c2 : bits .and .u64 a (18446744073709551615 / 2 ^ (64 - 8 * n).toNat) < bits .and .u64 x (18446744073709551615 / 2 ^ (64 - 8 * n).toNat)
    · have C2 : Hid (a % M n < x % M n) := by rw [H.out, X.out, A.out] at c2; exact c2
      go_enter Try.func10, Try.ntmps10
      go_wp2
      go_ret
      exact ⟨ret_int (by rw [H.out, A.out]; exact dec_wrap n h1 h8 x a (.inr C2.out)), rfl⟩
    · have C2 : Hid (¬ a % M n < x % M n) := by rw [H.out, X.out, A.out] at c2; exact c2
      go_enter Try.func10, Try.ntmps10
      go_wp2
      go_ret
      exact ⟨ret_int (by rw [H.out, X.out]; exact dec_down n h1 h8 x a C1.out (Int.not_lt.mpr C2.out)), rfl⟩
end Go.Proofs.Qxb6618015a.Cmb
