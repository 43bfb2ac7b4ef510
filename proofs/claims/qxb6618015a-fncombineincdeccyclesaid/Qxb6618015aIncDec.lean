import Derived.Test.Qxb6618015aCmbWalks
namespace Go.Proofs.Qxb6618015a.Cmb
open Go.RowKit
set_option linter.unusedVariables false

/-! ### The plain law: successor and predecessor on the cycle 0..A -/
theorem incF_le (X A : Int) (hX : 0 ≤ X) (hA : 0 ≤ A) : 0 ≤ incF X A ∧ incF X A ≤ A := by unfold incF; split <;> omega
theorem decF_le (X A : Int) (hX : 0 ≤ X) (hA : 0 ≤ A) : 0 ≤ decF X A ∧ decF X A ≤ A := by unfold decF; split <;> omega
theorem incF_above (X A : Int) (h : A < X) : incF X A = 0 := by unfold incF; rw [if_pos (by omega)]
theorem decF_above (X A : Int) (h : A < X) : decF X A = A := by unfold decF; rw [if_pos (by omega)]
theorem dec_inc (X A : Int) (hX : 0 ≤ X) (hA : 0 ≤ A) (h : X ≤ A) : decF (incF X A) A = X := by unfold incF decF; split <;> split <;> omega
theorem inc_dec (X A : Int) (hX : 0 ≤ X) (hA : 0 ≤ A) (h : X ≤ A) : incF (decF X A) A = X := by unfold incF decF; split <;> split <;> omega
theorem incF_below (X A : Int) (h : X < A) : incF X A = X + 1 := by unfold incF; rw [if_neg (by omega)]

/-- What a call that only computes leaves: the value, and the world as it was. -/
def Gives (f : Nat) (args : Array Value) (v : Int) : Prop := ∀ w : World, Calls Try.prog f args w fun e w' => e = .returned (.int .u64 v) ∧ w' = w

set_option maxHeartbeats 400000 in
theorem incdec_core (n x a m X A I D : Int) (h1 : 1 ≤ n) (h8 : n ≤ 8) (r1 : 0 ≤ X) (r3 : 0 ≤ A) (r4 : A ≤ 18446744073709551615) (l1 : 0 ≤ I) (l2 : I ≤ A) (l3 : 0 ≤ D) (l4 : D ≤ A)
    (bx : bits .and .u64 x m = X) (ba : bits .and .u64 a m = A)
    (CM : Gives 9 #[.int .u64 n] m)
    (CI : Gives 10 #[.int .u8 8, .int .u64 x, .int .u64 a, .int .u64 0, .int .u64 n] I)
    (CD : Gives 10 #[.int .u8 9, .int .u64 x, .int .u64 a, .int .u64 0, .int .u64 n] D)
    (DI ID : Int)
    (CDI : Gives 10 #[.int .u8 9, .int .u64 I, .int .u64 a, .int .u64 0, .int .u64 n] DI)
    (CID : Gives 10 #[.int .u8 8, .int .u64 D, .int .u64 a, .int .u64 0, .int .u64 n] ID)
    (fI : A < X → I = 0) (fD : A < X → D = A) (fDI : X ≤ A → DI = X) (fID : X ≤ A → ID = X) (fB : X < A → I = X + 1) (w : World) :
    Calls Try.prog 3 #[.int .u64 x, .int .u64 a, .int .u64 n] w fun e w' => e = .returned (.bool true) ∧ w' = w := by
  by_cases c : A < X
  · have t1 : (I == 0) = true := by simpa using fI c
    have t2 : (D == A) = true := by simpa using fD c
    clear fI fD fDI fID fB CDI CID
    go_enter Try.func3, Try.ntmps3
    go_wp2_with fail
    refine (CM _).mono ?_
    rintro e w' ⟨rfl, rfl⟩
    go_wp2_with fail
    refine (CI _).mono ?_
    rintro e w' ⟨rfl, rfl⟩
    go_wp2_with fail
    refine (CD _).mono ?_
    rintro e w' ⟨rfl, rfl⟩
    go_wp2_with fail
    go_ret
    exact ⟨rfl, rfl⟩
  · have t1 : (DI != X) = false := by simpa using fDI (by omega)
    have t2 : (ID != X) = false := by simpa using fID (by omega)
    by_cases c' : X < A
    · have t3 : (I != X + 1) = false := by simpa using fB c'
      clear fI fD fDI fID fB
      go_enter Try.func3, Try.ntmps3
      go_wp2_with fail
      refine (CM _).mono ?_
      rintro e w' ⟨rfl, rfl⟩
      go_wp2_with fail
      refine (CI _).mono ?_
      rintro e w' ⟨rfl, rfl⟩
      go_wp2_with fail
      refine (CD _).mono ?_
      rintro e w' ⟨rfl, rfl⟩
      go_wp2_with fail
      refine (CDI _).mono ?_
      rintro e w' ⟨rfl, rfl⟩
      go_wp2_with fail
      refine (CID _).mono ?_
      rintro e w' ⟨rfl, rfl⟩
      go_wp2_with fail
      go_ret
      exact ⟨rfl, rfl⟩
    · clear fI fD fDI fID fB
      go_enter Try.func3, Try.ntmps3
      go_wp2_with fail
      refine (CM _).mono ?_
      rintro e w' ⟨rfl, rfl⟩
      go_wp2_with fail
      refine (CI _).mono ?_
      rintro e w' ⟨rfl, rfl⟩
      go_wp2_with fail
      refine (CD _).mono ?_
      rintro e w' ⟨rfl, rfl⟩
      go_wp2_with fail
      refine (CDI _).mono ?_
      rintro e w' ⟨rfl, rfl⟩
      go_wp2_with fail
      refine (CID _).mono ?_
      rintro e w' ⟨rfl, rfl⟩
      go_wp2_with fail
      go_ret
      exact ⟨rfl, rfl⟩

theorem incdec (n : Int) (h1 : 1 ≤ n) (h8 : n ≤ 8) (x a : Int) (x0 : 0 ≤ x) (x1 : x < 18446744073709551616) (a0 : 0 ≤ a) (a1 : a < 18446744073709551616) (w : World) :
    Calls Try.prog 3 #[.int .u64 x, .int .u64 a, .int .u64 n] w fun e w' => e = .returned (.bool true) ∧ w' = w := by
  have rX := mod_range n h1 h8 x
  have rA := mod_range n h1 h8 a
  have hM := M_bounds n h1 h8
  have bx := and_mask n h1 h8 x x0 x1
  have ba := and_mask n h1 h8 a a0 a1
  have li := incF_le (x % M n) (a % M n) rX.1 rA.1
  have ld := decF_le (x % M n) (a % M n) rX.1 rA.1
  have CDI := dec_any n h1 h8 (incF (x % M n) (a % M n)) a li.1 (by omega) a0 a1
  have CID := inc_any n h1 h8 (decF (x % M n) (a % M n)) a ld.1 (by omega) a0 a1
  rw [mod_small n _ li.1 (by omega)] at CDI
  rw [mod_small n _ ld.1 (by omega)] at CID
  exact incdec_core n x a (M n - 1) (x % M n) (a % M n) (incF (x % M n) (a % M n)) (decF (x % M n) (a % M n)) h1 h8 rX.1 rA.1 (by omega) li.1 li.2 ld.1 ld.2 bx ba
    (mask_any n h1 h8) (inc_any n h1 h8 x a x0 x1 a0 a1) (dec_any n h1 h8 x a x0 x1 a0 a1) _ _ CDI CID
    (incF_above _ _) (decF_above _ _) (dec_inc _ _ rX.1 rA.1) (inc_dec _ _ rX.1 rA.1) (incF_below _ _) w

/-- Outside the widths 1 to 8 the law answers at once. -/
theorem incdec_out (n x a : Int) (h : n < 1 ∨ 8 < n) (w : World) :
    Calls Try.prog 3 #[.int .u64 x, .int .u64 a, .int .u64 n] w fun e w' => e = .returned (.bool true) ∧ w' = w := by
  by_cases c : n < 1
  · clear h
    go_enter Try.func3, Try.ntmps3
    go_wp2_with fail
    go_ret
    exact ⟨rfl, rfl⟩
  · have c' : 8 < n := by omega
    clear h
    go_enter Try.func3, Try.ntmps3
    go_wp2_with fail
    go_ret
    exact ⟨rfl, rfl⟩
end Go.Proofs.Qxb6618015a.Cmb
