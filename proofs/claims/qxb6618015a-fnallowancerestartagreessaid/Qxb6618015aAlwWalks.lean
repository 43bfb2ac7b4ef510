import Derived.Test.Qxb6618015aRows
import Derived.Test.Qxb6618015aAlwPlain
import Derived.WalkKit
import Derived.RowKit3
import Derived.Deep.QuietTactic
import Derived.BigQuiet
namespace Go.Proofs.Qxb6618015a.Alw
open Go.RowKit
set_option linter.unusedVariables false
theorem ret_int {k : IntKind} {a b : Int} (h : a = b) : Ending.returned (.int k a) = .returned (.int k b) := by rw [h]

theorem sum_fits (L c p : Int) (hL : -2305843009213693952 ≤ L) (c0 : 0 ≤ c) (c1 : c ≤ p) (p1 : L + p < 2305843009213693952) (B : Int) (e : c * B = p) :
    wrap64 (L + wrap64 (wrap64 c * B)) = L + c * B := by
  have e1 : wrap64 c = c := by unfold wrap64; omega
  rw [e1, e]
  unfold wrap64; omega

/-- bytesAt, for an allowance that lies at block b. -/
theorem bytes_any (b : Nat) (B L a n : Int) (w : World) (c0 : w.cell? ⟨b, 0, none⟩ = some (.int .i64 B)) (c1 : w.cell? ⟨b, 1, none⟩ = some (.int .i64 L)) (c2 : w.cell? ⟨b, 2, none⟩ = some (.int .u64 a))
    (a0 : 0 ≤ a) (a1 : a ≤ n) (n1 : n ≤ 18446744073709551615) (hB0 : 0 ≤ B) (hB1 : B ≤ 2305843009213693952) (hL : -2305843009213693952 ≤ L) (hz : B = 0 → 0 ≤ L) :
    Calls Try.prog 19 #[.pointer (some ⟨b, 0, none⟩), .int .u64 n] w fun e w' => e = .returned (.int .i64 (bal B L (n - a))) ∧ ∃ k, w' = w.drewN k := by
  by_cases h : n - a = 0
  · have h' : (n - a == 0) = true := by simpa using h
    have e0 : L = bal B L (n - a) := by rw [h, bal_zero]
    have E : Hid (L = bal B L (n - a)) := e0
    clear e0
    clear h hz
    go_enter Try.func19, Try.ntmps19
    go_wp2
    go_quiet (fail)
    go_wp2
    go_ret
    exact ⟨ret_int E.out, _, rfl⟩
  · have h' : (n - a == 0) = false := by simpa using h
    clear h
    by_cases hl : B ≤ L
    · have E : Hid (L = bal B L (n - a)) := (bal_above B L _ hl).symm
      clear hz
      go_enter Try.func19, Try.ntmps19
      go_wp2
      go_quiet (fail)
      go_wp2
      go_ret
      exact ⟨ret_int E.out, _, rfl⟩
    · have hl' : L < B := by omega
      have hB : 1 ≤ B := by omega
      clear hl hz hB0
      by_cases hq : IntKind.u64.wrap ((B - L + B - 1) / B) ≤ n - a
      · have E : Hid (B = bal B L (n - a)) := (bal_full B L _ hB hB1 hl' hL hq).symm
        go_enter Try.func19, Try.ntmps19
        go_wp2
        go_quiet (fail)
        go_wp2
        go_quiet (fail)
        go_wp2
        go_quiet (fail)
        go_wp2
        go_ret
        exact ⟨ret_int E.out, _, by first | rfl | (simp only [World.drewN_drewN]; rfl)⟩
      · have hq' : n - a < IntKind.u64.wrap ((B - L + B - 1) / B) := by omega
        clear hq
        obtain ⟨f1, f2, f3, f4⟩ := bal_few B L (n - a) hB hB1 hl' hL (by omega) hq'
        have E : Hid (wrap64 (L + wrap64 (wrap64 (n - a) * B)) = bal B L (n - a)) := by
          rw [f1]
          exact sum_fits L (n - a) _ hL (by omega) f4 (by omega) B rfl
        clear f1 f2 f3 f4
        go_enter Try.func19, Try.ntmps19
        go_wp2
        go_quiet (fail)
        go_wp2
        go_quiet (fail)
        go_wp2
        go_quiet (fail)
        go_wp2
        go_quiet (fail)
        go_wp2
        go_ret
        exact ⟨ret_int E.out, _, by first | rfl | (simp only [World.drewN_drewN]; rfl)⟩

theorem at_any (B L a n : Int) (w : World)
    (a0 : 0 ≤ a) (a1 : a ≤ n) (n1 : n ≤ 18446744073709551615) (hB0 : 0 ≤ B) (hB1 : B ≤ 2305843009213693952) (hL : -2305843009213693952 ≤ L) (hz : B = 0 → 0 ≤ L) :
    Calls Try.prog 18 #[.int .i64 B, .int .i64 L, .int .u64 a, .int .u64 n] w fun e w' => e = .returned (.int .i64 (bal B L (n - a))) ∧ Grown w w' := by
  have HZ : Hid (B = 0 → 0 ≤ L) := hz
  clear hz
  go_enter Try.func18, Try.ntmps18
  go_wp2_with fail
  refine (bytes_any _ B L a n _ ?_ ?_ ?_ a0 a1 n1 hB0 hB1 hL HZ.out).mono ?_
  · simp [go_sem]
  · simp [go_sem]
  · simp [go_sem]
  rintro e w' ⟨rfl, k, rfl⟩
  go_wp2_with fail
  go_ret
  exact ⟨rfl, by repeat (first | exact Grown.refl _ | apply Grown.drew | apply Grown.alloc)⟩
end Go.Proofs.Qxb6618015a.Alw
