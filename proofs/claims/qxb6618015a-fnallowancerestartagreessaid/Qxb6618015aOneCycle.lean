import Derived.Test.Qxb6618015aAlwWalks
import Derived.OpenShut
namespace Go.Proofs.Qxb6618015a.Alw
open Go.RowKit
set_option linter.unusedVariables false

theorem grown_trans {a b c : World} (h : Grown a b) (k : Grown b c) : Grown a c :=
  ⟨World.keptBut_trans h.1 k.1, fun x => (k.2.1 x).trans (h.2.1 x), Nat.le_trans h.2.2 k.2.2⟩

/-- A call that hands back an int64 and makes new memory at most. -/
def GivesI (f : Nat) (args : Array Value) (v : Int) : Prop := ∀ w : World, Calls Try.prog f args w fun e w' => e = .returned (.int .i64 v) ∧ Grown w w'

set_option maxHeartbeats 400000 in
theorem one_core (B L a n b1 b2 : Int) (hB0 : 0 ≤ B) (hB1 : B ≤ 2305843009213693952) (hL : -2305843009213693952 ≤ L) (hz : (B == 0) = true → 0 ≤ L) (a0 : 0 ≤ a) (a1 : a ≤ n) (n1 : n ≤ 18446744073709551614)
    (C1 : GivesI 18 #[.int .i64 B, .int .i64 L, .int .u64 a, .int .u64 a] L)
    (C2 : GivesI 18 #[.int .i64 B, .int .i64 L, .int .u64 a, .int .u64 n] b1)
    (C3 : GivesI 18 #[.int .i64 B, .int .i64 L, .int .u64 a, .int .u64 (n + 1)] b2)
    (hb : -2305843009213693952 ≤ b1)
    (f1 : B ≤ b1 → b2 = b1) (f2 : b1 < B → B < b1 + B → b2 = B) (f3 : b1 < B → b1 + B ≤ B → b2 = b1 + B) (w : World) :
    Calls Try.prog 7 #[.int .i64 B, .int .i64 L, .int .u64 a, .int .u64 n] w fun e w' => e = .returned (.bool true) ∧ Grown w w' := by
  have hn : (n == 18446744073709551615) = false := by simp; omega
  have hc : B ≤ b1 ∨ (b1 < B ∧ B < b1 + B) ∨ (b1 < B ∧ b1 + B ≤ B) := by omega
  by_cases z : (B == 0) = true
  · have hz' := hz z
    clear hz
    rcases hc with c | ⟨c, d⟩ | ⟨c, d⟩
    · have t : (b2 == b1) = true := by simpa using f1 c
      clear f1 f2 f3
      go_enter Try.func7, Try.ntmps7
      go_wp2_with fail
      refine (C1 _).mono ?_
      rintro e w1 ⟨rfl, g1⟩
      go_wp2_with fail
      refine (C2 _).mono ?_
      rintro e w2 ⟨rfl, g2⟩
      go_wp2_with fail
      refine (C3 _).mono ?_
      rintro e w3 ⟨rfl, g3⟩
      go_wp2_with fail
      go_ret
      exact ⟨rfl, grown_trans g1 (grown_trans g2 g3)⟩
    · exfalso
      simp at z
      omega
    · have t : (b2 == b1 + B) = true := by simpa using f3 c d
      clear f1 f2 f3
      go_enter Try.func7, Try.ntmps7
      go_wp2_with fail
      refine (C1 _).mono ?_
      rintro e w1 ⟨rfl, g1⟩
      go_wp2_with fail
      refine (C2 _).mono ?_
      rintro e w2 ⟨rfl, g2⟩
      go_wp2_with fail
      refine (C3 _).mono ?_
      rintro e w3 ⟨rfl, g3⟩
      go_wp2_with fail
      go_ret
      exact ⟨rfl, grown_trans g1 (grown_trans g2 g3)⟩
  · have z' : (B == 0) = false := by simpa using z
    clear z hz
    rcases hc with c | ⟨c, d⟩ | ⟨c, d⟩
    · have t : (b2 == b1) = true := by simpa using f1 c
      clear f1 f2 f3
      go_enter Try.func7, Try.ntmps7
      go_wp2_with fail
      refine (C1 _).mono ?_
      rintro e w1 ⟨rfl, g1⟩
      go_wp2_with fail
      refine (C2 _).mono ?_
      rintro e w2 ⟨rfl, g2⟩
      go_wp2_with fail
      refine (C3 _).mono ?_
      rintro e w3 ⟨rfl, g3⟩
      go_wp2_with fail
      go_ret
      exact ⟨rfl, grown_trans g1 (grown_trans g2 g3)⟩
    · have t : (b2 == B) = true := by simpa using f2 c d
      clear f1 f2 f3
      go_enter Try.func7, Try.ntmps7
      go_wp2_with fail
      refine (C1 _).mono ?_
      rintro e w1 ⟨rfl, g1⟩
      go_wp2_with fail
      refine (C2 _).mono ?_
      rintro e w2 ⟨rfl, g2⟩
      go_wp2_with fail
      refine (C3 _).mono ?_
      rintro e w3 ⟨rfl, g3⟩
      go_wp2_with fail
      go_ret
      exact ⟨rfl, grown_trans g1 (grown_trans g2 g3)⟩
    · have t : (b2 == b1 + B) = true := by simpa using f3 c d
      clear f1 f2 f3
      go_enter Try.func7, Try.ntmps7
      go_wp2_with fail
      refine (C1 _).mono ?_
      rintro e w1 ⟨rfl, g1⟩
      go_wp2_with fail
      refine (C2 _).mono ?_
      rintro e w2 ⟨rfl, g2⟩
      go_wp2_with fail
      refine (C3 _).mono ?_
      rintro e w3 ⟨rfl, g3⟩
      go_wp2_with fail
      go_ret
      exact ⟨rfl, grown_trans g1 (grown_trans g2 g3)⟩

/-- Outside the law's own guards it answers at once. -/
theorem one_out (B L a n : Int) (h : B < 0 ∨ 2305843009213693952 < B ∨ L < -2305843009213693952 ∨ (B = 0 ∧ L < 0) ∨ n < a ∨ n = 18446744073709551615) (w : World) :
    Calls Try.prog 7 #[.int .i64 B, .int .i64 L, .int .u64 a, .int .u64 n] w fun e w' => e = .returned (.bool true) ∧ Grown w w' := by
  by_cases c1 : B < 0
  · clear h
    go_enter Try.func7, Try.ntmps7
    go_wp2_with fail
    go_ret
    exact ⟨rfl, Grown.refl _⟩
  by_cases c2 : 2305843009213693952 < B
  · clear h
    go_enter Try.func7, Try.ntmps7
    go_wp2_with fail
    go_ret
    exact ⟨rfl, Grown.refl _⟩
  by_cases c3 : L < -2305843009213693952
  · clear h
    go_enter Try.func7, Try.ntmps7
    go_wp2_with fail
    go_ret
    exact ⟨rfl, Grown.refl _⟩
  by_cases c4 : B = 0
  · by_cases c5 : L < 0
    · have c4' : (B == 0) = true := by simpa using c4
      clear h c4
      go_enter Try.func7, Try.ntmps7
      go_wp2_with fail
      go_ret
      exact ⟨rfl, Grown.refl _⟩
    · have c4' : (B == 0) = true := by simpa using c4
      by_cases c6 : n < a
      · clear h c4
        go_enter Try.func7, Try.ntmps7
        go_wp2_with fail
        go_ret
        exact ⟨rfl, Grown.refl _⟩
      · have c7 : (n == 18446744073709551615) = true := by simp; omega
        clear h c4
        go_enter Try.func7, Try.ntmps7
        go_wp2_with fail
        go_ret
        exact ⟨rfl, Grown.refl _⟩
  · have c4' : (B == 0) = false := by simpa using c4
    by_cases c6 : n < a
    · clear h c4
      go_enter Try.func7, Try.ntmps7
      go_wp2_with fail
      go_ret
      exact ⟨rfl, Grown.refl _⟩
    · have c7 : (n == 18446744073709551615) = true := by simp; omega
      clear h c4
      go_enter Try.func7, Try.ntmps7
      go_wp2_with fail
      go_ret
      exact ⟨rfl, Grown.refl _⟩

theorem one_all (B L a n : Int) (a0 : 0 ≤ a) (n1 : n ≤ 18446744073709551615) (w : World) :
    Calls Try.prog 7 #[.int .i64 B, .int .i64 L, .int .u64 a, .int .u64 n] w fun e w' => e = .returned (.bool true) ∧ Grown w w' := by
  by_cases h : B < 0 ∨ 2305843009213693952 < B ∨ L < -2305843009213693952 ∨ (B = 0 ∧ L < 0) ∨ n < a ∨ n = 18446744073709551615
  · exact one_out B L a n h w
  · have hB0 : 0 ≤ B := by omega
    have hB1 : B ≤ 2305843009213693952 := by omega
    have hL : -2305843009213693952 ≤ L := by omega
    have hz : B = 0 → 0 ≤ L := by omega
    have C1 : GivesI 18 #[.int .i64 B, .int .i64 L, .int .u64 a, .int .u64 a] L := fun w => by
      have := at_any B L a a w a0 (Int.le_refl _) (by omega) hB0 hB1 hL hz
      rwa [Int.sub_self, bal_zero] at this
    have C2 : GivesI 18 #[.int .i64 B, .int .i64 L, .int .u64 a, .int .u64 n] (bal B L (n - a)) := fun w => at_any B L a n w a0 (by omega) n1 hB0 hB1 hL hz
    have C3 : GivesI 18 #[.int .i64 B, .int .i64 L, .int .u64 a, .int .u64 (n + 1)] (bal B L (n - a + 1)) := fun w => by
      have := at_any B L a (n + 1) w a0 (by omega) (by omega) hB0 hB1 hL hz
      rwa [show n + 1 - a = n - a + 1 by omega] at this
    have hs := bal_step B L (n - a) (by omega) hB0
    have hr := bal_range B L (n - a) (by omega) hB0
    exact one_core B L a n _ _ hB0 hB1 hL (fun z => hz (by simpa using z)) a0 (by omega) (by omega) C1 C2 C3 (by omega) hs.1 hs.2.1 hs.2.2 w
end Go.Proofs.Qxb6618015a.Alw
