import Derived.Test.Qxb6618015aOneCycle
namespace Go.Proofs.Qxb6618015a.Alw
open Go.RowKit
set_option linter.unusedVariables false

set_option maxHeartbeats 400000 in
theorem re_core (B L a n l bn bl br : Int) (hB0 : 0 ≤ B) (hB1 : B ≤ 2305843009213693952) (hL : -2305843009213693952 ≤ L) (hz : (B == 0) = true → 0 ≤ L) (a0 : 0 ≤ a) (a1 : a ≤ n) (l1 : n ≤ l)
    (C1 : GivesI 18 #[.int .i64 B, .int .i64 L, .int .u64 a, .int .u64 a] L)
    (C2 : GivesI 18 #[.int .i64 B, .int .i64 L, .int .u64 a, .int .u64 n] bn)
    (C3 : GivesI 18 #[.int .i64 B, .int .i64 L, .int .u64 a, .int .u64 l] bl)
    (C4 : GivesI 18 #[.int .i64 B, .int .i64 bn, .int .u64 n, .int .u64 l] br)
    (t : (br != bl) = false) (f1 : bn ≤ bl) (f2 : B < L → bl ≤ L) (f3 : L ≤ B → bl ≤ B) (w : World) :
    Calls Try.prog 8 #[.int .i64 B, .int .i64 L, .int .u64 a, .int .u64 n, .int .u64 l] w fun e w' => e = .returned (.bool true) ∧ Grown w w' := by
  by_cases z : (B == 0) = true
  · have hz' := hz z
    clear hz
    by_cases c : B < L
    · have t2 := f2 c
      clear f2 f3
      go_enter Try.func8, Try.ntmps8
      go_wp2_with fail
      refine (C1 _).mono ?_
      rintro e w1 ⟨rfl, g1⟩
      go_wp2_with fail
      refine (C2 _).mono ?_
      rintro e w2 ⟨rfl, g2⟩
      go_wp2_with fail
      refine (C3 _).mono ?_
      rintro e w3 ⟨rfl, g3⟩
      go_wp2_with fail
      refine (C4 _).mono ?_
      rintro e w4 ⟨rfl, g4⟩
      go_wp2_with fail
      go_ret
      exact ⟨rfl, grown_trans g1 (grown_trans g2 (grown_trans g3 g4))⟩
    · have t2 := f3 (by omega)
      clear f2 f3
      go_enter Try.func8, Try.ntmps8
      go_wp2_with fail
      refine (C1 _).mono ?_
      rintro e w1 ⟨rfl, g1⟩
      go_wp2_with fail
      refine (C2 _).mono ?_
      rintro e w2 ⟨rfl, g2⟩
      go_wp2_with fail
      refine (C3 _).mono ?_
      rintro e w3 ⟨rfl, g3⟩
      go_wp2_with fail
      refine (C4 _).mono ?_
      rintro e w4 ⟨rfl, g4⟩
      go_wp2_with fail
      go_ret
      exact ⟨rfl, grown_trans g1 (grown_trans g2 (grown_trans g3 g4))⟩
  · have z' : (B == 0) = false := by simpa using z
    clear z hz
    by_cases c : B < L
    · have t2 := f2 c
      clear f2 f3
      go_enter Try.func8, Try.ntmps8
      go_wp2_with fail
      refine (C1 _).mono ?_
      rintro e w1 ⟨rfl, g1⟩
      go_wp2_with fail
      refine (C2 _).mono ?_
      rintro e w2 ⟨rfl, g2⟩
      go_wp2_with fail
      refine (C3 _).mono ?_
      rintro e w3 ⟨rfl, g3⟩
      go_wp2_with fail
      refine (C4 _).mono ?_
      rintro e w4 ⟨rfl, g4⟩
      go_wp2_with fail
      go_ret
      exact ⟨rfl, grown_trans g1 (grown_trans g2 (grown_trans g3 g4))⟩
    · have t2 := f3 (by omega)
      clear f2 f3
      go_enter Try.func8, Try.ntmps8
      go_wp2_with fail
      refine (C1 _).mono ?_
      rintro e w1 ⟨rfl, g1⟩
      go_wp2_with fail
      refine (C2 _).mono ?_
      rintro e w2 ⟨rfl, g2⟩
      go_wp2_with fail
      refine (C3 _).mono ?_
      rintro e w3 ⟨rfl, g3⟩
      go_wp2_with fail
      refine (C4 _).mono ?_
      rintro e w4 ⟨rfl, g4⟩
      go_wp2_with fail
      go_ret
      exact ⟨rfl, grown_trans g1 (grown_trans g2 (grown_trans g3 g4))⟩

/-- Outside the law's own guards it answers at once. -/
theorem re_out (B L a n l : Int) (h : B < 0 ∨ 2305843009213693952 < B ∨ L < -2305843009213693952 ∨ (B = 0 ∧ L < 0) ∨ n < a ∨ l < n) (w : World) :
    Calls Try.prog 8 #[.int .i64 B, .int .i64 L, .int .u64 a, .int .u64 n, .int .u64 l] w fun e w' => e = .returned (.bool true) ∧ Grown w w' := by
  by_cases c1 : B < 0
  · clear h
    go_enter Try.func8, Try.ntmps8
    go_wp2_with fail
    go_ret
    exact ⟨rfl, Grown.refl _⟩
  by_cases c2 : 2305843009213693952 < B
  · clear h
    go_enter Try.func8, Try.ntmps8
    go_wp2_with fail
    go_ret
    exact ⟨rfl, Grown.refl _⟩
  by_cases c3 : L < -2305843009213693952
  · clear h
    go_enter Try.func8, Try.ntmps8
    go_wp2_with fail
    go_ret
    exact ⟨rfl, Grown.refl _⟩
  by_cases c4 : B = 0
  · have c4' : (B == 0) = true := by simpa using c4
    by_cases c5 : L < 0
    · clear h c4
      go_enter Try.func8, Try.ntmps8
      go_wp2_with fail
      go_ret
      exact ⟨rfl, Grown.refl _⟩
    · by_cases c6 : n < a
      · clear h c4
        go_enter Try.func8, Try.ntmps8
        go_wp2_with fail
        go_ret
        exact ⟨rfl, Grown.refl _⟩
      · have c7 : l < n := by omega
        clear h c4
        go_enter Try.func8, Try.ntmps8
        go_wp2_with fail
        go_ret
        exact ⟨rfl, Grown.refl _⟩
  · have c4' : (B == 0) = false := by simpa using c4
    by_cases c6 : n < a
    · clear h c4
      go_enter Try.func8, Try.ntmps8
      go_wp2_with fail
      go_ret
      exact ⟨rfl, Grown.refl _⟩
    · have c7 : l < n := by omega
      clear h c4
      go_enter Try.func8, Try.ntmps8
      go_wp2_with fail
      go_ret
      exact ⟨rfl, Grown.refl _⟩

theorem re_all (B L a n l : Int) (a0 : 0 ≤ a) (n1 : l ≤ 18446744073709551615) (w : World) :
    Calls Try.prog 8 #[.int .i64 B, .int .i64 L, .int .u64 a, .int .u64 n, .int .u64 l] w fun e w' => e = .returned (.bool true) ∧ Grown w w' := by
  by_cases h : B < 0 ∨ 2305843009213693952 < B ∨ L < -2305843009213693952 ∨ (B = 0 ∧ L < 0) ∨ n < a ∨ l < n
  · exact re_out B L a n l h w
  · have hB0 : 0 ≤ B := by omega
    have hB1 : B ≤ 2305843009213693952 := by omega
    have hL : -2305843009213693952 ≤ L := by omega
    have hz : B = 0 → 0 ≤ L := by omega
    have hr := bal_range B L (n - a) (by omega) hB0
    have hl := bal_range B L (l - a) (by omega) hB0
    have C1 : GivesI 18 #[.int .i64 B, .int .i64 L, .int .u64 a, .int .u64 a] L := fun w => by
      have := at_any B L a a w a0 (Int.le_refl _) (by omega) hB0 hB1 hL hz
      rwa [Int.sub_self, bal_zero] at this
    have C2 : GivesI 18 #[.int .i64 B, .int .i64 L, .int .u64 a, .int .u64 n] (bal B L (n - a)) := fun w => at_any B L a n w a0 (by omega) (by omega) hB0 hB1 hL hz
    have C3 : GivesI 18 #[.int .i64 B, .int .i64 L, .int .u64 a, .int .u64 l] (bal B L (l - a)) := fun w => at_any B L a l w a0 (by omega) (by omega) hB0 hB1 hL hz
    have C4 : GivesI 18 #[.int .i64 B, .int .i64 (bal B L (n - a)), .int .u64 n, .int .u64 l] (bal B (bal B L (n - a)) (l - n)) := fun w => at_any B _ n l w (by omega) (by omega) (by omega) hB0 hB1 (by omega) (by omega)
    have hs := bal_restart B L (n - a) (l - n) (by omega) (by omega) hB0
    rw [show n - a + (l - n) = l - a by omega] at hs
    exact re_core B L a n l _ _ _ hB0 hB1 hL (fun z => hz (by simpa using z)) a0 (by omega) (by omega) C1 C2 C3 C4 (by rw [hs.1]; simp) hs.2 (by omega) (by omega) w
end Go.Proofs.Qxb6618015a.Alw
