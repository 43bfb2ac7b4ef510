import Derived.Test.Qxb6618654aHexFour
namespace Go.Proofs.Qxb6618654a.Hex
open Go.RowKit
set_option linter.unusedVariables false

/-! ### zzModelHex4: the last place that is no digit; the digits behind it -/
def kf (f : Nat → Int) : Nat → Int
  | 0 => -1
  | i + 1 => if hv (f i) < 0 then (i : Int) else kf f i
def tlF (f : Nat → Int) (s : Nat) : Nat → Int
  | 0 => 0
  | m + 1 => tlF f s m * 16 + hv (f (s + m))
def pwF : Nat → Int
  | 0 => 1
  | m + 1 => pwF m * 16
theorem kf_range (f : Nat → Int) (i : Nat) : -1 ≤ kf f i ∧ kf f i < i := by
  induction i with
  | zero => unfold kf; omega
  | succ i ih => unfold kf; split <;> omega
theorem kf_after (f : Nat → Int) (n i : Nat) (h : kf f n < (i : Int)) (hi : i < n) : 0 ≤ hv (f i) := by
  induction n with
  | zero => omega
  | succ n ih =>
    unfold kf at h
    split at h
    · omega
    · by_cases e : i = n
      · rw [e]; omega
      · exact ih h (by omega)
theorem pw_eq (m : Nat) : (m = 0 → pwF m = 1) ∧ (m = 1 → pwF m = 16) ∧ (m = 2 → pwF m = 256) ∧ (m = 3 → pwF m = 4096) ∧ (m = 4 → pwF m = 65536) := by
  refine ⟨?_, ?_, ?_, ?_, ?_⟩ <;> (intro h; subst h; rfl)
theorem pw_range (m : Nat) (h : m ≤ 4) : 1 ≤ pwF m ∧ pwF m ≤ 65536 := by
  have := pw_eq m
  omega
theorem tl_range (f : Nat → Int) (s m : Nat) (h : s + m ≤ 4) (hd : ∀ i, s ≤ i → i < 4 → 0 ≤ hv (f i)) : 0 ≤ tlF f s m ∧ tlF f s m < pwF m := by
  induction m with
  | zero =>
    show (0 : Int) ≤ 0 ∧ (0 : Int) < 1
    decide
  | succ m ih =>
    have i := ih (by omega)
    have r := hv_range (f (s + m))
    have p := hd (s + m) (by omega) (by omega)
    show 0 ≤ tlF f s m * 16 + hv (f (s + m)) ∧ tlF f s m * 16 + hv (f (s + m)) < pwF m * 16
    omega
theorem model_val (f : Nat → Int) (s : Nat) (hs : s ≤ 4) (h : kf f 4 = (s : Int) - 1) : (s = 0 → tlF f s (4 - s) = four f) ∧ (0 < s → tlF f s (4 - s) - pwF (4 - s) = four f) := by
  have r0 := hv_range (f 0)
  have r1 := hv_range (f 1)
  have r2 := hv_range (f 2)
  have r3 := hv_range (f 3)
  unfold four cl4
  have hc : s = 0 ∨ s = 1 ∨ s = 2 ∨ s = 3 ∨ s = 4 := by omega
  simp only [kf] at h
  rcases hc with rfl | rfl | rfl | rfl | rfl <;> simp [tlF, pwF] <;> (repeat' split at h) <;> (repeat' split) <;> omega

set_option maxHeartbeats 1000000 in
theorem model_any (b len cap : Nat) (f : Nat → Int) (hl : 4 ≤ len) (w : World) (h : Row4 w b f) :
    Calls Try.prog 7 #[.slice (some ⟨b, 0, none⟩) len cap] w fun e w' => e = .returned (.int .i32 (four f)) ∧ w' = w := by
  have H := hide h
  clear h
  go_enter Try.func7, Try.ntmps7
  go_wp2
  go_loop [3, 4] (fun kk i => ∃ k : Nat, k ≤ 4 ∧ i = .int .i64 k ∧ kk = .int .i64 (kf f k)) (fun _ i => 4 - (intOf i).toNat)
  case atStart => exact ⟨0, Nat.zero_le _, rfl, rfl⟩
  case round =>
    obtain ⟨k, hk, rfl, rfl⟩ := hrel
    by_cases d : k < 4
    · obtain ⟨c1, c2, c3⟩ := unhide H k d
      have kl : (k : Int) < (len : Int) := by omega
      by_cases u : hv (f k) < 0
      · have E : Hid (kf f (k + 1) = k) := by show (if hv (f k) < 0 then (k : Int) else kf f k) = k; rw [if_pos u]
        go_wp2_with (go_at_call 12; refine (digit_any _ c2 c3 _).mono ?_; rintro e w' ⟨rfl, rfl⟩)
        go_round
        case rel => exact ⟨k + 1, by omega, by go_num, by rw [E.out]⟩
        case measure => simp [intOf]; omega
      · have E : Hid (kf f (k + 1) = kf f k) := by show (if hv (f k) < 0 then (k : Int) else kf f k) = kf f k; rw [if_neg u]
        go_wp2_with (go_at_call 12; refine (digit_any _ c2 c3 _).mono ?_; rintro e w' ⟨rfl, rfl⟩)
        go_round
        case rel => exact ⟨k + 1, by omega, by go_num, by rw [E.out]⟩
        case measure => simp [intOf]; omega
    · have e : k = 4 := by omega
      subst e
      have hr := kf_range f 4
      obtain ⟨s, hs⟩ : ∃ s : Nat, kf f 4 = (s : Int) - 1 := ⟨(kf f 4 + 1).toNat, by omega⟩
      have hs4 : s ≤ 4 := by omega
      have V := hide (model_val f s hs4 hs)
      have A : Hid (∀ i, s ≤ i → i < 4 → 0 ≤ hv (f i)) := fun i h1 h2 => kf_after f 4 i (by omega) h2
      clear hr
      rw [hs]
      clear hs
      go_wp2
      go_loop [5, 6, 7] (fun t p i => ∃ k : Nat, s ≤ k ∧ k ≤ 4 ∧ i = .int .i64 k ∧ t = .int .i32 (tlF f s (k - s)) ∧ p = .int .i32 (pwF (k - s))) (fun _ _ i => 4 - (intOf i).toNat)
      case atStart => exact ⟨s, Nat.le_refl _, hs4, by go_num, by rw [Nat.sub_self]; rfl, by rw [Nat.sub_self]; rfl⟩
      case round =>
        obtain ⟨k, hk1, hk, rfl, rfl, rfl⟩ := hrel
        have t := tl_range f s (k - s) (by omega) (unhide A)
        have p := pw_range (k - s) (by omega)
        obtain ⟨t1, t2⟩ := t
        obtain ⟨p1, p2⟩ := p
        by_cases d : k < 4
        · obtain ⟨c1, c2, c3⟩ := unhide H k d
          have kl : (k : Int) < (len : Int) := by omega
          have hd := unhide A k hk1 d
          have hd2 := (hv_range (f k)).2
          have E : Hid (k + 1 - s = (k - s) + 1 ∧ s + (k - s) = k) := ⟨by omega, by omega⟩
          go_wp2_with (go_at_call 12; refine (digit_any _ c2 c3 _).mono ?_; rintro e w' ⟨rfl, rfl⟩)
          go_round
          case rel => exact ⟨k + 1, by omega, by omega, by go_num, by rw [E.out.1]; show _ = Value.int .i32 (tlF f s (k - s) * 16 + hv (f (s + (k - s)))); rw [E.out.2], by rw [E.out.1]; rfl⟩
          case measure => simp [intOf]; omega
        · have e : k = 4 := by omega
          subst e
          by_cases z : s = 0
          · have E : Hid (tlF f s (4 - s) = four f) := (unhide V).1 z
            have z' : (s : Int) - 1 < 0 := by omega
            clear z
            go_wp2
            go_ret
            exact ⟨ret_int E.out, rfl⟩
          · have E : Hid (tlF f s (4 - s) - pwF (4 - s) = four f) := (unhide V).2 (by omega)
            have z' : ¬ (s : Int) - 1 < 0 := by omega
            clear z
            go_wp2
            go_ret
            exact ⟨ret_int E.out, rfl⟩
end Go.Proofs.Qxb6618654a.Hex
