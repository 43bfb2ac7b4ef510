import Derived.Test.Qxb6618654aRows
import Derived.Test.Qxb6618654aHexPlain
import Derived.WalkKit
import Derived.RowKit3
import Derived.Deep.QuietTactic
import Derived.BigQuiet
import Derived.Deep.OwnRows
import Derived.RegionTactic
namespace Go.Proofs.Qxb6618654a.Hex
open Go.RowKit
set_option linter.unusedVariables false
theorem ret_int {k : IntKind} {a b : Int} (h : a = b) : Ending.returned (.int k a) = .returned (.int k b) := by rw [h]
theorem ret_bool {a b : Bool} (h : a = b) : Ending.returned (.bool a) = .returned (.bool b) := by rw [h]

theorem hexv_any (c : Int) (c0 : 0 ≤ c) (c1 : c ≤ 255) (w : World) : Calls Try.prog 13 #[.int .u8 c] w fun e w' => e = .returned (.int .i32 (hv c)) ∧ w' = w := by
  go_enter Try.func13, Try.ntmps13
  go_wp2
  all_goals
    go_ret
    exact ⟨ret_int (by unfold hv; (repeat' split) <;> omega), rfl⟩

theorem swap_any (c : Int) (c0 : 0 ≤ c) (c1 : c ≤ 255) (w : World) : Calls Try.prog 9 #[.int .u8 c] w fun e w' => e = .returned (.int .u8 (swp c)) ∧ w' = w := by
  go_enter Try.func9, Try.ntmps9
  go_wp2
  all_goals
    go_ret
    exact ⟨ret_int (by unfold swp; (repeat' split) <;> omega), rfl⟩

/-! ### zzDigitOf finds what hexValue reckons -/
theorem low_hv (k : Nat) (hk : k < 16) : hv (((ByteArray.mk #[48, 49, 50, 51, 52, 53, 54, 55, 56, 57, 97, 98, 99, 100, 101, 102])[k]'hk).toNat : Int) = k := by
  have h : ∀ k : Fin 16, hv (((ByteArray.mk #[48, 49, 50, 51, 52, 53, 54, 55, 56, 57, 97, 98, 99, 100, 101, 102])[k.1]'k.2).toNat : Int) = (k.1 : Int) := by decide
  exact h ⟨k, hk⟩
theorem up_hv (k : Nat) (hk : k < 16) : hv (((ByteArray.mk #[48, 49, 50, 51, 52, 53, 54, 55, 56, 57, 65, 66, 67, 68, 69, 70])[k]'hk).toNat : Int) = k := by
  have h : ∀ k : Fin 16, hv (((ByteArray.mk #[48, 49, 50, 51, 52, 53, 54, 55, 56, 57, 65, 66, 67, 68, 69, 70])[k.1]'k.2).toNat : Int) = (k.1 : Int) := by decide
  exact h ⟨k, hk⟩
theorem miss_hv (k : Nat) (hk : k < 16) (c : Int) (h1 : ¬ (((ByteArray.mk #[48, 49, 50, 51, 52, 53, 54, 55, 56, 57, 97, 98, 99, 100, 101, 102])[k]'hk).toNat : Int) = c)
    (h2 : ¬ (((ByteArray.mk #[48, 49, 50, 51, 52, 53, 54, 55, 56, 57, 65, 66, 67, 68, 69, 70])[k]'hk).toNat : Int) = c) : ¬ hv c = k := by
  have hL : ∀ k : Fin 16, (((ByteArray.mk #[48, 49, 50, 51, 52, 53, 54, 55, 56, 57, 97, 98, 99, 100, 101, 102])[k.1]'k.2).toNat : Int) = if (k.1 : Int) < 10 then 48 + (k.1 : Int) else 87 + (k.1 : Int) := by decide
  have hU : ∀ k : Fin 16, (((ByteArray.mk #[48, 49, 50, 51, 52, 53, 54, 55, 56, 57, 65, 66, 67, 68, 69, 70])[k.1]'k.2).toNat : Int) = if (k.1 : Int) < 10 then 48 + (k.1 : Int) else 55 + (k.1 : Int) := by decide
  have e1 := hL ⟨k, hk⟩
  have e2 := hU ⟨k, hk⟩
  simp only at e1 e2
  rw [e1] at h1
  rw [e2] at h2
  unfold hv
  split at h1 <;> split at h2 <;> (repeat' split) <;> omega

theorem low_hit (k : Nat) (hk : k < 16) (c : Int) (h : (((ByteArray.mk #[48, 49, 50, 51, 52, 53, 54, 55, 56, 57, 97, 98, 99, 100, 101, 102])[k]'hk).toNat : Int) = c) : (k : Int) = hv c := by
  rw [← h]; exact (low_hv k hk).symm
theorem any_hit (k : Nat) (hk : k < 16) (c : Int) (h : ((((ByteArray.mk #[48, 49, 50, 51, 52, 53, 54, 55, 56, 57, 97, 98, 99, 100, 101, 102])[k]'hk).toNat : Int) == c) = true ∨ ((((ByteArray.mk #[48, 49, 50, 51, 52, 53, 54, 55, 56, 57, 65, 66, 67, 68, 69, 70])[k]'hk).toNat : Int) == c) = true) : (k : Int) = hv c := by
  rcases h with h | h
  · exact low_hit k hk c (by simpa using h)
  · have e := up_hv k hk
    have h' : (((ByteArray.mk #[48, 49, 50, 51, 52, 53, 54, 55, 56, 57, 65, 66, 67, 68, 69, 70])[k]'hk).toNat : Int) = c := by simpa using h
    rw [← h']; exact e.symm
theorem no_hit (k : Nat) (hk : k < 16) (c : Int) (hl : hv c < 0 ∨ (k : Int) ≤ hv c) (h : ((((ByteArray.mk #[48, 49, 50, 51, 52, 53, 54, 55, 56, 57, 97, 98, 99, 100, 101, 102])[k]'hk).toNat : Int) == c) = false ∧ ((((ByteArray.mk #[48, 49, 50, 51, 52, 53, 54, 55, 56, 57, 65, 66, 67, 68, 69, 70])[k]'hk).toNat : Int) == c) = false) : hv c < 0 ∨ ((k + 1 : Nat) : Int) ≤ hv c := by
  have := miss_hv k hk c (by simpa using h.1) (by simpa using h.2)
  omega

set_option maxHeartbeats 400000 in
theorem digit_any (c : Int) (c0 : 0 ≤ c) (c1 : c ≤ 255) (w : World) : Calls Try.prog 12 #[.int .u8 c] w fun e w' => e = .returned (.int .i32 (hv c)) ∧ w' = w := by
  have hr := hv_range c
  go_enter Try.func12, Try.ntmps12
  go_wp2
  go_loop [3] (fun i => ∃ k : Nat, k ≤ 16 ∧ i = .int .i64 k ∧ (hv c < 0 ∨ (k : Int) ≤ hv c)) (fun i => 16 - (intOf i).toNat)
  case atStart => exact ⟨0, Nat.zero_le _, rfl, by omega⟩
  case round =>
    obtain ⟨k, hk, rfl, hle⟩ := hrel
    have HL : Hid (hv c < 0 ∨ (k : Int) ≤ hv c) := hle
    clear hle hr
    by_cases d : k < 16
    · go_wp2
      · go_ret
        exact ⟨ret_int (low_hit k d c (by assumption)), rfl⟩
      · go_ret
        exact ⟨ret_int (any_hit k d c (by assumption)), rfl⟩
      · go_round
        case rel => exact ⟨k + 1, by omega, by go_num, no_hit k d c HL.out (by assumption)⟩
        case measure => simp [intOf]; omega
    · go_wp2
      go_ret
      exact ⟨ret_int (by have := HL.out; have := hv_range c; omega), rfl⟩
end Go.Proofs.Qxb6618654a.Hex
