import Derived.Test.Qxb6618654aHexWalks
namespace Go.Proofs.Qxb6618654a.Hex
open Go.RowKit
set_option linter.unusedVariables false

theorem hide {p : Prop} (h : p) : Hid p := h
theorem unhide {p : Prop} (h : Hid p) : p := h
theorem hv_dg (c : Int) : Dg (hv c) := hv_range c
theorem wrap_dg (d : Int) (m : Int) (h : Dg d) (m0 : 0 ≤ m) (m1 : m ≤ 65536) (hm : m = 4096 ∨ m = 256 ∨ m = 16) : wrap32 (d * m) = d * m := by
  obtain ⟨_, _⟩ := h
  rcases hm with rfl | rfl | rfl <;> (unfold wrap32; omega)

/-- A byte. -/
def By (c : Int) : Prop := 0 ≤ c ∧ c ≤ 255

set_option maxHeartbeats 400000 in
theorem four_any (b len cap : Nat) (c0 c1 c2 c3 : Int) (hl : 4 ≤ len) (w : World) (r0 : By c0) (r1 : By c1) (r2 : By c2) (r3 : By c3)
    (h0 : w.cell? ⟨b, 0, none⟩ = some (.int .u8 c0)) (h1 : w.cell? ⟨b, 1, none⟩ = some (.int .u8 c1)) (h2 : w.cell? ⟨b, 2, none⟩ = some (.int .u8 c2)) (h3 : w.cell? ⟨b, 3, none⟩ = some (.int .u8 c3)) :
    Calls Try.prog 11 #[.slice (some ⟨b, 0, none⟩) len cap] w fun e w' => e = .returned (.int .i32 (cl4 (hv c0) (hv c1) (hv c2) (hv c3))) ∧ ∃ q, w' = w.drewN q := by
  have l0 : (0 : Int) < (len : Int) := by omega
  have l1 : (1 : Int) < (len : Int) := by omega
  have l2 : (2 : Int) < (len : Int) := by omega
  have l3 : (3 : Int) < (len : Int) := by omega
  obtain ⟨r00, r01⟩ := r0
  obtain ⟨r10, r11⟩ := r1
  obtain ⟨r20, r21⟩ := r2
  obtain ⟨r30, r31⟩ := r3
  have E : Hid (bits .or .i32 (bits .or .i32 (bits .or .i32 (wrap32 (hv c0 * 4096)) (wrap32 (hv c1 * 256))) (wrap32 (hv c2 * 16))) (hv c3) = cl4 (hv c0) (hv c1) (hv c2) (hv c3)) := by
    show _ = _
    rw [wrap_dg _ 4096 (hv_dg _) (by decide) (by decide) (by decide), wrap_dg _ 256 (hv_dg _) (by decide) (by decide) (by decide), wrap_dg _ 16 (hv_dg _) (by decide) (by decide) (by decide)]
    exact or_four _ _ _ _ (hv_dg _) (hv_dg _) (hv_dg _) (hv_dg _)
  go_enter Try.func11, Try.ntmps11
  go_wp2
  go_quiet ((go_at_call 13; exact Calls.quiet_of_same (hexv_any _ (by assumption) (by assumption) _)))
  go_wp2
  go_ret
  exact ⟨ret_int E.out, _, rfl⟩

/-- What a slice of at least four bytes is known by: the row of block b holds f. -/
def Row4 (w : World) (b : Nat) (f : Nat → Int) : Prop := ∀ i, i < 4 → w.cell? ⟨b, i, none⟩ = some (.int .u8 (f i)) ∧ By (f i)
def four (f : Nat → Int) : Int := cl4 (hv (f 0)) (hv (f 1)) (hv (f 2)) (hv (f 3))

theorem zz_any (b len cap : Nat) (f : Nat → Int) (hl : 4 ≤ len) (w : World) (h : Row4 w b f) :
    Calls Try.prog 6 #[.slice (some ⟨b, 0, none⟩) len cap] w fun e w' => e = .returned (.int .i32 (four f)) ∧ ∃ q, w' = w.drewN q := by
  have C := four_any b len cap (f 0) (f 1) (f 2) (f 3) hl w (h 0 (by decide)).2 (h 1 (by decide)).2 (h 2 (by decide)).2 (h 3 (by decide)).2 (h 0 (by decide)).1 (h 1 (by decide)).1 (h 2 (by decide)).1 (h 3 (by decide)).1
  have H := hide C
  clear C h
  go_enter Try.func6, Try.ntmps6
  go_wp2_with fail
  refine (unhide H).mono ?_
  rintro e w' ⟨rfl, q, rfl⟩
  go_wp2_with fail
  go_ret
  exact ⟨rfl, q, rfl⟩

/-! ### zzAllHex4 -/
def allB (f : Nat → Int) : Bool := decide (0 ≤ hv (f 0) ∧ 0 ≤ hv (f 1) ∧ 0 ≤ hv (f 2) ∧ 0 ≤ hv (f 3))
theorem allB_no (f : Nat → Int) (k : Nat) (hk : k < 4) (h : hv (f k) < 0) : allB f = false := by
  unfold allB
  apply decide_eq_false
  have : k = 0 ∨ k = 1 ∨ k = 2 ∨ k = 3 := by omega
  rcases this with rfl | rfl | rfl | rfl <;> omega
theorem allB_yes (f : Nat → Int) (h : ∀ i, i < 4 → 0 ≤ hv (f i)) : allB f = true := by
  unfold allB
  exact decide_eq_true ⟨h 0 (by decide), h 1 (by decide), h 2 (by decide), h 3 (by decide)⟩
theorem all_any (b len cap : Nat) (f : Nat → Int) (hl : 4 ≤ len) (w : World) (h : Row4 w b f) :
    Calls Try.prog 10 #[.slice (some ⟨b, 0, none⟩) len cap] w fun e w' => e = .returned (.bool (allB f)) ∧ w' = w := by
  have H : Hid (Row4 w b f) := h
  clear h
  go_enter Try.func10, Try.ntmps10
  go_wp2
  go_loop [3] (fun i => ∃ k : Nat, k ≤ 4 ∧ i = .int .i64 k ∧ ∀ j, j < k → 0 ≤ hv (f j)) (fun i => 4 - (intOf i).toNat)
  case atStart => exact ⟨0, Nat.zero_le _, rfl, fun j hj => absurd hj (by omega)⟩
  case round =>
    obtain ⟨k, hk, rfl, hp⟩ := hrel
    have HP : Hid (∀ j, j < k → 0 ≤ hv (f j)) := hp
    clear hp
    by_cases d : k < 4
    · obtain ⟨c1, c2, c3⟩ := H.out k d
      have kl : (k : Int) < (len : Int) := by omega
      by_cases u : hv (f k) < 0
      · have E : Hid (allB f = false) := allB_no f k d u
        go_wp2_with (go_at_call 12; refine (digit_any _ c2 c3 _).mono ?_; rintro e w' ⟨rfl, rfl⟩)
        go_ret
        exact ⟨ret_bool E.out.symm, rfl⟩
      · go_wp2_with (go_at_call 12; refine (digit_any _ c2 c3 _).mono ?_; rintro e w' ⟨rfl, rfl⟩)
        go_round
        case rel =>
          refine ⟨k + 1, by omega, by go_num, fun j hj => ?_⟩
          by_cases e : j = k
          · rw [e]; omega
          · exact HP.out j (by omega)
        case measure => simp [intOf]; omega
    · have E : Hid (allB f = true) := allB_yes f fun i hi => HP.out i (by omega)
      go_wp2
      go_ret
      exact ⟨ret_bool E.out.symm, rfl⟩
end Go.Proofs.Qxb6618654a.Hex
