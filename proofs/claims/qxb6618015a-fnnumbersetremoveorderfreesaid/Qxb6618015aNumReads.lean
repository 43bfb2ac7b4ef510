import Derived.Test.Qxb6618015aRows
import Derived.Test.Qxb6618015aNumPlain
import Derived.WalkKit
import Derived.RowKit3
import Derived.Deep.QuietTactic
import Derived.BigQuiet
import Derived.Deep.OwnRows
import Derived.RegionTactic
namespace Go.Proofs.Qxb6618015a.Num
open Go.RowKit
set_option linter.unusedVariables false

/-- The slice value at address a, of len words, holds the words g; if there is a word at all its row begins at the head of block bb. -/
def SliceIs (w : World) (a : Option Addr) (bb len : Nat) (g : Nat → Int) : Prop :=
  0 < len → a = some ⟨bb, 0, none⟩ ∧ ∃ N h, w.rowIs bb 22 N h ∧ len ≤ N ∧ ∀ i, i < len → h i = .int .u64 (g i)

theorem SliceIs.cell {w : World} {a : Option Addr} {bb len : Nat} {g : Nat → Int} (h : SliceIs w a bb len g) {i : Nat} (hi : i < len) : w.cell? ⟨bb, i, none⟩ = some (.int .u64 (g i)) := by
  obtain ⟨_, N, f, hr, hN, hf⟩ := h (by omega)
  rw [hr.cell (by omega), hf i hi]

theorem ret_bool {a b : Bool} (h : a = b) : Ending.returned (.bool a) = .returned (.bool b) := by rw [h]
theorem ret_int {k : IntKind} {a b : Int} (h : a = b) : Ending.returned (.int k a) = .returned (.int k b) := by rw [h]

/-! ### zzBit -/
theorem bit_out (a : Option Addr) (len cap : Nat) (k : Int) (w : World) (hl : len ≤ 131072) (kb : k ≤ 9223372036854775807) (h : k < 0 ∨ (len : Int) ≤ k / 64) :
    Calls Try.prog 15 #[.slice a len cap, .int .i64 k] w fun e w' => e = .returned (.bool false) ∧ w' = w := by
  by_cases c : k < 0
  · clear h
    go_enter Try.func15, Try.ntmps15
    go_wp2
    go_ret
    exact ⟨rfl, rfl⟩
  · have h' : (len : Int) ≤ k / 64 := by omega
    have c' : 0 ≤ k := by omega
    clear h c
    go_enter Try.func15, Try.ntmps15
    go_wp2
    go_ret
    exact ⟨rfl, rfl⟩
theorem bit_in (b len cap : Nat) (k : Int) (x : Int) (w : World) (hl : len ≤ 131072) (k0 : 0 ≤ k) (k1 : k / 64 < (len : Int)) (hx : Wd x)
    (c0 : w.cell? ⟨b, (k / 64).toNat, none⟩ = some (.int .u64 x)) :
    Calls Try.prog 15 #[.slice (some ⟨b, 0, none⟩) len cap, .int .i64 k] w fun e w' => e = .returned (.bool (tb x (k % 64).toNat)) ∧ w' = w := by
  have E : Hid ((bits .and .u64 (x / 2 ^ (k % 64).toNat) 1 == 1) = tb x (k % 64).toNat) := look x _ hx
  go_enter Try.func15, Try.ntmps15
  go_wp2
  go_ret
  exact ⟨ret_bool E.out, rfl⟩
theorem bit_any (a : Option Addr) (bb len cap : Nat) (g : Nat → Int) (k : Int) (w : World) (hl : len ≤ 131072) (kb : k ≤ 9223372036854775807) (hs : SliceIs w a bb len g) (hw : ∀ i, i < len → Wd (g i)) :
    Calls Try.prog 15 #[.slice a len cap, .int .i64 k] w fun e w' => e = .returned (.bool (bitN g len k)) ∧ w' = w := by
  by_cases c : 0 ≤ k ∧ k / 64 < (len : Int)
  · obtain ⟨rfl, _⟩ := hs (by omega)
    have e : bitN g len k = tb (g (k / 64).toNat) (k % 64).toNat := by
      unfold bitN
      rw [decide_eq_true c]; rfl
    rw [e]
    exact bit_in bb len cap k _ w hl c.1 c.2 (hw _ (by omega)) (hs.cell (by omega))
  · have e : bitN g len k = false := by
      unfold bitN
      rw [decide_eq_false c]; rfl
    rw [e]
    exact bit_out a len cap k w hl kb (by omega)

/-! ### zzSameWords, of two rows that hold the same words -/
theorem same_none (a a' : Option Addr) (cap cap' : Nat) (w : World) :
    Calls Try.prog 14 #[.slice a 0 cap, .slice a' 0 cap'] w fun e w' => e = .returned (.bool true) ∧ ∃ q, w' = w.drewN q := by
  go_enter Try.func14, Try.ntmps14
  go_wp2
  go_loop [5] (fun i => i = .int .i64 0) (fun _ => 0)
  case atStart => rfl
  case round =>
    subst hrel
    go_wp2
    go_ret
    exact ⟨rfl, 0, rfl⟩
set_option maxHeartbeats 400000 in
theorem same_some (b b' len cap cap' : Nat) (g : Nat → Int) (w : World) (hl : len ≤ 131072)
    (hc : ∀ i, i < len → w.cell? ⟨b, i, none⟩ = some (.int .u64 (g i))) (hc' : ∀ i, i < len → w.cell? ⟨b', i, none⟩ = some (.int .u64 (g i))) :
    Calls Try.prog 14 #[.slice (some ⟨b, 0, none⟩) len cap, .slice (some ⟨b', 0, none⟩) len cap'] w fun e w' => e = .returned (.bool true) ∧ ∃ q, w' = w.drewN q := by
  have H : Hid (∀ i, i < len → w.cell? ⟨b, i, none⟩ = some (.int .u64 (g i))) := hc
  have H' : Hid (∀ i, i < len → w.cell? ⟨b', i, none⟩ = some (.int .u64 (g i))) := hc'
  clear hc hc'
  go_enter Try.func14, Try.ntmps14
  go_wp2
  go_loopw [5] (fun i wr => ∃ k q : Nat, k ≤ len ∧ i = .int .i64 k ∧ wr = w.drewN q) (fun i _ => len - (intOf i).toNat)
  case atStart => exact ⟨0, 0, Nat.zero_le _, rfl, rfl⟩
  case round =>
    obtain ⟨k, q, hk, rfl, rfl⟩ := hrel
    by_cases c : k < len
    · have c1 := H.out k c
      have c2 := H'.out k c
      go_wp2
      go_quiet (fail)
      go_wp2
      go_roundw
      case rel => exact ⟨k + 1, _, by omega, by go_num, by first | rfl | (simp only [World.drewN_drewN]; rfl)⟩
      case measure => simp [intOf]; omega
    · go_wp2
      go_ret
      exact ⟨rfl, q, rfl⟩
theorem same_any (a a' : Option Addr) (b b' len cap cap' : Nat) (g g' : Nat → Int) (w : World) (hl : len ≤ 131072) (hs : SliceIs w a b len g) (hs' : SliceIs w a' b' len g') (he : ∀ i, i < len → g i = g' i) :
    Calls Try.prog 14 #[.slice a len cap, .slice a' len cap'] w fun e w' => e = .returned (.bool true) ∧ ∃ q, w' = w.drewN q := by
  by_cases c : 0 < len
  · obtain ⟨rfl, _⟩ := hs c
    obtain ⟨rfl, _⟩ := hs' c
    exact same_some b b' len cap cap' g w hl (fun i hi => hs.cell hi) (fun i hi => by rw [hs'.cell hi, he i hi])
  · have e : len = 0 := by omega
    subst e
    exact same_none a a' cap cap' w

/-! ### zzCount -/
theorem count_none (a : Option Addr) (cap : Nat) (w : World) :
    Calls Try.prog 17 #[.slice a 0 cap] w fun e w' => e = .returned (.int .i64 0) ∧ w' = w := by
  go_enter Try.func17, Try.ntmps17
  go_wp2
  go_loop [4, 3] (fun i c => i = .int .i64 0 ∧ c = .int .i64 0) (fun _ _ => 0)
  case atStart => exact ⟨rfl, rfl⟩
  case round =>
    obtain ⟨rfl, rfl⟩ := hrel
    go_wp2
    go_ret
    exact ⟨rfl, rfl⟩
set_option maxHeartbeats 400000 in
theorem count_some (b len cap : Nat) (g : Nat → Int) (w : World) (hl : len ≤ 131072) (hc : ∀ i, i < len → w.cell? ⟨b, i, none⟩ = some (.int .u64 (g i))) (hw : ∀ i, i < len → Wd (g i)) :
    Calls Try.prog 17 #[.slice (some ⟨b, 0, none⟩) len cap] w fun e w' => e = .returned (.int .i64 (cnt g len)) ∧ w' = w := by
  have H : Hid (∀ i, i < len → w.cell? ⟨b, i, none⟩ = some (.int .u64 (g i))) := hc
  have HW : Hid (∀ i, i < len → Wd (g i)) := hw
  clear hc hw
  go_enter Try.func17, Try.ntmps17
  go_wp2
  go_loop [4, 3] (fun i c => ∃ k : Nat, k ≤ len ∧ i = .int .i64 k ∧ c = .int .i64 (cnt g k)) (fun i _ => len - (intOf i).toNat)
  case atStart => exact ⟨0, Nat.zero_le _, rfl, rfl⟩
  case round =>
    obtain ⟨k, hk, rfl, rfl⟩ := hrel
    have hb := cnt_le g k
    by_cases c : k < len
    · have c1 := H.out k c
      go_wp2
      go_loop [5, 3] (fun j c => ∃ r : Nat, r ≤ 64 ∧ j = .int .i64 r ∧ c = .int .i64 ((cnt g k + pcU (g k) r : Nat) : Int)) (fun j _ => 64 - (intOf j).toNat)
      case atStart => exact ⟨0, Nat.zero_le _, rfl, rfl⟩
      case round =>
        obtain ⟨r, hr, rfl, rfl⟩ := hrel
        have hp := pcU_le (g k) r
        by_cases d : r < 64
        · have E : Hid ((bits .and .u64 (g k / 2 ^ r) 1 == 1) = tb (g k) r) := look (g k) r (HW.out k c)
          by_cases t : tb (g k) r = true
          · have t' : (bits .and .u64 (g k / 2 ^ r) 1 == 1) = true := by rw [E.out, t]
            have P : Hid (pcU (g k) (r + 1) = pcU (g k) r + 1) := by show pcU (g k) r + (if tb (g k) r = true then 1 else 0) = _; rw [if_pos t]
            clear t E
            go_wp2
            go_round
            case rel => exact ⟨r + 1, by omega, by go_num, by rw [P.out]; go_num⟩
            case measure => simp [intOf]; omega
          · have t' : (bits .and .u64 (g k / 2 ^ r) 1 == 1) = false := by rw [E.out]; simpa using t
            have P : Hid (pcU (g k) (r + 1) = pcU (g k) r) := by show pcU (g k) r + (if tb (g k) r = true then 1 else 0) = _; rw [if_neg t]; rfl
            clear t E
            go_wp2
            go_round
            case rel => exact ⟨r + 1, by omega, by go_num, by rw [P.out]⟩
            case measure => simp [intOf]; omega
        · have e : r = 64 := by omega
          subst e
          go_wp2
          go_round
          case rel => exact ⟨k + 1, by omega, by go_num, rfl⟩
          case measure => simp [intOf]; omega
    · have e : k = len := by omega
      subst e
      go_wp2
      go_ret
      exact ⟨rfl, rfl⟩
theorem count_any (a : Option Addr) (bb len cap : Nat) (g : Nat → Int) (w : World) (hl : len ≤ 131072) (hs : SliceIs w a bb len g) (hw : ∀ i, i < len → Wd (g i)) :
    Calls Try.prog 17 #[.slice a len cap] w fun e w' => e = .returned (.int .i64 (cnt g len)) ∧ w' = w := by
  by_cases c : 0 < len
  · obtain ⟨rfl, _⟩ := hs c
    exact count_some bb len cap g w hl (fun i hi => hs.cell hi) hw
  · have e : len = 0 := by omega
    subst e
    exact count_none a cap w
end Go.Proofs.Qxb6618015a.Num
