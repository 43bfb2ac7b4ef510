import Derived.Test.Qxb6618015aNumRemove
import Derived.Test.Qxb6618015aNumLaws
namespace Go.Proofs.Qxb6618015a.Num
open Go.RowKit
set_option linter.unusedVariables false
theorem bytes_yes (a : Option Addr) (len cap : Nat) (n : Int) (w : World) (hl : len ≤ 1048576) :
    Calls Try.prog 11 #[.slice a len cap, .int .i64 n] w fun e w' => e = .returned (.bool true) ∧ w' = w := by
  go_enter Try.func11, Try.ntmps11
  go_wp2
  go_ret
  exact ⟨rfl, rfl⟩
theorem bytes_no (a : Option Addr) (len cap : Nat) (n : Int) (w : World) (hl : 1048576 < len) :
    Calls Try.prog 11 #[.slice a len cap, .int .i64 n] w fun e w' => e = .returned (.bool false) ∧ w' = w := by
  have hl' : (1048576 : Int) < (len : Int) := by omega
  go_enter Try.func11, Try.ntmps11
  go_wp2
  go_ret
  exact ⟨rfl, rfl⟩


set_option maxHeartbeats 1000000 in
theorem spec_core (a : Option Addr) (len cap : Nat) (g : Nat → Int) (n : Int) (w : World) (hl : len ≤ 131072) (hz : a = none → len = 0) (n0 : -9223372036854775808 ≤ n) (n1 : n ≤ 9223372036854775807)
    (hc : ∀ i, i < len → ∃ b off, a = some ⟨b, off, none⟩ ∧ w.cell? ⟨b, off + i, none⟩ = some (.int .u64 (g i))) (hw : ∀ i, i < len → Wd (g i)) :
    Calls Try.prog 5 #[.slice a len cap, .int .i64 n] w fun e w' => e = .returned (.bool true) ∧ Below w.heap.size w w' := by
  have CB := hide (bytes_yes a len cap n w (by omega))
  have CC := hide (clone_any a len cap g w hl hz hc)
  have HW := hide hw
  clear hc hw hz
  go_enter Try.func5, Try.ntmps5
  go_wp2_with fail
  refine (unhide CB).mono ?_
  rintro e w0 ⟨rfl, rfl⟩
  go_wp2_with fail
  refine (unhide CC).mono ?_
  rintro e w1 ⟨a1, rfl, b1, s1, z1, nil1⟩
  have NIL1 := hide nil1
  have B1 := hide b1
  have S1 := hide s1
  have Z1 := hide z1
  clear CB CC b1 s1 z1 nil1
  go_wp2_with fail
  refine (clone_of a1 _ len len g w1 hl (unhide NIL1) (unhide S1)).mono ?_
  rintro e w2 ⟨a2, rfl, b2, s2, z2, nil2⟩
  have NIL2 := hide nil2
  have B2 := hide b2
  have S2 := hide s2
  have Z2 := hide z2
  clear b2 s2 z2 nil2
  go_wp2_with fail
  refine (rem_any w2.heap.size w1.heap.size len g n _ hl n0 n1 (box_set w2 a2 w1.heap.size len g hl (unhide NIL2) (unhide Z2) (unhide S2))).mono ?_
  rintro e w4 ⟨rfl, s4, k4⟩
  have SS : Hid (SliceIs w4 a1 w0.heap.size len g) := by
    have x1 := (unhide S1).below (unhide B2) (unhide Z1)
    refine (x1.alloc _).keeps k4 (fun h => ?_) (fun h => ?_)
    · have := unhide Z1 h; have := (unhide B2).size; omega
    · have := unhide Z1 h; omega
  have BB : Hid (Below w0.heap.size w0 w4) := by
    have h1 := (unhide B1).size
    have h2 := (unhide B2).size
    exact (((unhide B1).trans ((unhide B2).mono h1)).alloc (by omega) _).trans (k4.below (by omega) h1)
  obtain ⟨a', cap', hload, _, hcap, hcap', sl, _, _⟩ := s4
  have ST := hide sl
  clear sl k4 B1 B2 S1 S2 Z1 Z2 NIL1 NIL2
  have hL : remLen g len n ≤ len := remLen_le g len n
  generalize hLe : remLen g len n = L' at *
  have HL := hide hLe
  clear hLe
  generalize w0.heap.size = bs at SS
  generalize w1.heap.size = bt at ST
  by_cases c : 0 ≤ n ∧ n / 64 < (len : Int)
  · have HT : Hid (L' = trim (clrN g n) len) := by have := unhide HL; rw [remLen_in g len n c] at this; exact this.symm
    obtain ⟨c0, c1⟩ := c
    clear HL
    go_wp2_with fail
    go_loop [6, 7] (fun t v => ∃ k : Int, -1 ≤ k ∧ k < 64 * (len : Int) ∧ v = .int .i64 k ∧ t = .int .i64 (-1) ∧ ∀ j : Int, k < j → j < 64 * (len : Int) → bitN (clrN g n) len j = false) (fun _ v => (intOf v + 1).toNat)
    case atStart => exact ⟨64 * (len : Int) - 1, by omega, by omega, rfl, rfl, fun j h1 h2 => by omega⟩
    case round =>
      obtain ⟨k, k1, k2, rfl, rfl, hab⟩ := hrel
      have AB := hide hab
      clear hab
      have E : Hid (bitN (clrN g n) len k = (bitN g len k && decide (k ≠ n))) := bitN_clrN g len n k (unhide HW)
      by_cases c : 0 ≤ k
      · by_cases d : k = n
        · have d' : (k != n) = false := by simpa using d
          have NX : Hid (∀ j : Int, k - 1 < j → j < 64 * (len : Int) → bitN (clrN g n) len j = false) := by
            intro j h1 h2
            by_cases e : j = k
            · rw [e, E.out, decide_eq_false (by simpa using d)]; simp
            · exact unhide AB j (by omega) h2
          clear d
          go_wp2_with fail
          go_round
          case rel => exact ⟨k - 1, by omega, by omega, rfl, rfl, unhide NX⟩
          case measure => simp [intOf]; omega
        · have d' : (k != n) = true := by simpa using d
          have CS := hide (bit_any a1 bs len len g k _ hl (by omega) (unhide SS) (unhide HW))
          by_cases u : bitN g len k = true
          · have EB : Hid (bitN (clrN g n) len k = true) := by show _ = _; rw [E.out, u, decide_eq_true d]; rfl
            have CS' := hide (u ▸ unhide CS)
            have W : Hid ((L' : Int) = k / 64 + 1) := by
              show _ = _
              rw [HT.out]
              exact top_some _ len k (fun i hi => clrN_wd _ _ _ (unhide HW i hi)) c k2 EB.out (unhide AB)
            have t : ((L' : Int) != k / 64 + 1) = false := by simpa using W.out
            clear CS u d E EB AB HT
            go_wp2_with fail
            refine (unhide CS').mono ?_
            rintro e w' ⟨rfl, rfl⟩
            go_wp2_with fail
            go_loop [9] (fun v => ∃ k : Nat, k ≤ 64 * L' ∧ v = .int .i64 k) (fun v => 64 * L' - (intOf v).toNat)
            case atStart => exact ⟨0, Nat.zero_le _, rfl⟩
            case round =>
              obtain ⟨k, hk, rfl⟩ := hrel
              by_cases c : k < 64 * L'
              · have F : Hid (bitN (clrN g n) L' k = (bitN g len k && decide ((k : Int) ≠ n))) := by
                  show _ = _
                  rw [bitN_short _ _ len _ hL (by omega) (by omega)]
                  exact bitN_clrN g len n k (unhide HW)
                have CT := hide (bit_any a' bt L' cap' (clrN g n) k _ (by omega) (by omega) (unhide ST) (fun i hi => clrN_wd _ _ _ (unhide HW i (by omega))))
                have CS := hide (bit_any a1 bs len len g k _ hl (by omega) (unhide SS) (unhide HW))
                by_cases u : bitN g len k = true
                · by_cases v : (k : Int) = n
                  · have v' : ((k : Int) != n) = false := by simpa using v
                    have et : bitN (clrN g n) L' k = false := by rw [F.out, decide_eq_false (by simpa using v)]; simp
                    have CT' := hide (et ▸ unhide CT)
                    have CS' := hide (u ▸ unhide CS)
                    clear CT CS F et u v
                    go_wp2_with fail
                    refine (unhide CT').mono ?_
                    rintro e w' ⟨rfl, rfl⟩
                    go_wp2_with fail
                    refine (unhide CS').mono ?_
                    rintro e w' ⟨rfl, rfl⟩
                    go_wp2_with fail
                    go_round
                    case rel => exact ⟨k + 1, by omega, by go_num⟩
                    case measure => simp [intOf]; omega
                  · have v' : ((k : Int) != n) = true := by simpa using v
                    have et : bitN (clrN g n) L' k = true := by rw [F.out, u, decide_eq_true (by simpa using v)]; rfl
                    have CT' := hide (et ▸ unhide CT)
                    have CS' := hide (u ▸ unhide CS)
                    clear CT CS F et u v
                    go_wp2_with fail
                    refine (unhide CT').mono ?_
                    rintro e w' ⟨rfl, rfl⟩
                    go_wp2_with fail
                    refine (unhide CS').mono ?_
                    rintro e w' ⟨rfl, rfl⟩
                    go_wp2_with fail
                    go_round
                    case rel => exact ⟨k + 1, by omega, by go_num⟩
                    case measure => simp [intOf]; omega
                · have u' : bitN g len k = false := by simpa using u
                  have et : bitN (clrN g n) L' k = false := by rw [F.out, u']; rfl
                  have CT' := hide (et ▸ unhide CT)
                  have CS' := hide (u' ▸ unhide CS)
                  clear CT CS F et u u'
                  go_wp2_with fail
                  refine (unhide CT').mono ?_
                  rintro e w' ⟨rfl, rfl⟩
                  go_wp2_with fail
                  refine (unhide CS').mono ?_
                  rintro e w' ⟨rfl, rfl⟩
                  go_wp2_with fail
                  go_round
                  case rel => exact ⟨k + 1, by omega, by go_num⟩
                  case measure => simp [intOf]; omega
              · go_wp2_with fail
                go_ret
                exact ⟨rfl, unhide BB⟩
          · have u' : bitN g len k = false := by simpa using u
            have NX : Hid (∀ j : Int, k - 1 < j → j < 64 * (len : Int) → bitN (clrN g n) len j = false) := by
              intro j h1 h2
              by_cases e : j = k
              · rw [e, E.out, u']; rfl
              · exact unhide AB j (by omega) h2
            have CS' := hide (u' ▸ unhide CS)
            clear CS u u' d E AB
            go_wp2_with fail
            refine (unhide CS').mono ?_
            rintro e w' ⟨rfl, rfl⟩
            go_wp2_with fail
            go_round
            case rel => exact ⟨k - 1, by omega, by omega, rfl, rfl, unhide NX⟩
            case measure => simp [intOf]; omega
      · have e : k = -1 := by omega
        subst e
        have W : Hid (L' = 0) := by
          show _ = _
          rw [HT.out]
          exact top_none _ len (fun i hi => clrN_wd _ _ _ (unhide HW i hi)) (unhide AB)
        have t : ((L' : Int) != 0) = false := by have := W.out; simp; omega
        clear E AB HT
        go_wp2_with fail
        go_loop [9] (fun v => ∃ k : Nat, k ≤ 64 * L' ∧ v = .int .i64 k) (fun v => 64 * L' - (intOf v).toNat)
        case atStart => exact ⟨0, Nat.zero_le _, rfl⟩
        case round =>
          obtain ⟨k, hk, rfl⟩ := hrel
          by_cases c : k < 64 * L'
          · have F : Hid (bitN (clrN g n) L' k = (bitN g len k && decide ((k : Int) ≠ n))) := by
              show _ = _
              rw [bitN_short _ _ len _ hL (by omega) (by omega)]
              exact bitN_clrN g len n k (unhide HW)
            have CT := hide (bit_any a' bt L' cap' (clrN g n) k _ (by omega) (by omega) (unhide ST) (fun i hi => clrN_wd _ _ _ (unhide HW i (by omega))))
            have CS := hide (bit_any a1 bs len len g k _ hl (by omega) (unhide SS) (unhide HW))
            by_cases u : bitN g len k = true
            · by_cases v : (k : Int) = n
              · have v' : ((k : Int) != n) = false := by simpa using v
                have et : bitN (clrN g n) L' k = false := by rw [F.out, decide_eq_false (by simpa using v)]; simp
                have CT' := hide (et ▸ unhide CT)
                have CS' := hide (u ▸ unhide CS)
                clear CT CS F et u v
                go_wp2_with fail
                refine (unhide CT').mono ?_
                rintro e w' ⟨rfl, rfl⟩
                go_wp2_with fail
                refine (unhide CS').mono ?_
                rintro e w' ⟨rfl, rfl⟩
                go_wp2_with fail
                go_round
                case rel => exact ⟨k + 1, by omega, by go_num⟩
                case measure => simp [intOf]; omega
              · have v' : ((k : Int) != n) = true := by simpa using v
                have et : bitN (clrN g n) L' k = true := by rw [F.out, u, decide_eq_true (by simpa using v)]; rfl
                have CT' := hide (et ▸ unhide CT)
                have CS' := hide (u ▸ unhide CS)
                clear CT CS F et u v
                go_wp2_with fail
                refine (unhide CT').mono ?_
                rintro e w' ⟨rfl, rfl⟩
                go_wp2_with fail
                refine (unhide CS').mono ?_
                rintro e w' ⟨rfl, rfl⟩
                go_wp2_with fail
                go_round
                case rel => exact ⟨k + 1, by omega, by go_num⟩
                case measure => simp [intOf]; omega
            · have u' : bitN g len k = false := by simpa using u
              have et : bitN (clrN g n) L' k = false := by rw [F.out, u']; rfl
              have CT' := hide (et ▸ unhide CT)
              have CS' := hide (u' ▸ unhide CS)
              clear CT CS F et u u'
              go_wp2_with fail
              refine (unhide CT').mono ?_
              rintro e w' ⟨rfl, rfl⟩
              go_wp2_with fail
              refine (unhide CS').mono ?_
              rintro e w' ⟨rfl, rfl⟩
              go_wp2_with fail
              go_round
              case rel => exact ⟨k + 1, by omega, by go_num⟩
              case measure => simp [intOf]; omega
          · go_wp2_with fail
            go_ret
            exact ⟨rfl, unhide BB⟩
  · have HE : Hid (L' = len) := by have := unhide HL; rw [remLen_out g len n c] at this; exact this.symm
    have hcl : Hid (∀ i, i < len → clrN g n i = g i) := fun i hi => clrN_out g len n c i hi
    clear HL
    have e := HE.out
    subst e
    have CW := hide (same_any a' a1 bt bs L' cap' L' (clrN g n) g w4 hl (unhide ST) (unhide SS) hcl.out)
    by_cases d : n < 0
    · clear c
      go_wp2_with fail
      refine (unhide CW).mono ?_
      rintro e w' ⟨rfl, q, rfl⟩
      go_wp2_with fail
      go_ret
      exact ⟨rfl, ⟨(unhide BB).os, (unhide BB).tape, (unhide BB).output, (unhide BB).size, (unhide BB).block⟩⟩
    · have d1 : 0 ≤ n := by omega
      have d2 : (L' : Int) ≤ n / 64 := by omega
      clear c d
      go_wp2_with fail
      refine (unhide CW).mono ?_
      rintro e w' ⟨rfl, q, rfl⟩
      go_wp2_with fail
      go_ret
      exact ⟨rfl, ⟨(unhide BB).os, (unhide BB).tape, (unhide BB).output, (unhide BB).size, (unhide BB).block⟩⟩

theorem spec_big (a : Option Addr) (len cap : Nat) (n : Int) (w : World) (hl : 1048576 < len) :
    Calls Try.prog 5 #[.slice a len cap, .int .i64 n] w fun e w' => e = .returned (.bool true) ∧ Below w.heap.size w w' := by
  go_enter Try.func5, Try.ntmps5
  go_wp2_with fail
  refine (bytes_no a len cap n w hl).mono ?_
  rintro e w' ⟨rfl, rfl⟩
  go_wp2_with fail
  go_ret
  exact ⟨rfl, Below.refl _ _⟩
theorem spec_mid (a : Option Addr) (len cap : Nat) (n : Int) (w : World) (hl : 131072 < len) (hl' : len ≤ 1048576) :
    Calls Try.prog 5 #[.slice a len cap, .int .i64 n] w fun e w' => e = .returned (.bool true) ∧ Below w.heap.size w w' := by
  go_enter Try.func5, Try.ntmps5
  go_wp2_with fail
  refine (bytes_yes a len cap n w hl').mono ?_
  rintro e w' ⟨rfl, rfl⟩
  have h : (131072 : Int) < (len : Int) := by omega
  go_wp2_with fail
  go_ret
  exact ⟨rfl, Below.refl _ _⟩
end Go.Proofs.Qxb6618015a.Num
