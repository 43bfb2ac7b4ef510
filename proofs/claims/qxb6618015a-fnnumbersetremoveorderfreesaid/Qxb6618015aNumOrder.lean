import Derived.Test.Qxb6618015aNumRemove
import Derived.Test.Qxb6618015aNumLaws
namespace Go.Proofs.Qxb6618015a.Num
open Go.RowKit
set_option linter.unusedVariables false
theorem bytes2_yes (s : Option Addr) (len cap : Nat) (a b : Int) (w : World) (hl : len ≤ 1048576) :
    Calls Try.prog 16 #[.slice s len cap, .int .i64 a, .int .i64 b] w fun e w' => e = .returned (.bool true) ∧ w' = w := by
  go_enter Try.func16, Try.ntmps16
  go_wp2
  go_ret
  exact ⟨rfl, rfl⟩
theorem bytes2_no (s : Option Addr) (len cap : Nat) (a b : Int) (w : World) (hl : 1048576 < len) :
    Calls Try.prog 16 #[.slice s len cap, .int .i64 a, .int .i64 b] w fun e w' => e = .returned (.bool false) ∧ w' = w := by
  have hl' : (1048576 : Int) < (len : Int) := by omega
  go_enter Try.func16, Try.ntmps16
  go_wp2
  go_ret
  exact ⟨rfl, rfl⟩
theorem order_big (s : Option Addr) (len cap : Nat) (a b : Int) (w : World) (hl : 1048576 < len) :
    Calls Try.prog 6 #[.slice s len cap, .int .i64 a, .int .i64 b] w fun e w' => e = .returned (.bool true) ∧ Below w.heap.size w w' := by
  go_enter Try.func6, Try.ntmps6
  go_wp2_with fail
  refine (bytes2_no s len cap a b w hl).mono ?_
  rintro e w' ⟨rfl, rfl⟩
  go_wp2_with fail
  go_ret
  exact ⟨rfl, Below.refl _ _⟩
theorem order_mid (s : Option Addr) (len cap : Nat) (a b : Int) (w : World) (hl : 131072 < len) (hl' : len ≤ 1048576) :
    Calls Try.prog 6 #[.slice s len cap, .int .i64 a, .int .i64 b] w fun e w' => e = .returned (.bool true) ∧ Below w.heap.size w w' := by
  go_enter Try.func6, Try.ntmps6
  go_wp2_with fail
  refine (bytes2_yes s len cap a b w hl').mono ?_
  rintro e w' ⟨rfl, rfl⟩
  have h : (131072 : Int) < (len : Int) := by omega
  go_wp2_with fail
  go_ret
  exact ⟨rfl, Below.refl _ _⟩

/-! ### What old slices and sets read as when new memory has been made -/
theorem SliceIs.lt {w : World} {a : Option Addr} {bb len : Nat} {g : Nat → Int} (h : SliceIs w a bb len g) (h0 : 0 < len) : bb < w.heap.size := by
  obtain ⟨e, N, f, hr, hN, hf⟩ := h h0
  exact hr.lt
theorem SliceIs.old {w w' : World} {a : Option Addr} {bb len : Nat} {g : Nat → Int} (h : SliceIs w a bb len g) (hb : Below w.heap.size w w') : SliceIs w' a bb len g :=
  h.below hb fun h0 => h.lt h0
theorem SetAt.old {w w' : World} {pb bb len : Nat} {g : Nat → Int} (h : SetAt w pb bb len g) (hb : Below w.heap.size w w') : SetAt w' pb bb len g := by
  obtain ⟨a, cap, hp, hf, hc, hc', hs, hne, hn⟩ := h
  have hlt : pb < w.heap.size := World.block_lt_of_cell? _ _ hp
  exact ⟨a, cap, (hb.cell (p := ⟨pb, 0, none⟩) hlt).trans hp, (hb.frozen (p := ⟨pb, 0, none⟩) hlt).trans hf, hc, hc', hs.old hb, hne, hn⟩
theorem SetAt.drawn {w : World} {pb bb len : Nat} {g : Nat → Int} (h : SetAt w pb bb len g) (q : Nat) : SetAt (w.drewN q) pb bb len g := h
theorem Below_drawn {N : Nat} {w w' : World} (h : Below N w w') (q : Nat) : Below N w (w'.drewN q) := ⟨h.os, h.tape, h.output, h.size, h.block⟩
/-- A copy is made, laid in a variable, and removed from twice: nothing that was there turns. -/
theorem stage {w w1 w3 w4 : World} {o : Obj} (h1 : Below w.heap.size w w1) (k3 : Keeps w1.heap.size w.heap.size (w1.alloc o) w3) (k4 : Keeps w1.heap.size w.heap.size w3 w4) : Below w.heap.size w w4 := by
  have hs := h1.size
  exact ((h1.alloc hs _).trans (k3.below hs (Nat.le_refl _))).trans (k4.below hs (Nat.le_refl _))

set_option maxHeartbeats 2000000 in
theorem order_core (s : Option Addr) (len cap : Nat) (f : Nat → Int) (a b : Int) (w : World) (hl : len ≤ 131072) (hz : s = none → len = 0)
    (a0 : -9223372036854775808 ≤ a) (a1 : a ≤ 9223372036854775807) (b0 : -9223372036854775808 ≤ b) (b1 : b ≤ 9223372036854775807)
    (hc : ∀ i, i < len → ∃ b off, s = some ⟨b, off, none⟩ ∧ w.cell? ⟨b, off + i, none⟩ = some (.int .u64 (f i))) (hw : ∀ i, i < len → Wd (f i)) :
    Calls Try.prog 6 #[.slice s len cap, .int .i64 a, .int .i64 b] w fun e w' => e = .returned (.bool true) ∧ Below w.heap.size w w' := by
  have CB := hide (bytes2_yes s len cap a b w (by omega))
  have CC := hide (clone_any s len cap f w hl hz hc)
  have HW := hide hw
  have q1 : remLen f len a ≤ len := remLen_le _ _ _
  have q2 : remLen (clrN f a) (remLen f len a) b ≤ remLen f len a := remLen_le _ _ _
  have q3 : remLen f len b ≤ len := remLen_le _ _ _
  have OL := hide (order_len f len a b hw)
  have AL := hide (again_len f len a b hw)
  have CT0 := hide (count_two f len a b hw)
  have BG0 := hide (bitN_gone f len (remLen (clrN f a) (remLen f len a) b) a b hw (by omega))
  clear hc hw hz
  go_enter Try.func6, Try.ntmps6
  go_wp2_with fail
  refine (unhide CB).mono ?_
  rintro e w0 ⟨rfl, rfl⟩
  go_wp2_with fail
  refine (unhide CC).mono ?_
  rintro e w1 ⟨s1, rfl, b1', sl1, z1, nil1⟩
  have NIL1 := hide nil1
  have BB1 := hide b1'
  have S1 := hide sl1
  clear CB CC b1' sl1 z1 nil1
  generalize hbs : w0.heap.size = bs at S1
  clear hbs
  -- p
  go_wp2_with fail
  refine (clone_of s1 bs len len f w1 hl (unhide NIL1) (unhide S1)).mono ?_
  rintro e w2 ⟨s2, rfl, b2, sl2, z2, nil2⟩
  have X2 := hide (box_set w2 s2 w1.heap.size len f hl nil2 z2 sl2)
  have B2 := hide b2
  clear b2 sl2 z2 nil2
  go_wp2_with fail
  refine (rem_any w2.heap.size w1.heap.size len f a _ hl a0 a1 (unhide X2)).mono ?_
  rintro e w3 ⟨rfl, s3, k3⟩
  have X3 := hide s3
  have K3 := hide k3
  clear s3 k3 X2
  go_wp2_with fail
  refine (rem_any w2.heap.size w1.heap.size (remLen f len a) (clrN f a) b _ (by omega) b0 b1 (unhide X3)).mono ?_
  rintro e w4 ⟨rfl, s4, k4⟩
  have B4 := hide (stage (unhide B2) (unhide K3) k4)
  have XP := hide s4
  have S4 := hide ((unhide S1).old (unhide B4))
  have BB4 : Hid (Below w0.heap.size w0 w4) := (unhide BB1).trans ((unhide B4).mono (unhide BB1).size)
  clear s4 k4 X3 K3 B2 B4 S1 BB1
  generalize w2.heap.size = P at *
  generalize w1.heap.size = bp at *
  -- q
  go_wp2_with fail
  refine (clone_of s1 bs len len f w4 hl (unhide NIL1) (unhide S4)).mono ?_
  rintro e w5 ⟨s5, rfl, b5, sl5, z5, nil5⟩
  have X5 := hide (box_set w5 s5 w4.heap.size len f hl nil5 z5 sl5)
  have B5 := hide b5
  clear b5 sl5 z5 nil5
  go_wp2_with fail
  refine (rem_any w5.heap.size w4.heap.size len f b _ hl b0 b1 (unhide X5)).mono ?_
  rintro e w6 ⟨rfl, s6, k6⟩
  have X6 := hide s6
  have K6 := hide k6
  clear s6 k6 X5
  go_wp2_with fail
  refine (rem_any w5.heap.size w4.heap.size (remLen f len b) (clrN f b) a _ (by omega) a0 a1 (unhide X6)).mono ?_
  rintro e w7 ⟨rfl, s7, k7⟩
  have B7 := hide (stage (unhide B5) (unhide K6) k7)
  have XQ0 := hide s7
  have XP7 := hide ((unhide XP).old (unhide B7))
  have S7 := hide ((unhide S4).old (unhide B7))
  have BB7 : Hid (Below w0.heap.size w0 w7) := (unhide BB4).trans ((unhide B7).mono (unhide BB4).size)
  have XQ : Hid (SetAt w7 w5.heap.size w4.heap.size (remLen (clrN f a) (remLen f len a) b) (clrN (clrN f b) a)) := by
    have := unhide XQ0
    rw [← unhide OL] at this
    exact this
  clear s7 k7 X6 K6 B5 B7 S4 BB4 XP XQ0 OL q3
  generalize w5.heap.size = Q at *
  generalize w4.heap.size = bq at *
  generalize hlp : remLen (clrN f a) (remLen f len a) b = lp at *
  clear hlp
  have q4 : lp ≤ len := by omega
  obtain ⟨ap, cp, lp7, _, cp1, cp2, sp7, _, np7⟩ := unhide XP7
  obtain ⟨aq, cq, lq7, _, _, _, sq7, _, _⟩ := unhide XQ
  have CW := hide (same_any ap aq bp bq lp cp cq (clrN (clrN f a) b) (clrN (clrN f b) a) w7 (by omega) sp7 sq7 (fun i hi => clrN_comm f a b i (unhide HW i (by omega))))
  have SP7 := hide sp7
  have NP7 := hide np7
  clear sp7 sq7 np7 XQ q1 q2
  go_wp2_with fail
  refine (unhide CW).mono ?_
  rintro e w8 ⟨rfl, q8, rfl⟩
  clear CW lq7
  have lp8 : (w7.drewN q8).cell? ⟨P, 0, none⟩ = some (.slice ap lp cp) := lp7
  have XP8 : Hid (SetAt (w7.drewN q8) P bp lp (clrN (clrN f a) b)) := unhide XP7
  have S8 : Hid (SliceIs (w7.drewN q8) s1 bs len f) := unhide S7
  have SP8 : Hid (SliceIs (w7.drewN q8) ap bp lp (clrN (clrN f a) b)) := unhide SP7
  have BB8 : Hid (Below w0.heap.size w0 (w7.drewN q8)) := Below_drawn (unhide BB7) q8
  clear lp7 XP7 S7 SP7 BB7
  generalize w7.drewN q8 = w8 at *
  -- r
  go_wp2_with fail
  refine (clone_of ap bp lp cp (clrN (clrN f a) b) w8 (by omega) (unhide NP7) (unhide SP8)).mono ?_
  rintro e w9 ⟨s9, rfl, b9, sl9, z9, nil9⟩
  have X9 := hide (box_set w9 s9 w8.heap.size lp (clrN (clrN f a) b) (by omega) nil9 z9 sl9)
  have B9 := hide b9
  clear b9 sl9 z9 nil9
  go_wp2_with fail
  refine (rem_any w9.heap.size w8.heap.size lp (clrN (clrN f a) b) a _ (by omega) a0 a1 (unhide X9)).mono ?_
  rintro e w10 ⟨rfl, s10, k10⟩
  have X10 := hide s10
  have K10 := hide k10
  have q5 : remLen (clrN (clrN f a) b) lp a ≤ lp := remLen_le _ _ _
  clear s10 k10 X9
  go_wp2_with fail
  refine (rem_any w9.heap.size w8.heap.size (remLen (clrN (clrN f a) b) lp a) (clrN (clrN (clrN f a) b) a) b _ (by omega) b0 b1 (unhide X10)).mono ?_
  rintro e w11 ⟨rfl, s11, k11⟩
  have B11 := hide (stage (unhide B9) (unhide K10) k11)
  have XR : Hid (SetAt w11 w9.heap.size w8.heap.size lp (clrN (clrN (clrN (clrN f a) b) a) b)) := by
    have := s11
    rw [unhide AL] at this
    exact this
  have XP11 := hide ((unhide XP8).old (unhide B11))
  have S11 := hide ((unhide S8).old (unhide B11))
  have BB11 : Hid (Below w0.heap.size w0 w11) := (unhide BB8).trans ((unhide B11).mono (unhide BB8).size)
  clear s11 k11 X10 K10 B9 B11 S8 BB8 XP8 AL lp8 SP8 q5 NP7
  generalize w9.heap.size = R at *
  generalize w8.heap.size = br at *
  obtain ⟨ap', cp', lp11, _, cp1', cp2', sp11, _, np11⟩ := unhide XP11
  obtain ⟨ar, cr, lr11, _, _, _, sr11, _, _⟩ := unhide XR
  have CW := hide (same_any ar ap' br bp lp cr cp' (clrN (clrN (clrN (clrN f a) b) a) b) (clrN (clrN f a) b) w11 (by omega) sr11 sp11 (fun i hi => again_words f a b i (unhide HW i (by omega))))
  have SP11 := hide sp11
  clear sp11 sr11 np11 XR XP11 cp1 cp2
  go_wp2_with fail
  refine (unhide CW).mono ?_
  rintro e w12 ⟨rfl, q12, rfl⟩
  clear CW lr11
  have lpW : (w11.drewN q12).cell? ⟨P, 0, none⟩ = some (.slice ap' lp cp') := lp11
  have SW : Hid (SliceIs (w11.drewN q12) s1 bs len f) := unhide S11
  have SPW : Hid (SliceIs (w11.drewN q12) ap' bp lp (clrN (clrN f a) b)) := unhide SP11
  have BB : Hid (Below w0.heap.size w0 (w11.drewN q12)) := Below_drawn (unhide BB11) q12
  clear lp11 S11 SP11 BB11
  generalize w11.drewN q12 = W at *
  have SUB : Hid (∀ i, i < len → bits .andNot .u64 (clrN (clrN f a) b i) (f i) = 0) := fun i hi => sub_words f a b i (unhide HW i hi)
  have WP : Hid (∀ i, i < lp → Wd (clrN (clrN f a) b i)) := fun i hi => clrN_wd _ _ _ (clrN_wd _ _ _ (unhide HW i (by omega)))
  generalize clrN (clrN f a) b = gp at *
  go_wp2_with fail
  go_loopw [10] (fun v wr => ∃ k q : Nat, k ≤ lp ∧ v = .int .i64 k ∧ wr = W.drewN q) (fun v _ => lp - (intOf v).toNat)
  case atStart => exact ⟨0, 0, Nat.zero_le _, rfl, rfl⟩
  case round =>
    obtain ⟨k, q, hk, rfl, rfl⟩ := hrel
    by_cases c : k < lp
    · obtain ⟨ea, _⟩ := unhide SPW (by omega)
      obtain ⟨es, _⟩ := unhide SW (by omega)
      have e1 := (unhide SPW).cell c
      have e2 := (unhide SW).cell (show k < len by omega)
      have t : (bits .andNot .u64 (gp k) (f k) != 0) = false := by rw [unhide SUB k (by omega)]; rfl
      have c' : k < len := by omega
      subst ea
      subst es
      go_wp2_with fail
      go_quiet (fail)
      go_wp2_with fail
      go_roundw
      case rel => exact ⟨k + 1, _, by omega, by go_num, by first | rfl | (simp only [World.drewN_drewN]; rfl)⟩
      case measure => simp [intOf]; omega
    · have e : k = lp := by omega
      subst e
      have hcp := cnt_le gp k
      have hcs := cnt_le f len
      have CPA := hide ((unhide BG0).1 ▸ bit_any ap' bp k cp' gp a (W.drewN q) (by omega) a1 (unhide SPW) (unhide WP))
      have CPB := hide ((unhide BG0).2 ▸ bit_any ap' bp k cp' gp b (W.drewN q) (by omega) b1 (unhide SPW) (unhide WP))
      have CSA0 := hide (bit_any s1 bs len len f a (W.drewN q) hl a1 (unhide SW) (unhide HW))
      have CSB0 := hide (bit_any s1 bs len len f b (W.drewN q) hl b1 (unhide SW) (unhide HW))
      have CNP := hide (count_any ap' bp k cp' gp (W.drewN q) (by omega) (unhide SPW) (unhide WP))
      have CNS := hide (count_any s1 bs len len f (W.drewN q) hl (unhide SW) (unhide HW))
      have CT := hide (unhide CT0)
      clear CT0 BG0
      by_cases u0 : bitN f len a = true
      · have u := u0
        have CSA := hide (u ▸ unhide CSA0)
        by_cases v0 : b = a
        · have v : (b != a) = false := by simpa using v0
          have t : ((cnt gp k : Int) == (cnt f len : Int) - 1) = true := by have := unhide CT; simp [u, v0] at this ⊢; omega
          clear CSA0 CSB0 u u0 v0 CT
          go_wp2_with fail
          refine (unhide CPA).mono ?_
          rintro e w' ⟨rfl, rfl⟩
          go_wp2_with fail
          refine (unhide CPB).mono ?_
          rintro e w' ⟨rfl, rfl⟩
          go_wp2_with fail
          refine (unhide CSA).mono ?_
          rintro e w' ⟨rfl, rfl⟩
          go_wp2_with fail
          refine (unhide CNP).mono ?_
          rintro e w' ⟨rfl, rfl⟩
          go_wp2_with fail
          refine (unhide CNS).mono ?_
          rintro e w' ⟨rfl, rfl⟩
          go_wp2_with fail
          go_ret
          exact ⟨rfl, Below_drawn (unhide BB) q⟩
        · have v : (b != a) = true := by simpa using v0
          by_cases x0 : bitN f len b = true
          · have CSB := hide (x0 ▸ unhide CSB0)
            have t : ((cnt gp k : Int) == (cnt f len : Int) - 2) = true := by have := unhide CT; simp [u, v0, x0] at this ⊢; omega
            clear CSA0 CSB0 u u0 v0 x0 CT
            go_wp2_with fail
            refine (unhide CPA).mono ?_
            rintro e w' ⟨rfl, rfl⟩
            go_wp2_with fail
            refine (unhide CPB).mono ?_
            rintro e w' ⟨rfl, rfl⟩
            go_wp2_with fail
            refine (unhide CSA).mono ?_
            rintro e w' ⟨rfl, rfl⟩
            go_wp2_with fail
            refine (unhide CSB).mono ?_
            rintro e w' ⟨rfl, rfl⟩
            go_wp2_with fail
            refine (unhide CNP).mono ?_
            rintro e w' ⟨rfl, rfl⟩
            go_wp2_with fail
            refine (unhide CNS).mono ?_
            rintro e w' ⟨rfl, rfl⟩
            go_wp2_with fail
            go_ret
            exact ⟨rfl, Below_drawn (unhide BB) q⟩
          · have x : bitN f len b = false := by simpa using x0
            have CSB := hide (x ▸ unhide CSB0)
            have t : ((cnt gp k : Int) == (cnt f len : Int) - 1) = true := by have := unhide CT; simp [u, v0, x] at this ⊢; omega
            clear CSA0 CSB0 u u0 v0 x0 x CT
            go_wp2_with fail
            refine (unhide CPA).mono ?_
            rintro e w' ⟨rfl, rfl⟩
            go_wp2_with fail
            refine (unhide CPB).mono ?_
            rintro e w' ⟨rfl, rfl⟩
            go_wp2_with fail
            refine (unhide CSA).mono ?_
            rintro e w' ⟨rfl, rfl⟩
            go_wp2_with fail
            refine (unhide CSB).mono ?_
            rintro e w' ⟨rfl, rfl⟩
            go_wp2_with fail
            refine (unhide CNP).mono ?_
            rintro e w' ⟨rfl, rfl⟩
            go_wp2_with fail
            refine (unhide CNS).mono ?_
            rintro e w' ⟨rfl, rfl⟩
            go_wp2_with fail
            go_ret
            exact ⟨rfl, Below_drawn (unhide BB) q⟩
      · have u : bitN f len a = false := by simpa using u0
        have CSA := hide (u ▸ unhide CSA0)
        by_cases v0 : b = a
        · have v : (b != a) = false := by simpa using v0
          have t : ((cnt gp k : Int) == (cnt f len : Int)) = true := by have := unhide CT; simp [u, v0] at this ⊢; omega
          clear CSA0 CSB0 u u0 v0 CT
          go_wp2_with fail
          refine (unhide CPA).mono ?_
          rintro e w' ⟨rfl, rfl⟩
          go_wp2_with fail
          refine (unhide CPB).mono ?_
          rintro e w' ⟨rfl, rfl⟩
          go_wp2_with fail
          refine (unhide CSA).mono ?_
          rintro e w' ⟨rfl, rfl⟩
          go_wp2_with fail
          refine (unhide CNP).mono ?_
          rintro e w' ⟨rfl, rfl⟩
          go_wp2_with fail
          refine (unhide CNS).mono ?_
          rintro e w' ⟨rfl, rfl⟩
          go_wp2_with fail
          go_ret
          exact ⟨rfl, Below_drawn (unhide BB) q⟩
        · have v : (b != a) = true := by simpa using v0
          by_cases x0 : bitN f len b = true
          · have CSB := hide (x0 ▸ unhide CSB0)
            have t : ((cnt gp k : Int) == (cnt f len : Int) - 1) = true := by have := unhide CT; simp [u, v0, x0] at this ⊢; omega
            clear CSA0 CSB0 u u0 v0 x0 CT
            go_wp2_with fail
            refine (unhide CPA).mono ?_
            rintro e w' ⟨rfl, rfl⟩
            go_wp2_with fail
            refine (unhide CPB).mono ?_
            rintro e w' ⟨rfl, rfl⟩
            go_wp2_with fail
            refine (unhide CSA).mono ?_
            rintro e w' ⟨rfl, rfl⟩
            go_wp2_with fail
            refine (unhide CSB).mono ?_
            rintro e w' ⟨rfl, rfl⟩
            go_wp2_with fail
            refine (unhide CNP).mono ?_
            rintro e w' ⟨rfl, rfl⟩
            go_wp2_with fail
            refine (unhide CNS).mono ?_
            rintro e w' ⟨rfl, rfl⟩
            go_wp2_with fail
            go_ret
            exact ⟨rfl, Below_drawn (unhide BB) q⟩
          · have x : bitN f len b = false := by simpa using x0
            have CSB := hide (x ▸ unhide CSB0)
            have t : ((cnt gp k : Int) == (cnt f len : Int)) = true := by have := unhide CT; simp [u, v0, x] at this ⊢; omega
            clear CSA0 CSB0 u u0 v0 x0 x CT
            go_wp2_with fail
            refine (unhide CPA).mono ?_
            rintro e w' ⟨rfl, rfl⟩
            go_wp2_with fail
            refine (unhide CPB).mono ?_
            rintro e w' ⟨rfl, rfl⟩
            go_wp2_with fail
            refine (unhide CSA).mono ?_
            rintro e w' ⟨rfl, rfl⟩
            go_wp2_with fail
            refine (unhide CSB).mono ?_
            rintro e w' ⟨rfl, rfl⟩
            go_wp2_with fail
            refine (unhide CNP).mono ?_
            rintro e w' ⟨rfl, rfl⟩
            go_wp2_with fail
            refine (unhide CNS).mono ?_
            rintro e w' ⟨rfl, rfl⟩
            go_wp2_with fail
            go_ret
            exact ⟨rfl, Below_drawn (unhide BB) q⟩
end Go.Proofs.Qxb6618015a.Num
