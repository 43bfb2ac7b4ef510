/-
  PLAIN MATHEMATICS for the laws over NumberSet.Remove: words, their bits, a bit struck, trailing zero words shed, bits counted. No Go text is walked here.
-/
import Derived.Laws.BitsLemmas
import Derived.Laws.Bits64b
namespace Go.Proofs.Qxb6618015a.Num
open Go
set_option linter.unusedVariables false

/-- A word. -/
def Wd (x : Int) : Prop := 0 ≤ x ∧ x < 18446744073709551616
/-- Bit r of the word x. -/
def tb (x : Int) (r : Nat) : Bool := x.toNat.testBit r
/-- The word x without bit r, as the Go text reckons it. -/
def clr (x : Int) (r : Nat) : Int := bits .andNot .u64 x (IntKind.u64.wrap (2 ^ r))

theorem tb_zero (r : Nat) : tb 0 r = false := by simp [tb]
theorem tb_high (x : Int) (h : Wd x) (i : Nat) (hi : 64 ≤ i) : tb x i = false := by
  unfold tb
  have hx : x.toNat < 2 ^ 64 := by have := h.1; have := h.2; omega
  exact Nat.testBit_lt_two_pow (Nat.lt_of_lt_of_le hx (Nat.pow_le_pow_right (by decide) hi))
theorem wd_eq (x y : Int) (hx : Wd x) (hy : Wd y) (h : ∀ i, i < 64 → tb x i = tb y i) : x = y := by
  have e : x.toNat = y.toNat := by
    apply Nat.eq_of_testBit_eq
    intro i
    by_cases hi : i < 64
    · exact h i hi
    · have a := tb_high x hx i (by omega)
      have b := tb_high y hy i (by omega)
      unfold tb at a b
      rw [a, b]
  have := hx.1; have := hy.1
  omega
theorem wd_bit (x : Int) (hx : Wd x) (h : x ≠ 0) : ∃ i, i < 64 ∧ tb x i = true := by
  apply Classical.byContradiction
  intro hn
  apply h
  refine wd_eq x 0 hx ⟨by decide, by decide⟩ fun i hi => ?_
  rw [tb_zero]
  cases e : tb x i
  · rfl
  · exact absurd ⟨i, hi, e⟩ hn

theorem pow_wrap (r : Nat) (hr : r < 64) : IntKind.u64.wrap (2 ^ r) = ((2 ^ r : Nat) : Int) := by
  have h : 2 ^ r < 2 ^ 64 := Nat.pow_lt_pow_right (by decide) hr
  have e : (2 : Int) ^ r = ((2 ^ r : Nat) : Int) := by simp
  rw [e, IntKind.wrap_u64]
  generalize 2 ^ r = p at *
  omega

theorem clr_bv (x : Int) (r : Nat) (hx : Wd x) (hr : r < 64) :
    clr x r = (((BitVec.ofNat 64 x.toNat &&& ~~~BitVec.ofNat 64 (2 ^ r)).toNat : Nat) : Int) := by
  unfold clr
  rw [pow_wrap r hr]
  show IntKind.u64.wrap ((BitVec.ofInt 64 x &&& ~~~BitVec.ofInt 64 ((2 ^ r : Nat) : Int)).toNat : Int) = _
  have ex : BitVec.ofInt 64 x = BitVec.ofNat 64 x.toNat := by
    rw [← BitVec.ofInt_natCast, Int.toNat_of_nonneg hx.1]
  rw [ex, BitVec.ofInt_natCast, IntKind.wrap_u64]
  have := (BitVec.ofNat 64 x.toNat &&& ~~~BitVec.ofNat 64 (2 ^ r)).isLt
  omega
theorem clr_wd (x : Int) (r : Nat) (hx : Wd x) (hr : r < 64) : Wd (clr x r) := by
  rw [clr_bv x r hx hr]
  have := (BitVec.ofNat 64 x.toNat &&& ~~~BitVec.ofNat 64 (2 ^ r)).isLt
  constructor <;> omega
theorem clr_tb (x : Int) (r : Nat) (hx : Wd x) (hr : r < 64) (i : Nat) (hi : i < 64) : tb (clr x r) i = (tb x i && decide (i ≠ r)) := by
  have h := clr_bv x r hx hr
  unfold tb
  rw [h, Int.toNat_natCast, BitVec.testBit_toNat]
  simp only [BitVec.getLsbD_and, BitVec.getLsbD_not, BitVec.getLsbD_ofNat, Nat.testBit_two_pow, hi]
  by_cases e : i = r
  · subst e; simp
  · have e' : ¬ r = i := fun x => e x.symm
    simp [e, e']
theorem clr_zero (r : Nat) (hr : r < 64) : clr 0 r = 0 := by
  have h0 : Wd 0 := ⟨by decide, by decide⟩
  refine wd_eq _ _ (clr_wd 0 r h0 hr) h0 fun i hi => ?_
  rw [clr_tb 0 r h0 hr i hi, tb_zero]; rfl
theorem clr_comm (x : Int) (r s : Nat) (hx : Wd x) (hr : r < 64) (hs : s < 64) : clr (clr x r) s = clr (clr x s) r := by
  refine wd_eq _ _ (clr_wd _ _ (clr_wd _ _ hx hr) hs) (clr_wd _ _ (clr_wd _ _ hx hs) hr) fun i hi => ?_
  rw [clr_tb _ _ (clr_wd _ _ hx hr) hs i hi, clr_tb _ _ (clr_wd _ _ hx hs) hr i hi, clr_tb _ _ hx hr i hi, clr_tb _ _ hx hs i hi]
  cases tb x i <;> cases decide (i ≠ r) <;> cases decide (i ≠ s) <;> rfl
theorem clr_idem (x : Int) (r : Nat) (hx : Wd x) (hr : r < 64) (h : tb x r = false) : clr x r = x := by
  refine wd_eq _ _ (clr_wd _ _ hx hr) hx fun i hi => ?_
  rw [clr_tb _ _ hx hr i hi]
  by_cases e : i = r
  · subst e; rw [h]; rfl
  · simp [e]

/-- The Go text's look at a bit. -/
theorem and_one (E : Int) (h : Wd E) : bits BinOp.and IntKind.u64 E 1 = E % 2 := by
  obtain ⟨e, he⟩ := Int.eq_ofNat_of_zero_le h.1
  have h1 := h.2
  subst he
  have := bits_and_u64_nat e 1 (by omega) (by omega)
  rw [show ((1 : Nat) : Int) = 1 from rfl] at this
  rw [this, Nat.and_one_is_mod]
  omega
theorem look (x : Int) (r : Nat) (hx : Wd x) : (bits .and .u64 (x / 2 ^ r) 1 == 1) = tb x r := by
  have e2 : (2 : Int) ^ r = ((2 ^ r : Nat) : Int) := by simp
  obtain ⟨e, he⟩ := Int.eq_ofNat_of_zero_le hx.1
  have h1 := hx.2
  subst he
  have hd : ((e : Int) / (2 : Int) ^ r) = ((e / 2 ^ r : Nat) : Int) := by rw [e2]; simp
  have hle : e / 2 ^ r ≤ e := Nat.div_le_self _ _
  unfold tb
  rw [hd, Int.toNat_natCast, Nat.testBit_eq_decide_div_mod_eq]
  generalize e / 2 ^ r = q at *
  rw [and_one _ ⟨by omega, by omega⟩]
  by_cases c : q % 2 = 1
  · have c' : ((q : Nat) : Int) % 2 = 1 := by omega
    rw [c', decide_eq_true c]; rfl
  · have c' : ((q : Nat) : Int) % 2 = 0 := by omega
    rw [c', decide_eq_false c]; rfl

/-- A submask: nothing is left of it outside. -/
theorem andNot_clear (x y : Int) (hx : Wd x) (hy : Wd y) (h : ∀ i, i < 64 → tb x i = true → tb y i = true) : bits .andNot .u64 x y = 0 := by
  show IntKind.u64.wrap ((BitVec.ofInt 64 x &&& ~~~BitVec.ofInt 64 y).toNat : Int) = _
  have ex : BitVec.ofInt 64 x = BitVec.ofNat 64 x.toNat := by rw [← BitVec.ofInt_natCast, Int.toNat_of_nonneg hx.1]
  have ey : BitVec.ofInt 64 y = BitVec.ofNat 64 y.toNat := by rw [← BitVec.ofInt_natCast, Int.toNat_of_nonneg hy.1]
  have e : BitVec.ofInt 64 x &&& ~~~BitVec.ofInt 64 y = 0#64 := by
    rw [ex, ey]
    apply BitVec.eq_of_getLsbD_eq
    intro i hi
    simp only [BitVec.getLsbD_and, BitVec.getLsbD_not, BitVec.getLsbD_ofNat, hi]
    have hh := h i hi
    unfold tb at hh
    cases h1 : x.toNat.testBit i <;> cases h2 : y.toNat.testBit i <;> simp_all
  rw [e]; decide

/-! ### Words in a row -/
/-- The row g with the bit of the number n struck. -/
def clrN (g : Nat → Int) (n : Int) (i : Nat) : Int := if 0 ≤ n ∧ i = (n / 64).toNat then clr (g i) (n % 64).toNat else g i
/-- Trailing zero words shed. -/
def trim (g : Nat → Int) : Nat → Nat
  | 0 => 0
  | m + 1 => if g m = 0 then trim g m else m + 1
/-- Whether the number n is in the set. -/
def bitN (g : Nat → Int) (len : Nat) (n : Int) : Bool := decide (0 ≤ n ∧ n / 64 < (len : Int)) && tb (g (n / 64).toNat) (n % 64).toNat
/-- How long the set is when n has been removed. -/
def remLen (g : Nat → Int) (len : Nat) (n : Int) : Nat := if 0 ≤ n ∧ n / 64 < (len : Int) then trim (clrN g n) len else len

theorem r_lt (n : Int) : (n % 64).toNat < 64 := by omega
theorem clrN_wd (g : Nat → Int) (n : Int) (i : Nat) (h : Wd (g i)) : Wd (clrN g n i) := by
  unfold clrN
  split
  · exact clr_wd _ _ h (r_lt n)
  · exact h
theorem clrN_tb (g : Nat → Int) (n : Int) (i : Nat) (h : Wd (g i)) (r : Nat) (hr : r < 64) : tb (clrN g n i) r = (tb (g i) r && decide ((64 * i + r : Int) ≠ n)) := by
  unfold clrN
  split
  · rename_i hc
    rw [clr_tb _ _ h (r_lt n) r hr]
    congr 1
    by_cases e : r = (n % 64).toNat
    · have e' : (64 * i + r : Int) = n := by omega
      simp [e']
      omega
    · have e' : ¬ (64 * i + r : Int) = n := by omega
      simp [e, e']
  · rename_i hc
    have e' : ¬ (64 * i + r : Int) = n := by omega
    simp [e']

theorem trim_le (g : Nat → Int) (m : Nat) : trim g m ≤ m := by
  induction m with
  | zero => exact Nat.le_refl _
  | succ m ih => unfold trim; split <;> omega
theorem trim_zero (g : Nat → Int) (m i : Nat) (h1 : trim g m ≤ i) (h2 : i < m) : g i = 0 := by
  induction m with
  | zero => omega
  | succ m ih =>
    unfold trim at h1
    split at h1
    · rename_i hz
      by_cases e : i = m
      · rw [e]; exact hz
      · exact ih h1 (by omega)
    · omega
theorem trim_last (g : Nat → Int) (m : Nat) (h : 0 < trim g m) : g (trim g m - 1) ≠ 0 := by
  induction m with
  | zero => simp [trim] at h
  | succ m ih =>
    unfold trim at h ⊢
    split at h
    · rename_i hz
      rw [if_pos hz]
      exact ih h
    · rename_i hz
      rw [if_neg hz]
      exact hz
/-- The two facts settle it. -/
theorem trim_eq (g : Nat → Int) (M m : Nat) (hm : m ≤ M) (h1 : ∀ i, m ≤ i → i < M → g i = 0) (h2 : 0 < m → g (m - 1) ≠ 0) : trim g M = m := by
  have a := trim_le g M
  by_cases c : trim g M < m
  · have := trim_zero g M (m - 1) (by omega) (by omega)
    exact absurd this (h2 (by omega))
  · by_cases d : m < trim g M
    · have := h1 (trim g M - 1) (by omega) (by omega)
      exact absurd this (trim_last g M (by omega))
    · omega
theorem trim_self (g : Nat → Int) (M : Nat) : trim g (trim g M) = trim g M :=
  trim_eq g (trim g M) (trim g M) (Nat.le_refl _) (fun i h1 h2 => by omega) (fun h => trim_last g M h)

/-! ### Bits counted -/
def pcU (x : Int) : Nat → Nat
  | 0 => 0
  | j + 1 => pcU x j + (if tb x j = true then 1 else 0)
def cnt (g : Nat → Int) : Nat → Nat
  | 0 => 0
  | l + 1 => cnt g l + pcU (g l) 64
theorem pcU_le (x : Int) (j : Nat) : pcU x j ≤ j := by
  induction j with
  | zero => exact Nat.le_refl _
  | succ j ih => unfold pcU; split <;> omega
theorem cnt_le (g : Nat → Int) (l : Nat) : cnt g l ≤ 64 * l := by
  induction l with
  | zero => exact Nat.le_refl _
  | succ l ih => unfold cnt; have := pcU_le (g l) 64; omega
theorem pcU_zero (j : Nat) : pcU 0 j = 0 := by
  induction j with
  | zero => rfl
  | succ j ih => unfold pcU; rw [ih, tb_zero]; rfl
theorem pcU_clr (x : Int) (r : Nat) (hx : Wd x) (hr : r < 64) (j : Nat) (hj : j ≤ 64) : pcU (clr x r) j + (if r < j ∧ tb x r = true then 1 else 0) = pcU x j := by
  induction j with
  | zero => simp [pcU]
  | succ j ih =>
    have i := ih (by omega)
    unfold pcU
    rw [clr_tb x r hx hr j (by omega)]
    by_cases e : j = r
    · subst e
      cases h : tb x j <;> simp [h] at i ⊢ <;> omega
    · have e' : (r < j + 1) ↔ r < j := by omega
      cases h : tb x j <;> cases h' : tb x r <;> simp [e, e', h'] at i ⊢ <;> omega
theorem cnt_clrN (g : Nat → Int) (n : Int) (l : Nat) (h : ∀ i, i < l → Wd (g i)) : cnt (clrN g n) l + (if bitN g l n = true then 1 else 0) = cnt g l := by
  induction l with
  | zero =>
    have e : bitN g 0 n = false := by
      unfold bitN
      rw [decide_eq_false (by omega)]; rfl
    rw [e]; rfl
  | succ l ih =>
    have i := ih fun i hi => h i (by omega)
    unfold cnt
    by_cases c : 0 ≤ n ∧ l = (n / 64).toNat
    · have b0 : bitN g l n = false := by
        unfold bitN
        rw [decide_eq_false (by omega)]; rfl
      have b1 : bitN g (l + 1) n = tb (g l) (n % 64).toNat := by
        unfold bitN
        rw [decide_eq_true (by omega), ← c.2]; rfl
      have hc : clrN g n l = clr (g l) (n % 64).toNat := by unfold clrN; rw [if_pos c]
      have p := pcU_clr (g l) (n % 64).toNat (h l (by omega)) (r_lt n) 64 (Nat.le_refl _)
      rw [hc, b1]
      rw [b0] at i
      have r64 := r_lt n
      simp only [r64, true_and] at p
      simp at i
      omega
    · have b1 : bitN g (l + 1) n = bitN g l n := by
        unfold bitN
        congr 1
        by_cases c0 : 0 ≤ n
        · have : (n / 64 < ((l + 1 : Nat) : Int)) ↔ n / 64 < (l : Int) := by omega
          simp [c0]
          omega
        · simp [c0]
      have hc : clrN g n l = g l := by unfold clrN; rw [if_neg c]
      rw [hc, b1]
      omega
theorem cnt_tail (g : Nat → Int) (m : Nat) : ∀ M, m ≤ M → (∀ i, m ≤ i → i < M → g i = 0) → cnt g M = cnt g m := by
  intro M
  induction M with
  | zero => intro h _; rw [show m = 0 by omega]
  | succ M ih =>
    intro h hz
    by_cases e : m = M + 1
    · rw [e]
    · show cnt g M + pcU (g M) 64 = cnt g m
      rw [hz M (by omega) (by omega), pcU_zero, ih (by omega) fun i h1 h2 => hz i h1 (by omega)]
      rfl
theorem cnt_congr (g h : Nat → Int) (l : Nat) (e : ∀ i, i < l → g i = h i) : cnt g l = cnt h l := by
  induction l with
  | zero => rfl
  | succ l ih =>
    unfold cnt
    rw [ih fun i hi => e i (by omega), e l (by omega)]
end Go.Proofs.Qxb6618015a.Num
