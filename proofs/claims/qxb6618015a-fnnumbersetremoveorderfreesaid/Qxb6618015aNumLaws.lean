/-
  PLAIN MATHEMATICS for the two laws: what a set that has shed its zero words looks like, bit by bit.
-/
import Derived.Test.Qxb6618015aNumPlain
namespace Go.Proofs.Qxb6618015a.Num
open Go
set_option linter.unusedVariables false

theorem bitN_in (g : Nat → Int) (len : Nat) (j : Int) (h0 : 0 ≤ j) (h1 : j / 64 < (len : Int)) : bitN g len j = tb (g (j / 64).toNat) (j % 64).toNat := by
  unfold bitN
  rw [decide_eq_true ⟨h0, h1⟩]; rfl
theorem bitN_not (g : Nat → Int) (len : Nat) (j : Int) (h : ¬ (0 ≤ j ∧ j / 64 < (len : Int))) : bitN g len j = false := by
  unfold bitN
  rw [decide_eq_false h]; rfl
theorem bitN_clrN (g : Nat → Int) (len : Nat) (n j : Int) (hw : ∀ i, i < len → Wd (g i)) : bitN (clrN g n) len j = (bitN g len j && decide (j ≠ n)) := by
  by_cases c : 0 ≤ j ∧ j / 64 < (len : Int)
  · rw [bitN_in _ _ _ c.1 c.2, bitN_in _ _ _ c.1 c.2, clrN_tb g n _ (hw _ (by omega)) _ (r_lt j)]
    have e : (64 * ((j / 64).toNat : Int) + ((j % 64).toNat : Int)) = j := by omega
    rw [e]
  · rw [bitN_not _ _ _ c, bitN_not _ _ _ c]; rfl
theorem bitN_short (g : Nat → Int) (l len : Nat) (j : Int) (hl : l ≤ len) (h0 : 0 ≤ j) (h1 : j < 64 * (l : Int)) : bitN g l j = bitN g len j := by
  rw [bitN_in _ _ _ h0 (by omega), bitN_in _ _ _ h0 (by omega)]
theorem bitN_at (g : Nat → Int) (len i r : Nat) (hi : i < len) (hr : r < 64) : bitN g len (64 * (i : Int) + (r : Int)) = tb (g i) r := by
  rw [bitN_in _ _ _ (by omega) (by omega)]
  have e1 : ((64 * (i : Int) + (r : Int)) / 64).toNat = i := by omega
  have e2 : ((64 * (i : Int) + (r : Int)) % 64).toNat = r := by omega
  rw [e1, e2]

/-- No bit at all: every word is shed. -/
theorem top_none (g : Nat → Int) (len : Nat) (hw : ∀ i, i < len → Wd (g i)) (h : ∀ j : Int, -1 < j → j < 64 * (len : Int) → bitN g len j = false) : trim g len = 0 := by
  by_cases c : 0 < trim g len
  · exfalso
    have hle := trim_le g len
    obtain ⟨r, hr, hb⟩ := wd_bit _ (hw (trim g len - 1) (by omega)) (trim_last g len c)
    have := h (64 * ((trim g len - 1 : Nat) : Int) + (r : Int)) (by omega) (by omega)
    rw [bitN_at g len (trim g len - 1) r (by omega) hr, hb] at this
    cases this
  · omega
/-- The highest bit lies in the last word that is kept. -/
theorem top_some (g : Nat → Int) (len : Nat) (k : Int) (hw : ∀ i, i < len → Wd (g i)) (k0 : 0 ≤ k) (k1 : k < 64 * (len : Int)) (hb : bitN g len k = true)
    (h : ∀ j : Int, k < j → j < 64 * (len : Int) → bitN g len j = false) : (trim g len : Int) = k / 64 + 1 := by
  have hle := trim_le g len
  by_cases c1 : (trim g len : Int) ≤ k / 64
  · exfalso
    have hz := trim_zero g len (k / 64).toNat (by omega) (by omega)
    rw [bitN_in g len k k0 (by omega), hz, tb_zero] at hb
    cases hb
  · by_cases c2 : k / 64 + 1 < (trim g len : Int)
    · exfalso
      obtain ⟨r, hr, hb'⟩ := wd_bit _ (hw (trim g len - 1) (by omega)) (trim_last g len (by omega))
      have := h (64 * ((trim g len - 1 : Nat) : Int) + (r : Int)) (by omega) (by omega)
      rw [bitN_at g len (trim g len - 1) r (by omega) hr, hb'] at this
      cases this
    · omega

/-! ### Two removals -/
theorem trim_congr (g h : Nat → Int) (m : Nat) (e : ∀ i, i < m → g i = h i) : trim g m = trim h m := by
  induction m with
  | zero => rfl
  | succ m ih =>
    unfold trim
    rw [e m (by omega), ih fun i hi => e i (by omega)]
theorem clrN_zero (g : Nat → Int) (n : Int) (i : Nat) (h : g i = 0) : clrN g n i = 0 := by
  unfold clrN
  split
  · rw [h]; exact clr_zero _ (r_lt n)
  · exact h
/-- Whether the number lies within the words. -/
def inR (len : Nat) (n : Int) : Prop := 0 ≤ n ∧ n / 64 < (len : Int)
theorem clrN_out (g : Nat → Int) (len : Nat) (n : Int) (h : ¬ inR len n) (i : Nat) (hi : i < len) : clrN g n i = g i := by
  unfold clrN
  rw [if_neg]
  unfold inR at h
  omega
theorem remLen_in (g : Nat → Int) (len : Nat) (n : Int) (h : inR len n) : remLen g len n = trim (clrN g n) len := by
  unfold inR at h
  unfold remLen
  rw [if_pos h]
theorem remLen_out (g : Nat → Int) (len : Nat) (n : Int) (h : ¬ inR len n) : remLen g len n = len := by
  unfold inR at h
  unfold remLen
  rw [if_neg h]
theorem remLen_le (g : Nat → Int) (len : Nat) (n : Int) : remLen g len n ≤ len := by
  unfold remLen
  split
  · exact trim_le _ _
  · exact Nat.le_refl _
/-- What is left behind two removals. -/
theorem rem_two (f : Nat → Int) (L : Nat) (a b : Int) :
    ((inR L a ∨ inR L b) → remLen (clrN f a) (remLen f L a) b = trim (clrN (clrN f a) b) L) ∧ (¬ inR L a → ¬ inR L b → remLen (clrN f a) (remLen f L a) b = L) := by
  by_cases ca : inR L a
  · have e1 : remLen f L a = trim (clrN f a) L := remLen_in f L a ca
    have hle := trim_le (clrN f a) L
    refine ⟨fun _ => ?_, fun h => absurd ca h⟩
    rw [e1]
    by_cases cb : inR (trim (clrN f a) L) b
    · have e2 : remLen (clrN f a) (trim (clrN f a) L) b = trim (clrN (clrN f a) b) (trim (clrN f a) L) := remLen_in _ _ _ cb
      rw [e2]
      have hle2 := trim_le (clrN (clrN f a) b) (trim (clrN f a) L)
      refine (trim_eq _ _ _ (by omega) ?_ fun h => trim_last _ _ h).symm
      intro i h1 h2
      by_cases c : i < trim (clrN f a) L
      · exact trim_zero _ _ i h1 c
      · exact clrN_zero _ _ _ (trim_zero _ _ i (by omega) h2)
    · have e2 : remLen (clrN f a) (trim (clrN f a) L) b = trim (clrN f a) L := remLen_out _ _ _ cb
      rw [e2]
      refine trim_congr _ _ _ fun i hi => ?_
      by_cases c : i < trim (clrN f a) L
      · exact (clrN_out _ _ _ cb i c).symm
      · have z := trim_zero (clrN f a) L i (by omega) hi
        rw [z, clrN_zero _ _ _ z]
  · have e1 : remLen f L a = L := remLen_out f L a ca
    rw [e1]
    refine ⟨fun h => ?_, fun _ cb => ?_⟩
    · have cb : inR L b := by rcases h with h | h; exact absurd h ca; exact h
      exact remLen_in _ _ _ cb
    · exact remLen_out _ _ _ cb

theorem clrN_comm (f : Nat → Int) (a b : Int) (i : Nat) (h : Wd (f i)) : clrN (clrN f a) b i = clrN (clrN f b) a i := by
  by_cases ca : 0 ≤ a ∧ i = (a / 64).toNat <;> by_cases cb : 0 ≤ b ∧ i = (b / 64).toNat
  · simp only [clrN, if_pos ca, if_pos cb]
    exact clr_comm _ _ _ h (r_lt a) (r_lt b)
  · simp only [clrN, if_pos ca, if_neg cb]
  · simp only [clrN, if_neg ca, if_pos cb]
  · simp only [clrN, if_neg ca, if_neg cb]

/-- The order of two removals does not matter. -/
theorem order_len (f : Nat → Int) (L : Nat) (a b : Int) (hw : ∀ i, i < L → Wd (f i)) :
    remLen (clrN f a) (remLen f L a) b = remLen (clrN f b) (remLen f L b) a := by
  have h1 := rem_two f L a b
  have h2 := rem_two f L b a
  by_cases c : inR L a ∨ inR L b
  · rw [h1.1 c, h2.1 (c.symm)]
    exact trim_congr _ _ _ fun i hi => clrN_comm f a b i (hw i hi)
  · have ca : ¬ inR L a := fun h => c (.inl h)
    have cb : ¬ inR L b := fun h => c (.inr h)
    rw [h1.2 ca cb, h2.2 cb ca]

theorem bitN_gone (f : Nat → Int) (L l : Nat) (a b : Int) (hw : ∀ i, i < L → Wd (f i)) (hl : l ≤ L) : bitN (clrN (clrN f a) b) l a = false ∧ bitN (clrN (clrN f a) b) l b = false := by
  have w1 : ∀ i, i < l → Wd (f i) := fun i hi => hw i (by omega)
  have w2 : ∀ i, i < l → Wd (clrN f a i) := fun i hi => clrN_wd _ _ _ (w1 i hi)
  rw [bitN_clrN _ _ _ _ w2, bitN_clrN _ _ _ _ w2, bitN_clrN _ _ _ _ w1]
  simp
theorem clrN_again (f : Nat → Int) (n : Int) (i : Nat) (h : Wd (f i)) (hb : ∀ r : Nat, r < 64 → (64 * (i : Int) + (r : Int)) = n → tb (f i) r = false) : clrN f n i = f i := by
  refine wd_eq _ _ (clrN_wd _ _ _ h) h fun r hr => ?_
  rw [clrN_tb f n i h r hr]
  by_cases e : (64 * (i : Int) + (r : Int)) = n
  · rw [hb r hr e]; rfl
  · simp [e]
/-- Both again: the words are as they were. -/
theorem again_words (f : Nat → Int) (a b : Int) (i : Nat) (h : Wd (f i)) : clrN (clrN (clrN (clrN f a) b) a) b i = clrN (clrN f a) b i := by
  have w1 := clrN_wd f a i h
  have w2 := clrN_wd (clrN f a) b i w1
  have e1 : clrN (clrN (clrN f a) b) a i = clrN (clrN f a) b i := by
    refine clrN_again _ a i w2 fun r hr e => ?_
    rw [clrN_tb _ _ _ w1 r hr, clrN_tb _ _ _ h r hr]
    simp [e]
  have e2 : clrN (clrN (clrN (clrN f a) b) a) b i = clrN (clrN (clrN f a) b) b i := by
    show (if 0 ≤ b ∧ i = (b / 64).toNat then clr (clrN (clrN (clrN f a) b) a i) (b % 64).toNat else clrN (clrN (clrN f a) b) a i) = (if 0 ≤ b ∧ i = (b / 64).toNat then clr (clrN (clrN f a) b i) (b % 64).toNat else clrN (clrN f a) b i)
    rw [e1]
  rw [e2]
  refine clrN_again _ b i w2 fun r hr e => ?_
  rw [clrN_tb _ _ _ w1 r hr]
  simp [e]
/-- Both again: no word is shed. -/
theorem again_len (f : Nat → Int) (L : Nat) (a b : Int) (hw : ∀ i, i < L → Wd (f i)) :
    remLen (clrN (clrN (clrN f a) b) a) (remLen (clrN (clrN f a) b) (remLen (clrN f a) (remLen f L a) b) a) b = remLen (clrN f a) (remLen f L a) b := by
  have h1 := rem_two f L a b
  have hle : remLen (clrN f a) (remLen f L a) b ≤ L := Nat.le_trans (remLen_le _ _ _) (remLen_le _ _ _)
  have h2 := rem_two (clrN (clrN f a) b) (remLen (clrN f a) (remLen f L a) b) a b
  by_cases c : inR (remLen (clrN f a) (remLen f L a) b) a ∨ inR (remLen (clrN f a) (remLen f L a) b) b
  · rw [h2.1 c]
    have cL : inR L a ∨ inR L b := by
      unfold inR at c ⊢
      omega
    have e := h1.1 cL
    rw [trim_congr _ (clrN (clrN f a) b) _ fun i hi => again_words f a b i (hw i (by omega))]
    rw [e]
    exact trim_self _ _
  · exact h2.2 (fun h => c (.inl h)) (fun h => c (.inr h))
theorem sub_words (f : Nat → Int) (a b : Int) (i : Nat) (h : Wd (f i)) : bits .andNot .u64 (clrN (clrN f a) b i) (f i) = 0 := by
  have w1 := clrN_wd f a i h
  refine andNot_clear _ _ (clrN_wd _ _ _ w1) h fun r hr hb => ?_
  rw [clrN_tb _ _ _ w1 r hr, clrN_tb _ _ _ h r hr] at hb
  simp at hb
  exact hb.1.1
/-- How many members are left. -/
theorem count_two (f : Nat → Int) (L : Nat) (a b : Int) (hw : ∀ i, i < L → Wd (f i)) :
    cnt (clrN (clrN f a) b) (remLen (clrN f a) (remLen f L a) b) + (if bitN f L a = true then 1 else 0) + (if bitN f L b = true ∧ b ≠ a then 1 else 0) = cnt f L := by
  have h1 := rem_two f L a b
  have w1 : ∀ i, i < L → Wd (clrN f a i) := fun i hi => clrN_wd _ _ _ (hw i hi)
  have hle : remLen (clrN f a) (remLen f L a) b ≤ L := Nat.le_trans (remLen_le _ _ _) (remLen_le _ _ _)
  have eT : cnt (clrN (clrN f a) b) (remLen (clrN f a) (remLen f L a) b) = cnt (clrN (clrN f a) b) L := by
    by_cases c : inR L a ∨ inR L b
    · rw [h1.1 c]
      exact (cnt_tail _ _ L (trim_le _ _) fun i a b => trim_zero _ _ i a b).symm
    · rw [h1.2 (fun h => c (.inl h)) (fun h => c (.inr h))]
  have c1 := cnt_clrN f a L hw
  have c2 := cnt_clrN (clrN f a) b L w1
  rw [bitN_clrN f L a b hw] at c2
  rw [eT]
  by_cases e : b = a
  · subst e
    simp at c2 ⊢
    omega
  · simp [e] at c2 ⊢
    omega
end Go.Proofs.Qxb6618015a.Num
