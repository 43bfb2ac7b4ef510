import Derived.Test.Qxb6618015aNumClone
namespace Go.Proofs.Qxb6618015a.Num
open Go.RowKit
set_option linter.unusedVariables false

/-! ### Remove -/
set_option maxHeartbeats 800000 in
theorem rem_core (pb b len cap j : Nat) (n x y : Int) (g : Nat → Int) (w : World) (hl : len ≤ 131072) (hj : (n / 64).toNat = j) (k0 : 0 ≤ n) (k1 : n / 64 < (len : Int)) (hn : n ≤ 8388607) (hcap : len ≤ cap) (hc63 : cap ≤ 9223372036854775807)
    (ha : bits .and .i64 n 63 = n % 64) (hd : IntKind.u64.wrap n = n)
    (hy : bits .andNot .u64 x (IntKind.u64.wrap (2 ^ (n % 64).toNat)) = y)
    (hp : w.cell? ⟨pb, 0, none⟩ = some (.slice (some ⟨b, 0, none⟩) len cap)) (hne : b ≠ pb)
    (c0 : w.cell? ⟨b, j, none⟩ = some (.int .u64 x)) (f0 : w.frozen? ⟨b, j, none⟩ = false)
    (fp : w.frozen? ⟨pb, 0, none⟩ = false)
    (hR : ∀ i, i < len → (w.setCell ⟨b, j, none⟩ (.int .u64 y)).cell? ⟨b, i, none⟩ = some (.int .u64 (g i)))
    (hP : (w.setCell ⟨b, j, none⟩ (.int .u64 y)).cell? ⟨pb, 0, none⟩ = some (.slice (some ⟨b, 0, none⟩) len cap)) :
    Calls Try.prog 13 #[.pointer (some ⟨pb, 0, none⟩), .int .i64 n] w fun e w' => e = .returned (.tuple #[]) ∧
      ((w' = (w.setCell ⟨b, j, none⟩ (.int .u64 y)).drew ∧ g (len - 1) ≠ 0) ∨
       ∃ m : Nat, w' = ((w.setCell ⟨b, j, none⟩ (.int .u64 y)).setCell ⟨pb, 0, none⟩ (.slice (some ⟨b, 0, none⟩) m cap)).drew ∧ m < len ∧ (∀ i, m ≤ i → i < len → g i = 0) ∧ (0 < m → g (m - 1) ≠ 0)) := by
  have hlast := hR (len - 1) (by omega)
  have hlen : 0 < len := by omega
  have HR : Hid (∀ i, i < len → (w.setCell ⟨b, j, none⟩ (.int .u64 y)).cell? ⟨b, i, none⟩ = some (.int .u64 (g i))) := hR
  clear hR
  by_cases z : g (len - 1) = 0
  · have z' : (g (len - 1) != 0) = false := by simpa using z
    have HZ : Hid (g (len - 1) = 0) := z
    clear z
    go_enter Try.func13, Try.ntmps13
    go_wp2
    go_region
    go_wp2
    go_loop [5] (fun v => ∃ m : Nat, m < len ∧ v = .int .i64 m ∧ ∀ i, m ≤ i → i < len → g i = 0) (fun v => (intOf v).toNat)
    case atStart => 
      refine ⟨len - 1, by omega, by go_num, fun i h1 h2 => ?_⟩
      rw [show i = len - 1 by omega]; exact HZ.out
    case round =>
      obtain ⟨m, hm, rfl, hzz⟩ := hrel
      have HM : Hid (∀ i, m ≤ i → i < len → g i = 0) := hzz
      clear hzz hlast z'
      by_cases m0 : 0 < m
      · have hcell := HR.out (m - 1) (by omega)
        by_cases q : g (m - 1) = 0
        · have q' : (g (m - 1) == 0) = true := by simpa using q
          have HQ : Hid (g (m - 1) = 0) := q
          clear q
          go_wp2
          go_round
          case rel => 
            refine ⟨m - 1, by omega, by go_num, fun i h1 h2 => ?_⟩
            by_cases e : i = m - 1
            · rw [e]; exact HQ.out
            · exact HM.out i (by omega) h2
          case measure => simp [intOf]; omega
        · have q' : (g (m - 1) == 0) = false := by simpa using q
          have HQ : Hid (¬ g (m - 1) = 0) := q
          clear q
          go_wp2
          go_end0
          exact ⟨rfl, .inr ⟨m, rfl, hm, HM.out, fun _ => HQ.out⟩⟩
      · go_wp2
        go_end0
        exact ⟨rfl, .inr ⟨m, rfl, hm, HM.out, fun h => absurd h m0⟩⟩
  · have z' : (g (len - 1) != 0) = true := by simpa using z
    have HZ : Hid (g (len - 1) ≠ 0) := z
    clear z
    go_enter Try.func13, Try.ntmps13
    go_wp2
    go_region
    go_wp2
    exact bodyPost_ret (v := .tuple #[]) (by simp [results, Try.results13, go_sem]) rfl ⟨rfl, .inl ⟨rfl, HZ.out⟩⟩

theorem rem_out (pb len cap : Nat) (a : Option Addr) (n : Int) (w : World) (hl : len ≤ 131072) (h : (len : Int) ≤ IntKind.u64.wrap n / 64)
    (hp : w.cell? ⟨pb, 0, none⟩ = some (.slice a len cap)) :
    Calls Try.prog 13 #[.pointer (some ⟨pb, 0, none⟩), .int .i64 n] w fun e w' => e = .returned (.tuple #[]) ∧ w' = w := by
  go_enter Try.func13, Try.ntmps13
  go_wp2
  exact bodyPost_ret (v := .tuple #[]) (by simp [results, Try.results13, go_sem]) rfl ⟨rfl, rfl⟩

/-- All blocks but two are as they were. -/
structure Keeps (p q : Nat) (w w' : World) : Prop where
  os : w'.os = w.os
  tape : w'.tape = w.tape
  output : w'.output = w.output
  size : w'.heap.size = w.heap.size
  block : ∀ k, k ≠ p → k ≠ q → w'.heap[k]? = w.heap[k]?

theorem Keeps.refl (p q : Nat) (w : World) : Keeps p q w w := ⟨rfl, rfl, rfl, rfl, fun _ _ _ => rfl⟩
theorem Keeps.set1 (p q o : Nat) (w : World) (v : Value) : Keeps p q w (w.setCell ⟨p, o, none⟩ v).drew :=
  ⟨rfl, rfl, rfl, by show (w.setCell _ _).heap.size = _; simp [World.setCell], fun k h1 h2 => Below.heap_setCell _ _ _ _ h1⟩
theorem Keeps.set2 (p q o : Nat) (w : World) (v u : Value) : Keeps p q w ((w.setCell ⟨q, o, none⟩ v).setCell ⟨p, 0, none⟩ u).drew :=
  ⟨rfl, rfl, rfl, by show ((w.setCell _ _).setCell _ _).heap.size = _; simp [World.setCell], fun k h1 h2 => (Below.heap_setCell _ _ _ _ h1).trans (Below.heap_setCell _ _ _ _ h2)⟩
theorem Keeps.below {p q N : Nat} {w w' : World} (h : Keeps p q w w') (hp : N ≤ p) (hq : N ≤ q) : Below N w w' :=
  ⟨h.os, h.tape, h.output, by rw [h.size]; exact Nat.le_refl _, fun k hk => h.block k (by omega) (by omega)⟩

/-- The pointer's block pb holds a set of len words g, whose row begins at the head of block bb if there is a word at all. -/
def SetAt (w : World) (pb bb len : Nat) (g : Nat → Int) : Prop :=
  ∃ a cap, w.cell? ⟨pb, 0, none⟩ = some (.slice a len cap) ∧ w.frozen? ⟨pb, 0, none⟩ = false ∧ len ≤ cap ∧ cap ≤ 131072 ∧ SliceIs w a bb len g ∧ (0 < len → bb ≠ pb) ∧ (a = none → len = 0)

theorem SliceIs.shorter {w : World} {a : Option Addr} {bb len m : Nat} {g : Nat → Int} (h : SliceIs w a bb len g) (hm : m ≤ len) : SliceIs w a bb m g := by
  intro h0
  obtain ⟨e, N, f, hr, hN, hf⟩ := h (by omega)
  exact ⟨e, N, f, hr, by omega, fun i hi => hf i (by omega)⟩

theorem SliceIs.keep {w w' : World} {a : Option Addr} {bb len : Nat} {g : Nat → Int} (h : SliceIs w a bb len g) (e : 0 < len → w'.heap[bb]? = w.heap[bb]?) : SliceIs w' a bb len g := by
  intro h0
  obtain ⟨ea, N, f, hr, hN, hf⟩ := h h0
  exact ⟨ea, N, f, hr.of_block (e h0), hN, hf⟩

theorem wrap_in (n : Int) (h0 : 0 ≤ n) (h1 : n ≤ 8388607) : IntKind.u64.wrap n = n := by rw [IntKind.wrap_u64]; omega
theorem and63 (n : Int) (h0 : 0 ≤ n) (h1 : n ≤ 8388607) : bits .and .i64 n 63 = n % 64 :=
  bits_mask .i64 63 (by decide) (fun n a b => by rw [IntKind.wrap_i64]; omega) 6 (by decide) n h0 (by omega)

set_option maxHeartbeats 400000 in
theorem rem_any (pb bb len : Nat) (g : Nat → Int) (n : Int) (w : World) (hl : len ≤ 131072) (n0 : -9223372036854775808 ≤ n) (n1 : n ≤ 9223372036854775807) (hs : SetAt w pb bb len g) :
    Calls Try.prog 13 #[.pointer (some ⟨pb, 0, none⟩), .int .i64 n] w fun e w' => e = .returned (.tuple #[]) ∧ SetAt w' pb bb (remLen g len n) (clrN g n) ∧ Keeps pb bb w w' := by
  obtain ⟨a, cap, hp, hf, hc, hc', hsl, hne, hnil⟩ := hs
  by_cases c : 0 ≤ n ∧ n / 64 < (len : Int)
  · have h0 : 0 < len := by omega
    obtain ⟨rfl, N, h, hr, hN, hh⟩ := hsl h0
    have hne' := hne h0
    have hj : (n / 64).toNat < len := by omega
    have hy : bits .andNot .u64 (g (n / 64).toNat) (IntKind.u64.wrap (2 ^ (n % 64).toNat)) = clr (g (n / 64).toNat) (n % 64).toNat := rfl
    have hrow := hr.set (n / 64).toNat (.int .u64 (clr (g (n / 64).toNat) (n % 64).toNat))
    have hcont : ∀ i, i < len → (if i = (n / 64).toNat then Value.int .u64 (clr (g (n / 64).toNat) (n % 64).toNat) else h i) = .int .u64 (clrN g n i) := by
      intro i hi
      unfold clrN
      by_cases e : i = (n / 64).toNat
      · rw [if_pos e, if_pos ⟨c.1, e⟩, e]
      · rw [if_neg e, if_neg (fun x => e x.2), hh i hi]
    have hP : (w.setCell ⟨bb, (n / 64).toNat, none⟩ (.int .u64 (clr (g (n / 64).toNat) (n % 64).toNat))).cell? ⟨pb, 0, none⟩ = some (.slice (some ⟨bb, 0, none⟩) len cap) := by
      rw [World.cell?_of_block (w := w) (Below.heap_setCell _ _ _ _ (fun e => hne' e.symm))]
      exact hp
    have fz : ∀ (W : World) (v : Value) (x : Addr), (W.setCell x v).frozen? ⟨pb, 0, none⟩ = W.frozen? ⟨pb, 0, none⟩ := fun W v x => World.frozen?_setCell _ _ _ _
    refine (rem_core pb bb len cap (n / 64).toNat n (g (n / 64).toNat) _ (clrN g n) w hl rfl c.1 c.2 (by omega) hc (by omega) (and63 n c.1 (by omega)) (wrap_in n c.1 (by omega)) hy hp hne'
      (by rw [hr.cell (by omega), hh _ hj]) (hr.frozen _) hf (fun i hi => by rw [hrow.cell (by omega)]; exact congrArg some (hcont i hi)) hP).mono ?_
    rintro e w' ⟨rfl, hw | ⟨m, hw, hm, hz, hlast⟩⟩
    · obtain ⟨rfl, hlast⟩ := hw
      have eL : remLen g len n = len := by
        unfold remLen
        rw [if_pos c]
        exact trim_eq _ _ _ (Nat.le_refl _) (fun i h1 h2 => by omega) (fun _ => hlast)
      rw [eL]
      refine ⟨rfl, ⟨_, cap, hP, ?_, hc, hc', fun _ => ⟨rfl, N, _, hrow, hN, hcont⟩, hne, fun x => by cases x⟩, ?_⟩
      · exact (fz _ _ _).trans hf
      · obtain ⟨k1, k2, k3, k4, k5⟩ := Keeps.set1 bb pb (n / 64).toNat w (.int .u64 (clr (g (n / 64).toNat) (n % 64).toNat))
        exact ⟨k1, k2, k3, k4, fun k a b => k5 k b a⟩
    · subst hw
      have eL : remLen g len n = m := by
        unfold remLen
        rw [if_pos c]
        exact trim_eq _ _ _ (by omega) hz hlast
      rw [eL]
      have hrow2 := hrow.setOther (a := ⟨pb, 0, none⟩) hne' (.slice (some ⟨bb, 0, none⟩) m cap)
      refine ⟨rfl, ⟨some ⟨bb, 0, none⟩, cap, ?_, ?_, by omega, hc', fun _ => ⟨rfl, N, _, hrow2, by omega, fun i hi => hcont i (by omega)⟩, fun _ => hne', fun x => by cases x⟩, Keeps.set2 pb bb _ w _ _⟩
      · exact World.cell?_setCell_same' _ _ _ (by rw [hP]; rfl)
      · exact (fz _ _ _).trans ((fz _ _ _).trans hf)
  · have eL : remLen g len n = len := by unfold remLen; rw [if_neg c]
    have hb : (len : Int) ≤ IntKind.u64.wrap n / 64 := by rw [IntKind.wrap_u64]; omega
    refine (rem_out pb len cap a n w hl hb hp).mono ?_
    rintro e w' ⟨rfl, rfl⟩
    rw [eL]
    refine ⟨rfl, ⟨a, cap, hp, hf, hc, hc', ?_, hne, hnil⟩, Keeps.refl _ _ _⟩
    intro h0
    obtain ⟨e, N, h, hr, hN, hh⟩ := hsl h0
    refine ⟨e, N, h, hr, hN, fun i hi => ?_⟩
    rw [hh i hi]
    unfold clrN
    rw [if_neg (by omega)]
theorem clone_any (a : Option Addr) (len cap : Nat) (g : Nat → Int) (w : World) (hl : len ≤ 131072) (hz : a = none → len = 0)
    (hc : ∀ i, i < len → ∃ b off, a = some ⟨b, off, none⟩ ∧ w.cell? ⟨b, off + i, none⟩ = some (.int .u64 (g i))) :
    Calls Try.prog 12 #[.slice a len cap] w fun e w' => ∃ a', e = .returned (.slice a' len len) ∧ Below w.heap.size w w' ∧ SliceIs w' a' w.heap.size len g ∧ (0 < len → w.heap.size < w'.heap.size) ∧ (a' = none → len = 0) := by
  match a, hz, hc with
  | none, hz, hc =>
    have e : len = 0 := hz rfl
    subst e
    refine (clone_nil cap w).mono ?_
    rintro e w' ⟨rfl, rfl⟩
    exact ⟨none, rfl, Below.refl _ _, fun h => absurd h (by omega), fun h => absurd h (by omega), fun _ => rfl⟩
  | some a, _, hc =>
    refine (clone_some a len cap g w hl (fun i hi => ?_)).mono ?_
    · obtain ⟨b, off, e, h⟩ := hc i hi
      exact ⟨b, off, by simpa using e, h⟩
    · rintro e w' ⟨rfl, hs, hr⟩
      exact ⟨_, rfl, ⟨hs.os, hs.tape, hs.output, hs.size, hs.block⟩, fun _ => ⟨rfl, len, _, hr, Nat.le_refl _, fun i _ => rfl⟩, fun _ => hr.lt, fun x => by cases x⟩


/-- The same, of a slice that is known by 'SliceIs'. -/
theorem clone_of (a : Option Addr) (bb len cap : Nat) (g : Nat → Int) (w : World) (hl : len ≤ 131072) (hz : a = none → len = 0) (hs : SliceIs w a bb len g) :
    Calls Try.prog 12 #[.slice a len cap] w fun e w' => ∃ a', e = .returned (.slice a' len len) ∧ Below w.heap.size w w' ∧ SliceIs w' a' w.heap.size len g ∧ (0 < len → w.heap.size < w'.heap.size) ∧ (a' = none → len = 0) := by
  refine clone_any a len cap g w hl hz fun i hi => ?_
  obtain ⟨e, _⟩ := hs (by omega)
  exact ⟨bb, 0, e, by rw [Nat.zero_add]; exact hs.cell hi⟩

/-- A slice in a variable of its own. -/
theorem box_set (w : World) (a : Option Addr) (bb len : Nat) (g : Nat → Int) (hl : len ≤ 131072) (hz : a = none → len = 0) (hb : 0 < len → bb < w.heap.size) (hs : SliceIs w a bb len g) :
    SetAt (w.alloc (.cells #[.slice a len len] 30)) w.heap.size bb len g := by
  refine ⟨a, len, ?_, ?_, Nat.le_refl _, hl, ?_, fun h => by have := hb h; omega, hz⟩
  · simp [go_sem]
  · exact (frozen?_alloc_cells _ _ _ _).trans (by simp [World.frozen?])
  · intro h0
    obtain ⟨e, N, f, hr, hN, hf⟩ := hs h0
    exact ⟨e, N, f, hr.alloc _, hN, hf⟩
theorem SliceIs.below {w w' : World} {N : Nat} {a : Option Addr} {bb len : Nat} {g : Nat → Int} (h : SliceIs w a bb len g) (hb : Below N w w') (hn : 0 < len → bb < N) : SliceIs w' a bb len g :=
  h.keep fun h0 => hb.block bb (hn h0)
theorem SliceIs.keeps {w w' : World} {p q : Nat} {a : Option Addr} {bb len : Nat} {g : Nat → Int} (h : SliceIs w a bb len g) (hk : Keeps p q w w') (h1 : 0 < len → bb ≠ p) (h2 : 0 < len → bb ≠ q) : SliceIs w' a bb len g :=
  h.keep fun h0 => hk.block bb (h1 h0) (h2 h0)
theorem SliceIs.alloc {w : World} {a : Option Addr} {bb len : Nat} {g : Nat → Int} (h : SliceIs w a bb len g) (o : Obj) : SliceIs (w.alloc o) a bb len g := by
  intro h0
  obtain ⟨e, N, f, hr, hN, hf⟩ := h h0
  exact ⟨e, N, f, hr.alloc _, hN, hf⟩
theorem SliceIs.drewN {w : World} {a : Option Addr} {bb len : Nat} {g : Nat → Int} (h : SliceIs w a bb len g) (q : Nat) : SliceIs (w.drewN q) a bb len g := h
end Go.Proofs.Qxb6618015a.Num
