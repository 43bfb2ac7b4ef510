import Derived.Test.Qxb6618654aHexBlind
namespace Go.Proofs.Qxb6618654a.Hex
open Go.RowKit
set_option linter.unusedVariables false

theorem bytes3_yes (a : Option Addr) (len cap : Nat) (c : Int) (w : World) (hl : len ≤ 1048576) :
    Calls Try.prog 5 #[.slice a len cap, .int .i64 c] w fun e w' => e = .returned (.bool true) ∧ w' = w := by
  go_enter Try.func5, Try.ntmps5
  go_wp2
  go_ret
  exact ⟨rfl, rfl⟩
theorem bytes3_no (a : Option Addr) (len cap : Nat) (c : Int) (w : World) (hl : 1048576 < len) :
    Calls Try.prog 5 #[.slice a len cap, .int .i64 c] w fun e w' => e = .returned (.bool false) ∧ w' = w := by
  have hl' : (1048576 : Int) < (len : Int) := by omega
  go_enter Try.func5, Try.ntmps5
  go_wp2
  go_ret
  exact ⟨rfl, rfl⟩

/-! ### The plain law: the left part padded with '0', the right part padded with '0' -/
def lf (f : Nat → Int) (c : Nat) (i : Nat) : Int := if i < 4 - c then 48 else f (i - (4 - c))
def rf (f : Nat → Int) (c : Nat) (i : Nat) : Int := if i < c then 48 else f i
theorem lf_by (f : Nat → Int) (c i : Nat) (hc : c ≤ 4) (hi : i < 4) (h : ∀ i, i < 4 → By (f i)) : By (lf f c i) := by
  unfold lf
  split
  · exact ⟨by decide, by decide⟩
  · exact h _ (by omega)
theorem rf_by (f : Nat → Int) (c i : Nat) (hi : i < 4) (h : ∀ i, i < 4 → By (f i)) : By (rf f c i) := by
  unfold rf
  split
  · exact ⟨by decide, by decide⟩
  · exact h _ hi
theorem hv48 : hv 48 = 0 := by decide
theorem wrap_cl (d : Int) (m : Int) (h0 : -4096 ≤ d) (h1 : d ≤ 65535) (m0 : 1 ≤ m) (hm : d * m < 2147483648 ∧ -2147483648 ≤ d * m) : wrap32 (d * m) = d * m := by
  unfold wrap32; omega
theorem split_val (f : Nat → Int) (c : Nat) (hc : c ≤ 4) : bits .or .i32 (wrap32 (four (lf f c) * 2 ^ (4 * (4 - c)))) (four (rf f c)) = four f := by
  have h0 := hv_dg (f 0)
  have h1 := hv_dg (f 1)
  have h2 := hv_dg (f 2)
  have h3 := hv_dg (f 3)
  have z : Dg 0 := ⟨by decide, by decide⟩
  have e : c = 0 ∨ c = 1 ∨ c = 2 ∨ c = 3 ∨ c = 4 := by omega
  rcases e with rfl | rfl | rfl | rfl | rfl
  · have el : four (lf f 0) = cl4 0 0 0 0 := by simp [four, lf, hv48]
    have er : four (rf f 0) = four f := by simp [four, rf]
    rw [el, er, show ((2 : Int) ^ (4 * (4 - 0))) = 65536 from by decide]
    have hw : wrap32 (cl4 0 0 0 0 * 65536) = cl4 0 0 0 0 * 65536 := by rw [show cl4 0 0 0 0 = 0 from rfl]; unfold wrap32; omega
    rw [hw]
    exact cut0 _ _ _ _ h0 h1 h2 h3
  · have el : four (lf f 1) = cl4 0 0 0 (hv (f 0)) := by simp [four, lf, hv48]
    have er : four (rf f 1) = cl4 0 (hv (f 1)) (hv (f 2)) (hv (f 3)) := by simp [four, rf, hv48]
    rw [el, er, show ((2 : Int) ^ (4 * (4 - 1))) = 4096 from by decide]
    have r : cl4 0 0 0 (hv (f 0)) = hv (f 0) := by have := h0.1; have := h0.2; unfold cl4; (repeat' split) <;> omega
    have hw : wrap32 (cl4 0 0 0 (hv (f 0)) * 4096) = cl4 0 0 0 (hv (f 0)) * 4096 := by rw [r]; have := h0.1; have := h0.2; unfold wrap32; omega
    rw [hw]
    exact cut1 _ _ _ _ h0 h1 h2 h3
  · have el : four (lf f 2) = cl4 0 0 (hv (f 0)) (hv (f 1)) := by simp [four, lf, hv48]
    have er : four (rf f 2) = cl4 0 0 (hv (f 2)) (hv (f 3)) := by simp [four, rf, hv48]
    rw [el, er, show ((2 : Int) ^ (4 * (4 - 2))) = 256 from by decide]
    have r := cl4_range 0 0 (hv (f 0)) (hv (f 1)) z z h0 h1
    have hw : wrap32 (cl4 0 0 (hv (f 0)) (hv (f 1)) * 256) = cl4 0 0 (hv (f 0)) (hv (f 1)) * 256 := by unfold wrap32; omega
    rw [hw]
    exact cut2 _ _ _ _ h0 h1 h2 h3
  · have el : four (lf f 3) = cl4 0 (hv (f 0)) (hv (f 1)) (hv (f 2)) := by simp [four, lf, hv48]
    have er : four (rf f 3) = cl4 0 0 0 (hv (f 3)) := by simp [four, rf, hv48]
    rw [el, er, show ((2 : Int) ^ (4 * (4 - 3))) = 16 from by decide]
    have r := cl4_range 0 (hv (f 0)) (hv (f 1)) (hv (f 2)) z h0 h1 h2
    have hw : wrap32 (cl4 0 (hv (f 0)) (hv (f 1)) (hv (f 2)) * 16) = cl4 0 (hv (f 0)) (hv (f 1)) (hv (f 2)) * 16 := by unfold wrap32; omega
    rw [hw]
    exact cut3 _ _ _ _ h0 h1 h2 h3
  · have el : four (lf f 4) = four f := by simp [four, lf]
    have er : four (rf f 4) = cl4 0 0 0 0 := by simp [four, rf, hv48]
    rw [el, er, show ((2 : Int) ^ (4 * (4 - 4))) = 1 from by decide]
    have r := cl4_range _ _ _ _ h0 h1 h2 h3
    have hw : wrap32 (four f * 1) = four f * 1 := by unfold wrap32 four; omega
    rw [hw]
    exact cut4 _ _ _ _ h0 h1 h2 h3

/-! ### The two rows that the law fills -/
def glf (f : Nat → Int) (c k j : Nat) : Int := if j < 4 - c then 48 else if j < 4 - c + k then f (j - (4 - c)) else 48
def grf (f : Nat → Int) (c k j : Nat) : Int := if j < c then 48 else if j < k then f j else 48
theorem glf_zero (f : Nat → Int) (c j : Nat) : glf f c 0 j = 48 := by
  unfold glf
  split
  · rfl
  · rw [if_neg (by omega)]
theorem glf_end (f : Nat → Int) (c j : Nat) (hc : c ≤ 4) (hj : j < 4) : glf f c c j = lf f c j := by
  unfold glf lf
  split
  · rfl
  · rw [if_pos (by omega)]
theorem grf_zero (f : Nat → Int) (c j : Nat) : grf f c c j = 48 := by
  unfold grf
  split
  · rfl
  · rfl
theorem grf_end (f : Nat → Int) (c j : Nat) (hj : j < 4) : grf f c 4 j = rf f c j := by
  unfold grf rf
  by_cases e : j < c
  · rw [if_pos e, if_pos e]
  · rw [if_neg e, if_neg e, if_pos hj]
/-- Where the walk stands: nothing old has turned; the copy holds f; the two new rows hold gl and gr. -/
structure Stage (w0 wr : World) (f gl gr : Nat → Int) : Prop where
  below : Below w0.heap.size w0 wr
  row : Row4 wr w0.heap.size f
  left : wr.rowIs (w0.heap.size + 1) 5 4 (fun j => .int .u8 (gl j))
  right : wr.rowIs (w0.heap.size + 2) 5 4 (fun j => .int .u8 (gr j))
def upd (g : Nat → Int) (k : Nat) (v : Int) (j : Nat) : Int := if j = k then v else g j
theorem glf_step (f : Nat → Int) (c k j : Nat) : upd (glf f c k) (4 - c + k) (f k) j = glf f c (k + 1) j := by
  unfold upd glf
  by_cases e : j = 4 - c + k
  · subst e
    rw [if_pos rfl, if_neg (by omega), if_pos (by omega)]
    congr 1; omega
  · rw [if_neg e]
    by_cases e1 : j < 4 - c
    · rw [if_pos e1, if_pos e1]
    · rw [if_neg e1, if_neg e1]
      by_cases e2 : j < 4 - c + k
      · rw [if_pos e2, if_pos (by omega)]
      · rw [if_neg e2, if_neg (by omega)]
theorem grf_step (f : Nat → Int) (c k j : Nat) (h : c ≤ k) : upd (grf f c k) k (f k) j = grf f c (k + 1) j := by
  unfold upd grf
  by_cases e : j = k
  · subst e
    rw [if_pos rfl, if_neg (by omega), if_pos (by omega)]
  · rw [if_neg e]
    by_cases e1 : j < c
    · rw [if_pos e1, if_pos e1]
    · rw [if_neg e1, if_neg e1]
      by_cases e2 : j < k
      · rw [if_pos e2, if_pos (by omega)]
      · rw [if_neg e2, if_neg (by omega)]
theorem zf_step (k j : Nat) : upd (fun j => if j < k then 48 else 0) k 48 j = if j < k + 1 then 48 else 0 := by
  unfold upd
  by_cases e : j = k
  · subst e; simp
  · have e1 : (j < k + 1) ↔ j < k := by omega
    simp [e, e1]
theorem Stage.setL {w0 wr : World} {f gl gr : Nat → Int} (h : Stage w0 wr f gl gr) (k : Nat) (v : Int) : Stage w0 (wr.setCell ⟨w0.heap.size + 1, k, none⟩ (.int .u8 v)) f (upd gl k v) gr := by
  refine ⟨h.below.setCell (by show w0.heap.size ≤ w0.heap.size + 1; omega) _, fun i hi => ⟨?_, (h.row i hi).2⟩, (h.left.set k _).congr fun i hi => ?_, h.right.setOther (by show w0.heap.size + 2 ≠ w0.heap.size + 1; omega) _⟩
  · rw [World.cell?_of_block (w := wr) (Below.heap_setCell _ _ _ _ (by show w0.heap.size ≠ w0.heap.size + 1; omega))]
    exact (h.row i hi).1
  · unfold upd
    split <;> rfl
theorem Stage.setR {w0 wr : World} {f gl gr : Nat → Int} (h : Stage w0 wr f gl gr) (k : Nat) (v : Int) : Stage w0 (wr.setCell ⟨w0.heap.size + 2, k, none⟩ (.int .u8 v)) f gl (upd gr k v) := by
  refine ⟨h.below.setCell (by show w0.heap.size ≤ w0.heap.size + 2; omega) _, fun i hi => ⟨?_, (h.row i hi).2⟩, h.left.setOther (by show w0.heap.size + 1 ≠ w0.heap.size + 2; omega) _, (h.right.set k _).congr fun i hi => ?_⟩
  · rw [World.cell?_of_block (w := wr) (Below.heap_setCell _ _ _ _ (by show w0.heap.size ≠ w0.heap.size + 2; omega))]
    exact (h.row i hi).1
  · unfold upd
    split <;> rfl
theorem Stage.congr {w0 wr : World} {f gl gr gl' gr' : Nat → Int} (h : Stage w0 wr f gl gr) (el : ∀ i, i < 4 → gl i = gl' i) (er : ∀ i, i < 4 → gr i = gr' i) : Stage w0 wr f gl' gr' :=
  ⟨h.below, h.row, h.left.congr fun i hi => by rw [el i hi], h.right.congr fun i hi => by rw [er i hi]⟩
theorem Stage.start {w0 W : World} {f : Nat → Int} (hb : Below w0.heap.size w0 W) (hs : W.heap.size = w0.heap.size + 1) (hr : Row4 W w0.heap.size f) : Stage w0 ((W.alloc (.cells zero4 5)).alloc (.cells zero4 5)) f (fun _ => 0) (fun _ => 0) := by
  have hs2 : (W.alloc (.cells zero4 5)).heap.size = w0.heap.size + 2 := by rw [Go.Deep.nblk_alloc, hs]
  refine ⟨(hb.alloc (by omega) _).alloc (by omega) _, fun i hi => ⟨?_, (hr i hi).2⟩, ?_, ?_⟩
  · have c := (hr i hi).1
    have l := World.block_lt_of_cell? _ _ c
    rw [World.cell?_alloc_lt _ _ _ (by show w0.heap.size < _; omega), World.cell?_alloc_lt _ _ _ l]
    exact c
  · have m := made4 W
    rw [hs] at m
    exact m.alloc _
  · have m := made4 (W.alloc (.cells zero4 5))
    rw [hs2] at m
    exact m

set_option maxHeartbeats 2000000 in
theorem split_core (x : Addr) (len cap c : Nat) (f : Nat → Int) (w : World) (h4 : 4 ≤ len) (hl : len ≤ 1048576) (hc4 : c ≤ 4)
    (hc : ∀ i, i < len → w.cell? (x.add i) = some (.int .u8 (f i))) (hb : ∀ i, i < len → By (f i)) :
    Calls Try.prog 3 #[.slice (some x) len cap, .int .i64 c] w fun e w' => e = .returned (.bool true) ∧ Below w.heap.size w w' := by
  obtain ⟨W1, hcp, hbel, hsz, hrow⟩ := copy_run 3 x len cap f w hc
  have CB := hide (bytes3_yes (some x) len cap c w hl)
  have BEL := hide hbel
  have SZ := hide hsz
  have R1 := hide (row4_of hrow h4 (fun i hi => hb i (by omega)))
  have HB : Hid (∀ i, i < 4 → By (f i)) := fun i hi => hb i (by omega)
  clear hbel hsz hrow hb hc
  have hmk := run_make_row' (P := Try.prog) 22 5 (.int .u8 0) 1 Try.underlying22 info5 rfl .i64 .i64 len (by omega) (by omega)
  have hnn := fun (w : World) (a : Option Addr) (n c n' c' : Nat) => run_neq_slice_nil_any (P := Try.prog) w 22 5 a n c n' c' Try.underlying22
  go_enter Try.func3, Try.ntmps3
  go_wp2_with fail
  refine (unhide CB).mono ?_
  rintro e w0 ⟨rfl, rfl⟩
  go_wp2_with fail
  clear hmk hnn hcp CB
  refine (zz_any w0.heap.size len len f h4 _ (unhide R1)).mono ?_
  rintro e w' ⟨rfl, q1, rfl⟩
  have R2 := hide (row4_drawn (unhide R1) q1)
  have BEL2 := hide (below_drawn (unhide BEL) q1)
  have SZ2 : Hid ((W1.drewN q1).heap.size = w0.heap.size + 1) := unhide SZ
  clear R1 BEL SZ
  generalize W1.drewN q1 = W2 at *
  have hmk4 := make4
  have ST := hide (Stage.start (unhide BEL2) (unhide SZ2) (unhide R2))
  have SZ3 := unhide SZ2
  go_wp2_with fail
  clear hmk4 SZ2 BEL2 R2
  have E1 : Hid (w0.heap.size + 1 + 1 = w0.heap.size + 2) := rfl
  have CW := hide (fun (w : World) (h : Row4 w w0.heap.size f) => model_any w0.heap.size len len f h4 w h)
  have CL := hide (fun (w : World) (h : Row4 w (w0.heap.size + 1) (lf f c)) => zz_any (w0.heap.size + 1) 4 4 (lf f c) (by decide) w h)
  have CR := hide (fun (w : World) (h : Row4 w (w0.heap.size + 2) (rf f c)) => zz_any (w0.heap.size + 2) 4 4 (rf f c) (by decide) w h)
  have SV := hide (split_val f c hc4)
  generalize four f = V at *
  generalize four (lf f c) = VL at *
  generalize four (rf f c) = VR at *
  go_loopw [9] (fun i wr => ∃ k : Nat, k ≤ 4 ∧ i = .int .i64 k ∧ Stage w0 wr f (fun j => if j < k then 48 else 0) (fun j => if j < k then 48 else 0)) (fun i _ => 4 - (intOf i).toNat)
  case atStart => exact ⟨0, Nat.zero_le _, rfl, (unhide ST).congr (fun i _ => by simp) (fun i _ => by simp)⟩
  case round =>
    clear ST
    obtain ⟨k, hk, rfl, st⟩ := hrel
    have ST := hide st
    clear st
    by_cases d : k < 4
    · have c1 := (unhide ST).left.cell d
      have c2 := (unhide ST).left.frozen k
      have S1 := hide ((unhide ST).setL k 48)
      have c3 := (unhide S1).right.cell d
      have c4 := (unhide S1).right.frozen k
      have S2 := hide ((unhide S1).setR k 48)
      go_wp2_with fail
      go_roundw
      case rel =>
        exact ⟨k + 1, by omega, by go_num, (unhide S2).congr (fun i hi => zf_step k i) (fun i hi => zf_step k i)⟩
      case measure => simp [intOf]; omega
    · have e : k = 4 := by omega
      subst e
      have ST2 := hide ((unhide ST).congr (gl' := glf f c 0) (gr' := fun _ => 48) (fun i hi => by rw [glf_zero, if_pos hi]) (fun i hi => by rw [if_pos hi]))
      clear ST
      go_wp2_with fail
      go_loopw [10] (fun i wr => ∃ k : Nat, k ≤ c ∧ i = .int .i64 k ∧ Stage w0 wr f (glf f c k) (fun _ => 48)) (fun i _ => c - (intOf i).toNat)
      case atStart => exact ⟨0, Nat.zero_le _, rfl, unhide ST2⟩
      case round =>
        clear ST2
        obtain ⟨k, hk, rfl, st⟩ := hrel
        have ST := hide st
        clear st
        by_cases d : k < c
        · have kl : (k : Int) < (len : Int) := by omega
          have c1 := ((unhide ST).row k (by omega)).1
          have c2 := (unhide ST).left.cell (show 4 - c + k < 4 by omega)
          have c3 := (unhide ST).left.frozen (4 - c + k)
          have S1 := hide ((unhide ST).setL (4 - c + k) (f k))
          have hix : (4 - (c : Int) + (k : Int)).toNat = 4 - c + k := by omega
          have d' : (k : Int) < (c : Int) := by omega
          go_wp2_with fail
          go_roundw
          case rel => exact ⟨k + 1, by omega, by go_num, (unhide S1).congr (fun i hi => glf_step f c k i) (fun i hi => rfl)⟩
          case measure => simp [intOf]; omega
        · have e : k = c := by omega
          subst e
          have ST2 := hide ((unhide ST).congr (gl' := lf f k) (gr' := grf f k k) (fun i hi => glf_end f k i hc4 hi) (fun i hi => (grf_zero f k i).symm))
          clear ST
          go_wp2_with fail
          go_loopw [11] (fun i wr => ∃ m : Nat, k ≤ m ∧ m ≤ 4 ∧ i = .int .i64 m ∧ Stage w0 wr f (lf f k) (grf f k m)) (fun i _ => 4 - (intOf i).toNat)
          case atStart => exact ⟨k, Nat.le_refl _, hc4, rfl, unhide ST2⟩
          case round =>
            clear ST2
            obtain ⟨m, hm1, hm, rfl, st⟩ := hrel
            have ST := hide st
            clear st
            by_cases d : m < 4
            · have kl : (m : Int) < (len : Int) := by omega
              have c1 := ((unhide ST).row m d).1
              have c2 := (unhide ST).right.cell d
              have c3 := (unhide ST).right.frozen m
              have S1 := hide ((unhide ST).setR m (f m))
              go_wp2_with fail
              go_roundw
              case rel => exact ⟨m + 1, by omega, by omega, by go_num, (unhide S1).congr (fun i hi => rfl) (fun i hi => grf_step f k m i hm1)⟩
              case measure => simp [intOf]; omega
            · have e : m = 4 := by omega
              subst e
              have ST2 := hide ((unhide ST).congr (gl' := lf f k) (gr' := rf f k) (fun i hi => rfl) (fun i hi => grf_end f k i hi))
              clear ST
              have RL : Hid (Row4 wr (w0.heap.size + 1) (lf f k)) := fun i hi => ⟨(unhide ST2).left.cell hi, lf_by f k i hc4 hi (unhide HB)⟩
              have RR : Hid (Row4 wr (w0.heap.size + 2) (rf f k)) := fun i hi => ⟨(unhide ST2).right.cell hi, rf_by f k i hi (unhide HB)⟩
              have RB : Hid (Row4 wr w0.heap.size f) := (unhide ST2).row
              have BE : Hid (Below w0.heap.size w0 wr) := (unhide ST2).below
              have t : (V == bits .or .i32 (wrap32 (VL * 2 ^ (4 * (4 - k)))) VR) = true := by rw [unhide SV]; simp
              clear ST2 SV
              go_wp2_with fail
              refine (unhide CL _ (unhide RL)).mono ?_
              rintro e w' ⟨rfl, q3, rfl⟩
              have RR' := hide (row4_drawn (unhide RR) q3)
              have RB' := hide (row4_drawn (unhide RB) q3)
              have BE' := hide (below_drawn (unhide BE) q3)
              clear RR RB BE RL
              generalize wr.drewN q3 = W4 at *
              go_wp2_with fail
              refine (unhide CR _ (unhide RR')).mono ?_
              rintro e w' ⟨rfl, q4, rfl⟩
              have RB2 := hide (row4_drawn (unhide RB') q4)
              have BE2 := hide (below_drawn (unhide BE') q4)
              clear RB' BE' RR'
              generalize W4.drewN q4 = W5 at *
              go_wp2_with fail
              refine (unhide CW _ (unhide RB2)).mono ?_
              rintro e w' ⟨rfl, rfl⟩
              go_wp2_with fail
              go_ret
              exact ⟨rfl, unhide BE2⟩

/-- Outside the law's own guards it answers at once. -/
theorem split_big (a : Option Addr) (len cap : Nat) (c : Int) (w : World) (hl : 1048576 < len) :
    Calls Try.prog 3 #[.slice a len cap, .int .i64 c] w fun e w' => e = .returned (.bool true) ∧ Below w.heap.size w w' := by
  go_enter Try.func3, Try.ntmps3
  go_wp2_with fail
  refine (bytes3_no a len cap c w hl).mono ?_
  rintro e w' ⟨rfl, rfl⟩
  go_wp2_with fail
  go_ret
  exact ⟨rfl, Below.refl _ _⟩
theorem split_short (a : Option Addr) (len cap : Nat) (c : Int) (w : World) (hl : len < 4) :
    Calls Try.prog 3 #[.slice a len cap, .int .i64 c] w fun e w' => e = .returned (.bool true) ∧ Below w.heap.size w w' := by
  have hl' : (len : Int) < 4 := by omega
  go_enter Try.func3, Try.ntmps3
  go_wp2_with fail
  refine (bytes3_yes a len cap c w (by omega)).mono ?_
  rintro e w' ⟨rfl, rfl⟩
  go_wp2_with fail
  go_ret
  exact ⟨rfl, Below.refl _ _⟩
theorem split_out (a : Option Addr) (len cap : Nat) (c : Int) (w : World) (h4 : 4 ≤ len) (hl : len ≤ 1048576) (hc : c < 0 ∨ 4 < c) :
    Calls Try.prog 3 #[.slice a len cap, .int .i64 c] w fun e w' => e = .returned (.bool true) ∧ Below w.heap.size w w' := by
  by_cases d : c < 0
  · clear hc
    go_enter Try.func3, Try.ntmps3
    go_wp2_with fail
    refine (bytes3_yes a len cap c w hl).mono ?_
    rintro e w' ⟨rfl, rfl⟩
    go_wp2_with fail
    go_ret
    exact ⟨rfl, Below.refl _ _⟩
  · have d' : 4 < c := by omega
    clear hc
    go_enter Try.func3, Try.ntmps3
    go_wp2_with fail
    refine (bytes3_yes a len cap c w hl).mono ?_
    rintro e w' ⟨rfl, rfl⟩
    go_wp2_with fail
    go_ret
    exact ⟨rfl, Below.refl _ _⟩
end Go.Proofs.Qxb6618654a.Hex
