import Derived.Test.Qxb6618654aHexCopy
namespace Go.Proofs.Qxb6618654a.Hex
open Go.RowKit
set_option linter.unusedVariables false

theorem row4_of {w : World} {b N : Nat} {f : Nat → Int} (h : w.rowIs b 5 N (fun i => .int .u8 (f i))) (hN : 4 ≤ N) (hb : ∀ i, i < 4 → By (f i)) : Row4 w b f :=
  fun i hi => ⟨h.cell (by omega), hb i hi⟩
theorem row4_drawn {w : World} {b : Nat} {f : Nat → Int} (h : Row4 w b f) (q : Nat) : Row4 (w.drewN q) b f := h
theorem below_drawn {N : Nat} {w w' : World} (h : Below N w w') (q : Nat) : Below N w (w'.drewN q) := ⟨h.os, h.tape, h.output, h.size, h.block⟩
theorem four_swp (f : Nat → Int) : four (fun i => swp (f i)) = four f := by
  unfold four
  rw [hv_swp, hv_swp, hv_swp, hv_swp]

/-- Four zero bytes, new. -/
def zero4 : Array Value := madeCells #[.int .u8 0] 4
theorem make4 (w : World) : (Instr.makeSlice 22 (.int .i64 4) (.int .i64 4)).run Try.prog w = .ok (.slice (some ⟨w.heap.size, 0, none⟩) 4 4) (w.alloc (.cells zero4 5)) :=
  run_make_row' (P := Try.prog) 22 5 (.int .u8 0) 1 Try.underlying22 info5 rfl .i64 .i64 4 (by decide) (by decide) w
theorem made4 (w : World) : (w.alloc (.cells zero4 5)).rowIs w.heap.size 5 4 (fun _ => .int .u8 0) := World.rowIs_made w (.int .u8 0) 4 5

set_option maxHeartbeats 1000000 in
theorem blind_core (x : Addr) (len cap : Nat) (f : Nat → Int) (w : World) (h4 : 4 ≤ len) (hl : len ≤ 1048576)
    (hc : ∀ i, i < len → w.cell? (x.add i) = some (.int .u8 (f i))) (hb : ∀ i, i < len → By (f i)) :
    Calls Try.prog 4 #[.slice (some x) len cap] w fun e w' => e = .returned (.bool true) ∧ Below w.heap.size w w' := by
  obtain ⟨W1, hcp, hbel, hsz, hrow⟩ := copy_run 3 x len cap f w hc
  have CB := hide (bytes_yes (some x) len cap w hl)
  have BEL := hide hbel
  have SZ := hide hsz
  have R1 := hide (row4_of hrow h4 (fun i hi => hb i (by omega)))
  have HB : Hid (∀ i, i < 4 → By (f i)) := fun i hi => hb i (by omega)
  clear hbel hsz hrow hb hc
  have hmk := run_make_row' (P := Try.prog) 22 5 (.int .u8 0) 1 Try.underlying22 info5 rfl .i64 .i64 len (by omega) (by omega)
  have hnn := fun (w : World) (a : Option Addr) (n c n' c' : Nat) => run_neq_slice_nil_any (P := Try.prog) w 22 5 a n c n' c' Try.underlying22
  go_enter Try.func4, Try.ntmps4
  go_wp2_with fail
  refine (unhide CB).mono ?_
  rintro e w0 ⟨rfl, rfl⟩
  go_wp2_with fail
  clear hmk hnn hcp CB
  refine (zz_any w0.heap.size len len f h4 _ (unhide R1)).mono ?_
  rintro e w' ⟨rfl, q1, rfl⟩
  have R2 := hide (row4_drawn (unhide R1) q1)
  have BEL2 := hide (below_drawn (unhide BEL) q1)
  have SZ2 : Hid ((W1.drewN q1).heap.size = w0.heap.size + 1) := unhide SZ
  clear R1 BEL SZ
  generalize W1.drewN q1 = W2 at *
  go_wp2_with fail
  refine (zz_any w0.heap.size 4 len f (by omega) _ (unhide R2)).mono ?_
  rintro e w' ⟨rfl, q2, rfl⟩
  have R3 := hide (row4_drawn (unhide R2) q2)
  have BEL3 := hide (below_drawn (unhide BEL2) q2)
  have SZ3 : Hid ((W2.drewN q2).heap.size = w0.heap.size + 1) := unhide SZ2
  clear R2 BEL2 SZ2
  generalize W2.drewN q2 = W3 at *
  have hmk4 := make4
  have r4 := cl4_range _ _ _ _ (hv_dg (f 0)) (hv_dg (f 1)) (hv_dg (f 2)) (hv_dg (f 3))
  have g4 := cl4_sign _ _ _ _ (hv_dg (f 0)) (hv_dg (f 1)) (hv_dg (f 2)) (hv_dg (f 3))
  have RG : Hid (four f ≤ 65535 ∧ (0 ≤ four f → allB f = true) ∧ (four f < 0 → allB f = false)) := by
    refine ⟨r4.2, fun h => ?_, fun h => ?_⟩
    · unfold allB; exact decide_eq_true (g4.1 h)
    · unfold allB
      apply decide_eq_false
      intro h'
      have := g4.2 h'
      unfold four at h
      omega
  clear r4 g4
  have CF := hide (fun (w : World) (b : Nat) (h : Row4 w b (fun i => swp (f i))) => (four_swp f) ▸ zz_any b 4 4 (fun i => swp (f i)) (by decide) w h)
  have CA := hide (fun (w : World) (h : Row4 w w0.heap.size f) => all_any w0.heap.size len len f h4 w h)
  have CM := hide (fun (w : World) (h : Row4 w w0.heap.size f) => model_any w0.heap.size len len f h4 w h)
  generalize four f = V at *
  go_wp2_with fail
  clear hmk4
  generalize hb2 : W3.heap.size = B2 at *
  have HB2 : Hid (B2 = w0.heap.size + 1) := unhide SZ3
  go_loopw [7] (fun i wr => ∃ k : Nat, k ≤ 4 ∧ i = .int .i64 k ∧ Below w0.heap.size w0 wr ∧ Row4 wr w0.heap.size f ∧ wr.rowIs B2 5 4 (fun j => .int .u8 (if j < k then swp (f j) else 0))) (fun i _ => 4 - (intOf i).toNat)
  case atStart =>
    refine ⟨0, Nat.zero_le _, rfl, ?_, fun i hi => ⟨?_, (unhide R3 i hi).2⟩, ?_⟩
    · exact (unhide BEL3).alloc (by rw [hb2, HB2.out]; omega) _
    · have c := (unhide R3 i hi).1
      rw [World.cell?_alloc_lt _ _ _ (World.block_lt_of_cell? _ _ c)]
      exact c
    · rw [← hb2]
      exact (made4 W3).congr fun i _ => by simp
  case round =>
    clear hb2 SZ3 R3 BEL3
    obtain ⟨k, hk, rfl, bel, row, own⟩ := hrel
    have BEL := hide bel
    have ROW := hide row
    have OWN := hide own
    clear bel row own
    by_cases d : k < 4
    · have c1 := (unhide ROW k d).1
      obtain ⟨c2, c3⟩ := (unhide ROW k d).2
      have c4 := (unhide OWN).cell d
      have c5 := (unhide OWN).frozen k
      have kl : (k : Int) < (len : Int) := by omega
      have NX : Hid (Row4 (wr.setCell ⟨B2, k, none⟩ (.int .u8 (swp (f k)))) w0.heap.size f) := by
        intro i hi
        refine ⟨?_, (unhide ROW i hi).2⟩
        rw [World.cell?_of_block (w := wr) (Below.heap_setCell _ _ _ _ (by show w0.heap.size ≠ B2; rw [HB2.out]; omega))]
        exact (unhide ROW i hi).1
      have NB : Hid (Below w0.heap.size w0 (wr.setCell ⟨B2, k, none⟩ (.int .u8 (swp (f k))))) := (unhide BEL).setCell (by show w0.heap.size ≤ B2; rw [HB2.out]; omega) _
      have NO : Hid ((wr.setCell ⟨B2, k, none⟩ (.int .u8 (swp (f k)))).rowIs B2 5 4 (fun j => .int .u8 (if j < k + 1 then swp (f j) else 0))) := by
        refine ((unhide OWN).set k _).congr fun i hi => ?_
        by_cases e : i = k
        · subst e; simp
        · have e1 : (i < k + 1) ↔ i < k := by omega
          simp [e, e1]
      go_wp2_with (go_at_call 9; refine (swap_any _ c2 c3 _).mono ?_; rintro e w' ⟨rfl, rfl⟩)
      go_roundw
      case rel => exact ⟨k + 1, by omega, by go_num, unhide NB, unhide NX, unhide NO⟩
      case measure => simp [intOf]; omega
    · have e : k = 4 := by omega
      subst e
      have RS : Hid (Row4 wr B2 (fun i => swp (f i))) := by
        intro i hi
        refine ⟨?_, swp_range _ ((unhide HB) i hi).1 ((unhide HB) i hi).2⟩
        rw [(unhide OWN).cell hi]
        simp [hi]
      go_wp2_with fail
      refine (unhide CF _ _ (unhide RS)).mono ?_
      rintro e w' ⟨rfl, q3, rfl⟩
      have ROW' := hide (row4_drawn (unhide ROW) q3)
      have BEL' := hide (below_drawn (unhide BEL) q3)
      have v1 : V ≤ 65535 := (unhide RG).1
      by_cases s : 0 ≤ V
      · have ea := (unhide RG).2.1 s
        have CA' := hide (ea ▸ unhide CA _ (unhide ROW'))
        have CM' := hide (unhide CM _ (unhide ROW'))
        clear ea RG CA CM CF
        go_wp2_with fail
        refine (unhide CA').mono ?_
        rintro e w' ⟨rfl, rfl⟩
        go_wp2_with fail
        refine (unhide CM').mono ?_
        rintro e w' ⟨rfl, rfl⟩
        go_wp2_with fail
        go_ret
        exact ⟨rfl, unhide BEL'⟩
      · have s' : V < 0 := by omega
        have ea := (unhide RG).2.2 s'
        have CA' := hide (ea ▸ unhide CA _ (unhide ROW'))
        have CM' := hide (unhide CM _ (unhide ROW'))
        clear ea RG CA CM CF s
        go_wp2_with fail
        refine (unhide CA').mono ?_
        rintro e w' ⟨rfl, rfl⟩
        go_wp2_with fail
        refine (unhide CM').mono ?_
        rintro e w' ⟨rfl, rfl⟩
        go_wp2_with fail
        go_ret
        exact ⟨rfl, unhide BEL'⟩

/-- Outside the law's own guards it answers at once. -/
theorem blind_big (a : Option Addr) (len cap : Nat) (w : World) (hl : 1048576 < len) :
    Calls Try.prog 4 #[.slice a len cap] w fun e w' => e = .returned (.bool true) ∧ Below w.heap.size w w' := by
  go_enter Try.func4, Try.ntmps4
  go_wp2_with fail
  refine (bytes_no a len cap w hl).mono ?_
  rintro e w' ⟨rfl, rfl⟩
  go_wp2_with fail
  go_ret
  exact ⟨rfl, Below.refl _ _⟩
theorem blind_short (a : Option Addr) (len cap : Nat) (w : World) (hl : len < 4) :
    Calls Try.prog 4 #[.slice a len cap] w fun e w' => e = .returned (.bool true) ∧ Below w.heap.size w w' := by
  have hl' : (len : Int) < 4 := by omega
  go_enter Try.func4, Try.ntmps4
  go_wp2_with fail
  refine (bytes_yes a len cap w (by omega)).mono ?_
  rintro e w' ⟨rfl, rfl⟩
  go_wp2_with fail
  go_ret
  exact ⟨rfl, Below.refl _ _⟩
end Go.Proofs.Qxb6618654a.Hex
