import Derived.Test.Qxb6618015aNumReads
import Derived.Lib.SliceRun
namespace Go.Proofs.Qxb6618015a.Num
open Go.RowKit
set_option linter.unusedVariables false

theorem hide {p : Prop} (h : p) : Hid p := h
theorem unhide {p : Prop} (h : Hid p) : p := h
theorem info22 : (Try.prog.info? 22).map (fun i => (i.zero, i.size, i.bytes)) = some (some (.int .u64 0), 1, 8) := by kernel_rfl

theorem clone_nil (cap : Nat) (w : World) :
    Calls Try.prog 12 #[.slice none 0 cap] w fun e w' => e = .returned (.slice none 0 0) ∧ w' = w := by
  have hn := fun (w : World) (a : Option Addr) (n c n' c' : Nat) => Lib.run_eql_slice_nil (P := Try.prog) w 27 22 a n c n' c' Try.underlying27
  go_enter Try.func12, Try.ntmps12
  go_wp2
  go_ret
  exact ⟨rfl, rfl⟩

set_option maxHeartbeats 400000 in
theorem clone_some (a : Addr) (len cap : Nat) (g : Nat → Int) (w : World) (hl : len ≤ 131072)
    (hc : ∀ i, i < len → ∃ b off, a = ⟨b, off, none⟩ ∧ w.cell? ⟨b, off + i, none⟩ = some (.int .u64 (g i))) :
    Calls Try.prog 12 #[.slice (some a) len cap] w fun e w' => e = .returned (.slice (some ⟨w.heap.size, 0, none⟩) len len) ∧
      w.Since w.heap.size w' ∧ w'.rowIs w.heap.size 22 len (fun i => .int .u64 (g i)) := by
  have hmk := run_make_row' (P := Try.prog) 27 22 (.int .u64 0) 8 Try.underlying27 info22 rfl .i64 .i64 len (by omega) (by omega)
  have H : Hid (∀ i, i < len → ∃ b off, a = ⟨b, off, none⟩ ∧ w.cell? ⟨b, off + i, none⟩ = some (.int .u64 (g i))) := hc
  clear hc
  have hn := fun (w : World) (a : Option Addr) (n c n' c' : Nat) => Lib.run_eql_slice_nil (P := Try.prog) w 27 22 a n c n' c' Try.underlying27
  go_enter Try.func12, Try.ntmps12
  go_wp2
  clear hmk hn
  go_loopw [4] (fun i wr => ∃ k : Nat, k ≤ len ∧ i = .int .i64 k ∧ w.Since w.heap.size wr ∧ wr.rowIs w.heap.size 22 len (fun j => .int .u64 (if j < k then g j else 0))) (fun i _ => len - (intOf i).toNat)
  case atStart =>
    refine ⟨0, Nat.zero_le _, rfl, (World.Since.refl _ _).alloc (Nat.le_refl _) _, ?_⟩
    exact (World.rowIs_made w (.int .u64 0) len 22).congr fun i _ => by simp
  case round =>
    obtain ⟨k, hk, rfl, hsi, hrow⟩ := hrel
    by_cases c : k < len
    · obtain ⟨b, off, rfl, hcell⟩ := H.out k c
      have hlt : b < w.heap.size := World.block_lt_of_cell? _ _ hcell
      have c1 : wr.cell? ⟨b, off + k, none⟩ = some (.int .u64 (g k)) := by rw [hsi.cell (a := ⟨b, off + k, none⟩) hlt]; exact hcell
      have c2 := hrow.cell c
      have c3 := hrow.frozen k
      have HS := hide hsi
      have HRW := hide hrow
      clear hsi hrow hcell
      go_wp2
      go_roundw
      case rel =>
        refine ⟨k + 1, by omega, by go_num, (unhide HS).setCell (Nat.le_refl _) _, ?_⟩
        refine ((unhide HRW).set k _).congr fun i hi => ?_
        by_cases e : i = k
        · subst e; simp
        · have e1 : (i < k + 1) ↔ i < k := by omega
          simp [e, e1]
      case measure => simp [intOf]; omega
    · have e : k = len := by omega
      subst e
      have HS := hide hsi
      have HRW := hide hrow
      clear hsi hrow
      go_wp2
      go_ret
      exact ⟨rfl, unhide HS, (unhide HRW).congr fun i hi => by simp [hi]⟩
end Go.Proofs.Qxb6618015a.Num
