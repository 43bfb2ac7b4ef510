import Derived.Test.Qxb6618654aHexModel
import Derived.Laws.CopyRow
import Derived.WalkSpells
namespace Go.Proofs.Qxb6618654a.Hex
open Go.RowKit
set_option linter.unusedVariables false
theorem info5 : (Try.prog.info? 5).map (fun i => (i.zero, i.size, i.bytes)) = some (some (.int .u8 0), 1, 1) := by kernel_rfl
theorem size5 : (Try.prog.info? 5).map (·.size) = some 1 := by kernel_rfl

/-- The copy that the laws begin with: 'zzc := make([]byte, len(b)); copy(zzc, b)': what it leaves. -/
theorem copy_run (ty : TypeId) (x : Addr) (len cap : Nat) (f : Nat → Int) (w : World) (hc : ∀ i, i < len → w.cell? (x.add i) = some (.int .u8 (f i))) :
    ∃ W1 : World, (Builtin.copy_ #[22, 22] ty #[.slice (some ⟨w.heap.size, 0, none⟩) len len, .slice (some x) len cap]).run Try.prog (w.alloc (.cells (madeCells #[.int .u8 0] len) 5)) = .ok (goInt len) W1 ∧
      Below w.heap.size w W1 ∧ W1.heap.size = w.heap.size + 1 ∧ W1.rowIs w.heap.size 5 len (fun i => .int .u8 (f i)) := by
  have hsz : ∀ (W : World) (g : Nat) (cs : Array Value), (W.setRow g cs).heap.size = W.heap.size := fun W g cs => by simp [World.setRow]
  have hcs : ((List.range len).map fun i => Value.int .u8 (f i)).length = len := by simp
  have hr := run_copy_row (P := Try.prog) (w.alloc (.cells (madeCells #[.int .u8 0] len) 5)) 22 22 ty 5 w.heap.size 0 len len x len cap (madeCells #[.int .u8 0] len) 5 ((List.range len).map fun i => Value.int .u8 (f i))
    Try.underlying22 size5 (Go.Deep.blk_alloc_new _ _) (by simp) (fun j v hj => ?_) (by simp [size_madeCells]) (fun v hv => ?_)
  · rw [hcs] at hr
    refine ⟨_, hr, ?_, ?_, ?_⟩
    · refine ⟨rfl, rfl, rfl, ?_, fun k hk => ?_⟩
      · rw [hsz, Go.Deep.nblk_alloc]; omega
      · rw [← Below.heap_alloc w (.cells (madeCells #[.int .u8 0] len) 5) k hk]
        simp only [World.setRow, Array.getElem?_modify]
        rw [if_neg (by omega)]
    · rw [hsz, Go.Deep.nblk_alloc]
    · refine ⟨_, setRow_heap _ _ _ _ _ _ (Go.Deep.blk_alloc_new _ _), ?_, fun i hi => ?_⟩
      · simp [size_madeCells]
      · rw [List.take_zero, List.nil_append, Nat.zero_add, List.getElem?_toArray, List.getElem?_append_left (by simpa using hi)]
        simp [hi]
  · have hj' : j < len := by
      have := (List.getElem?_eq_some_iff.1 hj).1
      simpa using this
    have hv : v = .int .u8 (f j) := by
      simp [hj'] at hj
      exact hj.symm
    rw [hv]
    have h0 := hc j hj'
    rw [World.cell?_alloc_lt _ _ _ (by have := World.block_lt_of_cell? _ _ h0; exact this)]
    exact h0
  · simp at hv
    obtain ⟨i, _, rfl⟩ := hv
    rfl

theorem bytes_yes (a : Option Addr) (len cap : Nat) (w : World) (hl : len ≤ 1048576) :
    Calls Try.prog 8 #[.slice a len cap] w fun e w' => e = .returned (.bool true) ∧ w' = w := by
  go_enter Try.func8, Try.ntmps8
  go_wp2
  go_ret
  exact ⟨rfl, rfl⟩
theorem bytes_no (a : Option Addr) (len cap : Nat) (w : World) (hl : 1048576 < len) :
    Calls Try.prog 8 #[.slice a len cap] w fun e w' => e = .returned (.bool false) ∧ w' = w := by
  have hl' : (1048576 : Int) < (len : Int) := by omega
  go_enter Try.func8, Try.ntmps8
  go_wp2
  go_ret
  exact ⟨rfl, rfl⟩
end Go.Proofs.Qxb6618654a.Hex
