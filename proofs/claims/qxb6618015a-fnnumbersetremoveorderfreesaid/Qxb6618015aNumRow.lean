import Derived.Test.Qxb6618015aNumPlain
import Derived.WalkKit
import Derived.OpenShut
import Derived.ProofKit
namespace Go.Proofs.Qxb6618015a.Num
open Go.RowKit
/-- What is told of a slice of words that came in, for the walk. -/
theorem row_cells {w : World} {x : Addr} {zs : List Int} (h : ∀ i, i < zs.length → w.cell? (x.add i) = some (.int .u64 (zs.getD i 0))) (len : Nat) (hl : len ≤ zs.length) :
    ∀ i, i < len → ∃ b off, some x = some ⟨b, off, none⟩ ∧ w.cell? ⟨b, off + i, none⟩ = some (.int .u64 (zs.getD i 0)) := by
  intro i hi
  have hc := h i (by omega)
  obtain ⟨b, off, spot⟩ := x
  have hs : spot = none := by simpa [Addr.add] using World.cell?_spot (h 0 (by omega))
  subst hs
  refine ⟨b, off, rfl, ?_⟩
  rw [← Go.WideShapes.add_plain]
  exact hc
theorem row_words {zs : List Int} (h : ∀ n ∈ zs, (Lit.int .u64 n).wf = true) (i : Nat) : Wd (zs.getD i 0) := by
  have := range_u64 h i
  rw [List.getD_eq_getElem?_getD]
  exact ⟨by omega, by omega⟩
end Go.Proofs.Qxb6618015a.Num
