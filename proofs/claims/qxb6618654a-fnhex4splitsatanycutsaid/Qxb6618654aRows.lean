/-
  No cell of these rows narrows 'for every input' (looked for: loops, veiled, ifaces, maps, wideKeys, modest, calm, conditions, laid).
  DERIVED. THE GIVEN ROWS OF THIS SEAT. 2 by the template 'for every input the law returns true; each argument reads behind the call as it read before'; 0 by the template 'total and deterministic' (their statements: Qxb6618654aTotals.lean).
  GIVEN WITH THE SEED: the statements are not yours to turn. If you find one false, say at which input.
  Laid BY PROGRAM, IN A SANDBOX (cutbox-rows.mjs): the forced cells as the released guide's own fill.sh prints them over the translation cacbcabe5d056b6d… (all of the seat's roots in one cut). By AI agents, Wed Nov 11 2026. No macro, syntax, notation, axiom, sorry.
-/
import Derived.Test.Qxb6618654aChecked
import GoSem.Claim
import GoSem.ClaimJoined
import GoSem.ClaimMapViews
import Derived.JoinedTies
import Derived.KernelRfl
namespace Go.Proofs.Qxb6618654a
/- THE CELL 'sum', in the pinned program and in every row, IS THE sha256 OF THE DUMP (.gsa) THAT Qxb6618654aProg.lean LOADS. Nothing in Lean hashes anything: it is a label: what it is worth is what the hold of that sum in a sandbox is worth. -/
noncomputable def Try.pinned : Pinned := { name := "qxb6618654a", sum := "cacbcabe5d056b6d5cf9034e870fc1ebab5f48d615022435fe1bd457e803388a", checked := Try.checked }
namespace Rows
def none {H : Type} : Left H := { results := [], args := [] }

/-- 'zzlaws_internal_jsonscan_b1.FnHex4SplitsAtAnyCut': WHATEVER THE INPUT: true; the input reads as it did. -/
def fnHex4SplitsAtAnyCutSpec : ChangeSpec := { name := "fnHex4SplitsAtAnyCut", fn := fun _ => fun
  | [d1, d2] => { results := [.lit (.bool true)], args := [d1, d2] }
  | _ => none }
def fnHex4SplitsAtAnyCutRow : OpenClaim := { program := "qxb6618654a", sum := "cacbcabe5d056b6d5cf9034e870fc1ebab5f48d615022435fe1bd457e803388a", func := "example.com/lockstep/lockstep/zzlaws_internal_jsonscan_b1.FnHex4SplitsAtAnyCut", spec := "fnHex4SplitsAtAnyCut", apart := false }
def FnHex4SplitsAtAnyCutSaid : Prop := fnHex4SplitsAtAnyCutRow.holds Try.pinned (OpenSpec.ofChange fnHex4SplitsAtAnyCutSpec)

/-- ITS FALSE NEIGHBOUR: 'it returns false'. Refute it at one input. -/
def fnHex4SplitsAtAnyCutWrong : ChangeSpec := { name := "fnHex4SplitsAtAnyCut", fn := fun _ => fun
  | [d1, d2] => { results := [.lit (.bool false)], args := [d1, d2] }
  | _ => none }
def FnHex4SplitsAtAnyCutWrongFalsely : Prop := fnHex4SplitsAtAnyCutRow.holds Try.pinned (OpenSpec.ofChange fnHex4SplitsAtAnyCutWrong)

/-- 'zzlaws_internal_jsonscan_b1.FnHex4CaseBlindReadsFourBytes': WHATEVER THE INPUT: true; the input reads as it did. -/
def fnHex4CaseBlindReadsFourBytesSpec : ChangeSpec := { name := "fnHex4CaseBlindReadsFourBytes", fn := fun _ => fun
  | [d] => { results := [.lit (.bool true)], args := [d] }
  | _ => none }
def fnHex4CaseBlindReadsFourBytesRow : OpenClaim := { program := "qxb6618654a", sum := "cacbcabe5d056b6d5cf9034e870fc1ebab5f48d615022435fe1bd457e803388a", func := "example.com/lockstep/lockstep/zzlaws_internal_jsonscan_b1.FnHex4CaseBlindReadsFourBytes", spec := "fnHex4CaseBlindReadsFourBytes", apart := false }
def FnHex4CaseBlindReadsFourBytesSaid : Prop := fnHex4CaseBlindReadsFourBytesRow.holds Try.pinned (OpenSpec.ofChange fnHex4CaseBlindReadsFourBytesSpec)

/-- ITS FALSE NEIGHBOUR: 'it returns false'. Refute it at one input. -/
def fnHex4CaseBlindReadsFourBytesWrong : ChangeSpec := { name := "fnHex4CaseBlindReadsFourBytes", fn := fun _ => fun
  | [d] => { results := [.lit (.bool false)], args := [d] }
  | _ => none }
def FnHex4CaseBlindReadsFourBytesWrongFalsely : Prop := fnHex4CaseBlindReadsFourBytesRow.holds Try.pinned (OpenSpec.ofChange fnHex4CaseBlindReadsFourBytesWrong)

end Rows
end Go.Proofs.Qxb6618654a
