/-
  No cell of these rows narrows 'for every input' (looked for: loops, veiled, ifaces, maps, wideKeys, modest, calm, conditions, laid).
  DERIVED. THE GIVEN ROWS OF THIS SEAT. 6 by the template 'for every input the law returns true; each argument reads behind the call as it read before'; 0 by the template 'total and deterministic' (their statements: Qxb6618015aTotals.lean).
  GIVEN WITH THE SEED: the statements are not yours to turn. If you find one false, say at which input.
  Laid BY PROGRAM, IN A SANDBOX (cutbox-rows.mjs): the forced cells as the released guide's own fill.sh prints them over the translation c7aa15bdfae98396… (all of the seat's roots in one cut). By AI agents, Wed Nov 11 2026. No macro, syntax, notation, axiom, sorry.
-/
import Derived.Test.Qxb6618015aChecked
import GoSem.Claim
import GoSem.ClaimJoined
import GoSem.ClaimMapViews
import Derived.JoinedTies
import Derived.KernelRfl
namespace Go.Proofs.Qxb6618015a
/- THE CELL 'sum', in the pinned program and in every row, IS THE sha256 OF THE DUMP (.gsa) THAT Qxb6618015aProg.lean LOADS. Nothing in Lean hashes anything: it is a label: what it is worth is what the hold of that sum in a sandbox is worth. -/
noncomputable def Try.pinned : Pinned := { name := "qxb6618015a", sum := "c7aa15bdfae9839641f7a3ca67af48c15cd881c99130c3d45d8bb72ca5ad4adb", checked := Try.checked }
namespace Rows
def none {H : Type} : Left H := { results := [], args := [] }

/-- 'zzlaws_pkg_port_b1.FnCombineIncDecCycle': WHATEVER THE INPUT: true; the input reads as it did. -/
def fnCombineIncDecCycleSpec : ChangeSpec := { name := "fnCombineIncDecCycle", fn := fun _ => fun
  | [d1, d2, d3] => { results := [.lit (.bool true)], args := [d1, d2, d3] }
  | _ => none }
def fnCombineIncDecCycleRow : OpenClaim := { program := "qxb6618015a", sum := "c7aa15bdfae9839641f7a3ca67af48c15cd881c99130c3d45d8bb72ca5ad4adb", func := "example.com/warpline/warpline/zzlaws_pkg_port_b1.FnCombineIncDecCycle", spec := "fnCombineIncDecCycle", apart := false }
def FnCombineIncDecCycleSaid : Prop := fnCombineIncDecCycleRow.holds Try.pinned (OpenSpec.ofChange fnCombineIncDecCycleSpec)

/-- ITS FALSE NEIGHBOUR: 'it returns false'. Refute it at one input. -/
def fnCombineIncDecCycleWrong : ChangeSpec := { name := "fnCombineIncDecCycle", fn := fun _ => fun
  | [d1, d2, d3] => { results := [.lit (.bool false)], args := [d1, d2, d3] }
  | _ => none }
def FnCombineIncDecCycleWrongFalsely : Prop := fnCombineIncDecCycleRow.holds Try.pinned (OpenSpec.ofChange fnCombineIncDecCycleWrong)

/-- 'zzlaws_pkg_port_b1.FnCombineAddAndOrXor': WHATEVER THE INPUT: true; the input reads as it did. -/
def fnCombineAddAndOrXorSpec : ChangeSpec := { name := "fnCombineAddAndOrXor", fn := fun _ => fun
  | [d1, d2, d3] => { results := [.lit (.bool true)], args := [d1, d2, d3] }
  | _ => none }
def fnCombineAddAndOrXorRow : OpenClaim := { program := "qxb6618015a", sum := "c7aa15bdfae9839641f7a3ca67af48c15cd881c99130c3d45d8bb72ca5ad4adb", func := "example.com/warpline/warpline/zzlaws_pkg_port_b1.FnCombineAddAndOrXor", spec := "fnCombineAddAndOrXor", apart := false }
def FnCombineAddAndOrXorSaid : Prop := fnCombineAddAndOrXorRow.holds Try.pinned (OpenSpec.ofChange fnCombineAddAndOrXorSpec)

/-- ITS FALSE NEIGHBOUR: 'it returns false'. Refute it at one input. -/
def fnCombineAddAndOrXorWrong : ChangeSpec := { name := "fnCombineAddAndOrXor", fn := fun _ => fun
  | [d1, d2, d3] => { results := [.lit (.bool false)], args := [d1, d2, d3] }
  | _ => none }
def FnCombineAddAndOrXorWrongFalsely : Prop := fnCombineAddAndOrXorRow.holds Try.pinned (OpenSpec.ofChange fnCombineAddAndOrXorWrong)

/-- 'zzlaws_pkg_port_b1.FnNumberSetRemoveSpec': WHATEVER THE INPUT: true; the input reads as it did. -/
def fnNumberSetRemoveSpecSpec : ChangeSpec := { name := "fnNumberSetRemoveSpec", fn := fun _ => fun
  | [d1, d2] => { results := [.lit (.bool true)], args := [d1, d2] }
  | _ => none }
def fnNumberSetRemoveSpecRow : OpenClaim := { program := "qxb6618015a", sum := "c7aa15bdfae9839641f7a3ca67af48c15cd881c99130c3d45d8bb72ca5ad4adb", func := "example.com/warpline/warpline/zzlaws_pkg_port_b1.FnNumberSetRemoveSpec", spec := "fnNumberSetRemoveSpec", apart := false }
def FnNumberSetRemoveSpecSaid : Prop := fnNumberSetRemoveSpecRow.holds Try.pinned (OpenSpec.ofChange fnNumberSetRemoveSpecSpec)

/-- ITS FALSE NEIGHBOUR: 'it returns false'. Refute it at one input. -/
def fnNumberSetRemoveSpecWrong : ChangeSpec := { name := "fnNumberSetRemoveSpec", fn := fun _ => fun
  | [d1, d2] => { results := [.lit (.bool false)], args := [d1, d2] }
  | _ => none }
def FnNumberSetRemoveSpecWrongFalsely : Prop := fnNumberSetRemoveSpecRow.holds Try.pinned (OpenSpec.ofChange fnNumberSetRemoveSpecWrong)

/-- 'zzlaws_pkg_port_b1.FnNumberSetRemoveOrderFree': WHATEVER THE INPUT: true; the input reads as it did. -/
def fnNumberSetRemoveOrderFreeSpec : ChangeSpec := { name := "fnNumberSetRemoveOrderFree", fn := fun _ => fun
  | [d1, d2, d3] => { results := [.lit (.bool true)], args := [d1, d2, d3] }
  | _ => none }
def fnNumberSetRemoveOrderFreeRow : OpenClaim := { program := "qxb6618015a", sum := "c7aa15bdfae9839641f7a3ca67af48c15cd881c99130c3d45d8bb72ca5ad4adb", func := "example.com/warpline/warpline/zzlaws_pkg_port_b1.FnNumberSetRemoveOrderFree", spec := "fnNumberSetRemoveOrderFree", apart := false }
def FnNumberSetRemoveOrderFreeSaid : Prop := fnNumberSetRemoveOrderFreeRow.holds Try.pinned (OpenSpec.ofChange fnNumberSetRemoveOrderFreeSpec)

/-- ITS FALSE NEIGHBOUR: 'it returns false'. Refute it at one input. -/
def fnNumberSetRemoveOrderFreeWrong : ChangeSpec := { name := "fnNumberSetRemoveOrderFree", fn := fun _ => fun
  | [d1, d2, d3] => { results := [.lit (.bool false)], args := [d1, d2, d3] }
  | _ => none }
def FnNumberSetRemoveOrderFreeWrongFalsely : Prop := fnNumberSetRemoveOrderFreeRow.holds Try.pinned (OpenSpec.ofChange fnNumberSetRemoveOrderFreeWrong)

/-- 'zzlaws_pkg_port_b1.FnAllowanceOneCycleAtATime': WHATEVER THE INPUT: true; the input reads as it did. -/
def fnAllowanceOneCycleAtATimeSpec : ChangeSpec := { name := "fnAllowanceOneCycleAtATime", fn := fun _ => fun
  | [d1, d2, d3, d4] => { results := [.lit (.bool true)], args := [d1, d2, d3, d4] }
  | _ => none }
def fnAllowanceOneCycleAtATimeRow : OpenClaim := { program := "qxb6618015a", sum := "c7aa15bdfae9839641f7a3ca67af48c15cd881c99130c3d45d8bb72ca5ad4adb", func := "example.com/warpline/warpline/zzlaws_pkg_port_b1.FnAllowanceOneCycleAtATime", spec := "fnAllowanceOneCycleAtATime", apart := false }
def FnAllowanceOneCycleAtATimeSaid : Prop := fnAllowanceOneCycleAtATimeRow.holds Try.pinned (OpenSpec.ofChange fnAllowanceOneCycleAtATimeSpec)

/-- ITS FALSE NEIGHBOUR: 'it returns false'. Refute it at one input. -/
def fnAllowanceOneCycleAtATimeWrong : ChangeSpec := { name := "fnAllowanceOneCycleAtATime", fn := fun _ => fun
  | [d1, d2, d3, d4] => { results := [.lit (.bool false)], args := [d1, d2, d3, d4] }
  | _ => none }
def FnAllowanceOneCycleAtATimeWrongFalsely : Prop := fnAllowanceOneCycleAtATimeRow.holds Try.pinned (OpenSpec.ofChange fnAllowanceOneCycleAtATimeWrong)

/-- 'zzlaws_pkg_port_b1.FnAllowanceRestartAgrees': WHATEVER THE INPUT: true; the input reads as it did. -/
def fnAllowanceRestartAgreesSpec : ChangeSpec := { name := "fnAllowanceRestartAgrees", fn := fun _ => fun
  | [d1, d2, d3, d4, d5] => { results := [.lit (.bool true)], args := [d1, d2, d3, d4, d5] }
  | _ => none }
def fnAllowanceRestartAgreesRow : OpenClaim := { program := "qxb6618015a", sum := "c7aa15bdfae9839641f7a3ca67af48c15cd881c99130c3d45d8bb72ca5ad4adb", func := "example.com/warpline/warpline/zzlaws_pkg_port_b1.FnAllowanceRestartAgrees", spec := "fnAllowanceRestartAgrees", apart := false }
def FnAllowanceRestartAgreesSaid : Prop := fnAllowanceRestartAgreesRow.holds Try.pinned (OpenSpec.ofChange fnAllowanceRestartAgreesSpec)

/-- ITS FALSE NEIGHBOUR: 'it returns false'. Refute it at one input. -/
def fnAllowanceRestartAgreesWrong : ChangeSpec := { name := "fnAllowanceRestartAgrees", fn := fun _ => fun
  | [d1, d2, d3, d4, d5] => { results := [.lit (.bool false)], args := [d1, d2, d3, d4, d5] }
  | _ => none }
def FnAllowanceRestartAgreesWrongFalsely : Prop := fnAllowanceRestartAgreesRow.holds Try.pinned (OpenSpec.ofChange fnAllowanceRestartAgreesWrong)

end Rows
end Go.Proofs.Qxb6618015a
