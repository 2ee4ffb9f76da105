/-
  No cell of these rows narrows 'for every input' (looked for: loops, veiled, ifaces, maps, wideKeys, modest, calm, conditions, laid).
  DERIVED. THE GIVEN ROWS OF THIS SEAT. 2 by the template 'for every input the law returns true; each argument reads behind the call as it read before'; 0 by the template 'total and deterministic' (their statements: Qxb6617365aTotals.lean).
  GIVEN WITH THE SEED: the statements are not yours to turn. If you find one false, say at which input.
  Laid BY PROGRAM, IN A SANDBOX (cutbox-rows.mjs): the forced cells as the released guide's own fill.sh prints them over the translation 0076d27df41ce7eb… (all of the seat's roots in one cut). By AI agents, Wed Nov 11 2026. No macro, syntax, notation, axiom, sorry.
-/
import Derived.Test.Qxb6617365aChecked
import GoSem.Claim
import GoSem.ClaimJoined
import GoSem.ClaimMapViews
import Derived.JoinedTies
import Derived.KernelRfl
namespace Go.Proofs.Qxb6617365a
/- THE CELL 'sum', in the pinned program and in every row, IS THE sha256 OF THE DUMP (.gsa) THAT Qxb6617365aProg.lean LOADS. Nothing in Lean hashes anything: it is a label: what it is worth is what the hold of that sum in a sandbox is worth. -/
noncomputable def Try.pinned : Pinned := { name := "qxb6617365a", sum := "0076d27df41ce7eb7bfbadbc1771da6d0d73969035401ded0e997cd73aa5e957", checked := Try.checked }
namespace Rows
def none {H : Type} : Left H := { results := [], args := [] }

/-- 'zzlaws_action_b1.FnNextSettlesAfterOneStep': WHATEVER THE INPUT: true; the input reads as it did. -/
def fnNextSettlesAfterOneStepSpec : ChangeSpec := { name := "fnNextSettlesAfterOneStep", fn := fun _ => fun
  | [d1, d2, d3, d4, d5, d6] => { results := [.lit (.bool true)], args := [d1, d2, d3, d4, d5, d6] }
  | _ => none }
def fnNextSettlesAfterOneStepRow : OpenClaim := { program := "qxb6617365a", sum := "0076d27df41ce7eb7bfbadbc1771da6d0d73969035401ded0e997cd73aa5e957", func := "example.com/corbelwatch/corbelwatch/zzlaws_action_b1.FnNextSettlesAfterOneStep", spec := "fnNextSettlesAfterOneStep", apart := false }
def FnNextSettlesAfterOneStepSaid : Prop := fnNextSettlesAfterOneStepRow.holds Try.pinned (OpenSpec.ofChange fnNextSettlesAfterOneStepSpec)

/-- ITS FALSE NEIGHBOUR: 'it returns false'. Refute it at one input. -/
def fnNextSettlesAfterOneStepWrong : ChangeSpec := { name := "fnNextSettlesAfterOneStep", fn := fun _ => fun
  | [d1, d2, d3, d4, d5, d6] => { results := [.lit (.bool false)], args := [d1, d2, d3, d4, d5, d6] }
  | _ => none }
def FnNextSettlesAfterOneStepWrongFalsely : Prop := fnNextSettlesAfterOneStepRow.holds Try.pinned (OpenSpec.ofChange fnNextSettlesAfterOneStepWrong)

/-- 'zzlaws_action_b1.FnNextDryRunMarkLeavesNoTrace': WHATEVER THE INPUT: true; the input reads as it did. -/
def fnNextDryRunMarkLeavesNoTraceSpec : ChangeSpec := { name := "fnNextDryRunMarkLeavesNoTrace", fn := fun _ => fun
  | [d1, d2, d3, d4, d5, d6] => { results := [.lit (.bool true)], args := [d1, d2, d3, d4, d5, d6] }
  | _ => none }
def fnNextDryRunMarkLeavesNoTraceRow : OpenClaim := { program := "qxb6617365a", sum := "0076d27df41ce7eb7bfbadbc1771da6d0d73969035401ded0e997cd73aa5e957", func := "example.com/corbelwatch/corbelwatch/zzlaws_action_b1.FnNextDryRunMarkLeavesNoTrace", spec := "fnNextDryRunMarkLeavesNoTrace", apart := false }
def FnNextDryRunMarkLeavesNoTraceSaid : Prop := fnNextDryRunMarkLeavesNoTraceRow.holds Try.pinned (OpenSpec.ofChange fnNextDryRunMarkLeavesNoTraceSpec)

/-- ITS FALSE NEIGHBOUR: 'it returns false'. Refute it at one input. -/
def fnNextDryRunMarkLeavesNoTraceWrong : ChangeSpec := { name := "fnNextDryRunMarkLeavesNoTrace", fn := fun _ => fun
  | [d1, d2, d3, d4, d5, d6] => { results := [.lit (.bool false)], args := [d1, d2, d3, d4, d5, d6] }
  | _ => none }
def FnNextDryRunMarkLeavesNoTraceWrongFalsely : Prop := fnNextDryRunMarkLeavesNoTraceRow.holds Try.pinned (OpenSpec.ofChange fnNextDryRunMarkLeavesNoTraceWrong)

end Rows
end Go.Proofs.Qxb6617365a
