/-
  No cell of these rows narrows 'for every input' (looked for: loops, veiled, ifaces, maps, wideKeys, modest, calm, conditions, laid).
  DERIVED. THE GIVEN ROWS OF THIS SEAT. 3 by the template 'for every input the law returns true; each argument reads behind the call as it read before'; 0 by the template 'total and deterministic' (their statements: Qxb6619705aTotals.lean).
  GIVEN WITH THE SEED: the statements are not yours to turn. If you find one false, say at which input.
  Laid BY PROGRAM, IN A SANDBOX (cutbox-rows.mjs): the forced cells as the released guide's own fill.sh prints them over the translation b57cc84f9c8832ff… (all of the seat's roots in one cut). By AI agents, Wed Nov 11 2026. No macro, syntax, notation, axiom, sorry.
-/
import Derived.Test.Qxb6619705aChecked
import GoSem.Claim
import GoSem.ClaimJoined
import GoSem.ClaimMapViews
import Derived.JoinedTies
import Derived.KernelRfl
namespace Go.Proofs.Qxb6619705a
/- THE CELL 'sum', in the pinned program and in every row, IS THE sha256 OF THE DUMP (.gsa) THAT Qxb6619705aProg.lean LOADS. Nothing in Lean hashes anything: it is a label: what it is worth is what the hold of that sum in a sandbox is worth. -/
noncomputable def Try.pinned : Pinned := { name := "qxb6619705a", sum := "b57cc84f9c8832ffd6483f8192d179ef2c610fe7ecf3c4f9263ffbc1d15cfe60", checked := Try.checked }
namespace Rows
def none {H : Type} : Left H := { results := [], args := [] }

/-- 'zzlaws_profile_b1.FnAddressPoolItemAnywhere': WHATEVER THE INPUT: true; the input reads as it did. -/
def fnAddressPoolItemAnywhereSpec : ChangeSpec := { name := "fnAddressPoolItemAnywhere", fn := fun _ => fun
  | [d1, d2, d3, d4, d5] => { results := [.lit (.bool true)], args := [d1, d2, d3, d4, d5] }
  | _ => none }
def fnAddressPoolItemAnywhereRow : OpenClaim := { program := "qxb6619705a", sum := "b57cc84f9c8832ffd6483f8192d179ef2c610fe7ecf3c4f9263ffbc1d15cfe60", func := "example.com/callreeve/callreeve/zzlaws_profile_b1.FnAddressPoolItemAnywhere", spec := "fnAddressPoolItemAnywhere", apart := false }
def FnAddressPoolItemAnywhereSaid : Prop := fnAddressPoolItemAnywhereRow.holds Try.pinned (OpenSpec.ofChange fnAddressPoolItemAnywhereSpec)

/-- ITS FALSE NEIGHBOUR: 'it returns false'. Refute it at one input. -/
def fnAddressPoolItemAnywhereWrong : ChangeSpec := { name := "fnAddressPoolItemAnywhere", fn := fun _ => fun
  | [d1, d2, d3, d4, d5] => { results := [.lit (.bool false)], args := [d1, d2, d3, d4, d5] }
  | _ => none }
def FnAddressPoolItemAnywhereWrongFalsely : Prop := fnAddressPoolItemAnywhereRow.holds Try.pinned (OpenSpec.ofChange fnAddressPoolItemAnywhereWrong)

/-- 'zzlaws_profile_b1.FnStripCommentCutsAtFirstUnquotedHash': WHATEVER THE INPUT: true; the input reads as it did. -/
def fnStripCommentCutsAtFirstUnquotedHashSpec : ChangeSpec := { name := "fnStripCommentCutsAtFirstUnquotedHash", fn := fun _ => fun
  | [d] => { results := [.lit (.bool true)], args := [d] }
  | _ => none }
def fnStripCommentCutsAtFirstUnquotedHashRow : OpenClaim := { program := "qxb6619705a", sum := "b57cc84f9c8832ffd6483f8192d179ef2c610fe7ecf3c4f9263ffbc1d15cfe60", func := "example.com/callreeve/callreeve/zzlaws_profile_b1.FnStripCommentCutsAtFirstUnquotedHash", spec := "fnStripCommentCutsAtFirstUnquotedHash", apart := false }
def FnStripCommentCutsAtFirstUnquotedHashSaid : Prop := fnStripCommentCutsAtFirstUnquotedHashRow.holds Try.pinned (OpenSpec.ofChange fnStripCommentCutsAtFirstUnquotedHashSpec)

/-- ITS FALSE NEIGHBOUR: 'it returns false'. Refute it at one input. -/
def fnStripCommentCutsAtFirstUnquotedHashWrong : ChangeSpec := { name := "fnStripCommentCutsAtFirstUnquotedHash", fn := fun _ => fun
  | [d] => { results := [.lit (.bool false)], args := [d] }
  | _ => none }
def FnStripCommentCutsAtFirstUnquotedHashWrongFalsely : Prop := fnStripCommentCutsAtFirstUnquotedHashRow.holds Try.pinned (OpenSpec.ofChange fnStripCommentCutsAtFirstUnquotedHashWrong)

/-- 'zzlaws_profile_b1.FnStripCommentJoin': WHATEVER THE INPUT: true; the input reads as it did. -/
def fnStripCommentJoinSpec : ChangeSpec := { name := "fnStripCommentJoin", fn := fun _ => fun
  | [d1, d2] => { results := [.lit (.bool true)], args := [d1, d2] }
  | _ => none }
def fnStripCommentJoinRow : OpenClaim := { program := "qxb6619705a", sum := "b57cc84f9c8832ffd6483f8192d179ef2c610fe7ecf3c4f9263ffbc1d15cfe60", func := "example.com/callreeve/callreeve/zzlaws_profile_b1.FnStripCommentJoin", spec := "fnStripCommentJoin", apart := false }
def FnStripCommentJoinSaid : Prop := fnStripCommentJoinRow.holds Try.pinned (OpenSpec.ofChange fnStripCommentJoinSpec)

/-- ITS FALSE NEIGHBOUR: 'it returns false'. Refute it at one input. -/
def fnStripCommentJoinWrong : ChangeSpec := { name := "fnStripCommentJoin", fn := fun _ => fun
  | [d1, d2] => { results := [.lit (.bool false)], args := [d1, d2] }
  | _ => none }
def FnStripCommentJoinWrongFalsely : Prop := fnStripCommentJoinRow.holds Try.pinned (OpenSpec.ofChange fnStripCommentJoinWrong)

end Rows
end Go.Proofs.Qxb6619705a
