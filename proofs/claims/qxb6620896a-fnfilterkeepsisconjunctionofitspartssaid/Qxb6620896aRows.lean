/-
  No cell of these rows narrows 'for every input' (looked for: loops, veiled, ifaces, maps, wideKeys, modest, calm, conditions, laid).
  DERIVED. THE GIVEN ROWS OF THIS SEAT. 4 by the template 'for every input the law returns true; each argument reads behind the call as it read before'; 0 by the template 'total and deterministic' (their statements: Qxb6620896aTotals.lean).
  GIVEN WITH THE SEED: the statements are not yours to turn. If you find one false, say at which input.
  Laid BY PROGRAM, IN A SANDBOX (cutbox-rows.mjs): the forced cells as the released guide's own fill.sh prints them over the translation 1c4720e240214b82… (all of the seat's roots in one cut). By AI agents, Wed Nov 11 2026. No macro, syntax, notation, axiom, sorry.
-/
import Derived.Test.Qxb6620896aChecked
import GoSem.Claim
import GoSem.ClaimJoined
import GoSem.ClaimMapViews
import Derived.JoinedTies
import Derived.KernelRfl
namespace Go.Proofs.Qxb6620896a
/- THE CELL 'sum', in the pinned program and in every row, IS THE sha256 OF THE DUMP (.gsa) THAT Qxb6620896aProg.lean LOADS. Nothing in Lean hashes anything: it is a label: what it is worth is what the hold of that sum in a sandbox is worth. -/
noncomputable def Try.pinned : Pinned := { name := "qxb6620896a", sum := "1c4720e240214b821edb5d40eb6e92262180cb1e053b19ca98cf5d051bad7f7d", checked := Try.checked }
namespace Rows
def none {H : Type} : Left H := { results := [], args := [] }

/-- 'zzlaws_internal_access_b1.FnCompareEntriesIsLexOrderOf48ByteKey': WHATEVER THE INPUT: true; the input reads as it did. -/
def fnCompareEntriesIsLexOrderOf48ByteKeySpec : ChangeSpec := { name := "fnCompareEntriesIsLexOrderOf48ByteKey", fn := fun _ => fun
  | [d1, d2, d3, d4, d5, d6] => { results := [.lit (.bool true)], args := [d1, d2, d3, d4, d5, d6] }
  | _ => none }
def fnCompareEntriesIsLexOrderOf48ByteKeyRow : OpenClaim := { program := "qxb6620896a", sum := "1c4720e240214b821edb5d40eb6e92262180cb1e053b19ca98cf5d051bad7f7d", func := "example.com/keyward/keyward/zzlaws_internal_access_b1.FnCompareEntriesIsLexOrderOf48ByteKey", spec := "fnCompareEntriesIsLexOrderOf48ByteKey", inPlace := ["internal/bytealg.Compare"], apart := false }
def FnCompareEntriesIsLexOrderOf48ByteKeySaid : Prop := fnCompareEntriesIsLexOrderOf48ByteKeyRow.holds Try.pinned (OpenSpec.ofChange fnCompareEntriesIsLexOrderOf48ByteKeySpec)

/-- ITS FALSE NEIGHBOUR: 'it returns false'. Refute it at one input. -/
def fnCompareEntriesIsLexOrderOf48ByteKeyWrong : ChangeSpec := { name := "fnCompareEntriesIsLexOrderOf48ByteKey", fn := fun _ => fun
  | [d1, d2, d3, d4, d5, d6] => { results := [.lit (.bool false)], args := [d1, d2, d3, d4, d5, d6] }
  | _ => none }
def FnCompareEntriesIsLexOrderOf48ByteKeyWrongFalsely : Prop := fnCompareEntriesIsLexOrderOf48ByteKeyRow.holds Try.pinned (OpenSpec.ofChange fnCompareEntriesIsLexOrderOf48ByteKeyWrong)

/-- 'zzlaws_internal_access_b1.FnCompareEntriesIsATotalOrder': WHATEVER THE INPUT: true; the input reads as it did. -/
def fnCompareEntriesIsATotalOrderSpec : ChangeSpec := { name := "fnCompareEntriesIsATotalOrder", fn := fun _ => fun
  | [d1, d2, d3, d4, d5, d6, d7, d8, d9] => { results := [.lit (.bool true)], args := [d1, d2, d3, d4, d5, d6, d7, d8, d9] }
  | _ => none }
def fnCompareEntriesIsATotalOrderRow : OpenClaim := { program := "qxb6620896a", sum := "1c4720e240214b821edb5d40eb6e92262180cb1e053b19ca98cf5d051bad7f7d", func := "example.com/keyward/keyward/zzlaws_internal_access_b1.FnCompareEntriesIsATotalOrder", spec := "fnCompareEntriesIsATotalOrder", inPlace := ["internal/bytealg.Compare"], apart := false }
def FnCompareEntriesIsATotalOrderSaid : Prop := fnCompareEntriesIsATotalOrderRow.holds Try.pinned (OpenSpec.ofChange fnCompareEntriesIsATotalOrderSpec)

/-- ITS FALSE NEIGHBOUR: 'it returns false'. Refute it at one input. -/
def fnCompareEntriesIsATotalOrderWrong : ChangeSpec := { name := "fnCompareEntriesIsATotalOrder", fn := fun _ => fun
  | [d1, d2, d3, d4, d5, d6, d7, d8, d9] => { results := [.lit (.bool false)], args := [d1, d2, d3, d4, d5, d6, d7, d8, d9] }
  | _ => none }
def FnCompareEntriesIsATotalOrderWrongFalsely : Prop := fnCompareEntriesIsATotalOrderRow.holds Try.pinned (OpenSpec.ofChange fnCompareEntriesIsATotalOrderWrong)

/-- 'zzlaws_internal_access_b1.FnFilterKeepsIsConjunctionOfItsParts': WHATEVER THE INPUT: true; the input reads as it did. -/
def fnFilterKeepsIsConjunctionOfItsPartsSpec : ChangeSpec := { name := "fnFilterKeepsIsConjunctionOfItsParts", fn := fun _ => fun
  | [d1, d2, d3, d4, d5, d6] => { results := [.lit (.bool true)], args := [d1, d2, d3, d4, d5, d6] }
  | _ => none }
def fnFilterKeepsIsConjunctionOfItsPartsRow : OpenClaim := { program := "qxb6620896a", sum := "1c4720e240214b821edb5d40eb6e92262180cb1e053b19ca98cf5d051bad7f7d", func := "example.com/keyward/keyward/zzlaws_internal_access_b1.FnFilterKeepsIsConjunctionOfItsParts", spec := "fnFilterKeepsIsConjunctionOfItsParts", inPlace := ["internal/bytealg.Compare"], apart := false }
def FnFilterKeepsIsConjunctionOfItsPartsSaid : Prop := fnFilterKeepsIsConjunctionOfItsPartsRow.holds Try.pinned (OpenSpec.ofChange fnFilterKeepsIsConjunctionOfItsPartsSpec)

/-- ITS FALSE NEIGHBOUR: 'it returns false'. Refute it at one input. -/
def fnFilterKeepsIsConjunctionOfItsPartsWrong : ChangeSpec := { name := "fnFilterKeepsIsConjunctionOfItsParts", fn := fun _ => fun
  | [d1, d2, d3, d4, d5, d6] => { results := [.lit (.bool false)], args := [d1, d2, d3, d4, d5, d6] }
  | _ => none }
def FnFilterKeepsIsConjunctionOfItsPartsWrongFalsely : Prop := fnFilterKeepsIsConjunctionOfItsPartsRow.holds Try.pinned (OpenSpec.ofChange fnFilterKeepsIsConjunctionOfItsPartsWrong)

/-- 'zzlaws_internal_access_b1.FnFilterOfAnEntryKeepsExactlyItsEquals': WHATEVER THE INPUT: true; the input reads as it did. -/
def fnFilterOfAnEntryKeepsExactlyItsEqualsSpec : ChangeSpec := { name := "fnFilterOfAnEntryKeepsExactlyItsEquals", fn := fun _ => fun
  | [d1, d2, d3, d4, d5, d6] => { results := [.lit (.bool true)], args := [d1, d2, d3, d4, d5, d6] }
  | _ => none }
def fnFilterOfAnEntryKeepsExactlyItsEqualsRow : OpenClaim := { program := "qxb6620896a", sum := "1c4720e240214b821edb5d40eb6e92262180cb1e053b19ca98cf5d051bad7f7d", func := "example.com/keyward/keyward/zzlaws_internal_access_b1.FnFilterOfAnEntryKeepsExactlyItsEquals", spec := "fnFilterOfAnEntryKeepsExactlyItsEquals", inPlace := ["internal/bytealg.Compare"], apart := false }
def FnFilterOfAnEntryKeepsExactlyItsEqualsSaid : Prop := fnFilterOfAnEntryKeepsExactlyItsEqualsRow.holds Try.pinned (OpenSpec.ofChange fnFilterOfAnEntryKeepsExactlyItsEqualsSpec)

/-- ITS FALSE NEIGHBOUR: 'it returns false'. Refute it at one input. -/
def fnFilterOfAnEntryKeepsExactlyItsEqualsWrong : ChangeSpec := { name := "fnFilterOfAnEntryKeepsExactlyItsEquals", fn := fun _ => fun
  | [d1, d2, d3, d4, d5, d6] => { results := [.lit (.bool false)], args := [d1, d2, d3, d4, d5, d6] }
  | _ => none }
def FnFilterOfAnEntryKeepsExactlyItsEqualsWrongFalsely : Prop := fnFilterOfAnEntryKeepsExactlyItsEqualsRow.holds Try.pinned (OpenSpec.ofChange fnFilterOfAnEntryKeepsExactlyItsEqualsWrong)

end Rows
end Go.Proofs.Qxb6620896a
