/-
  No cell of these rows narrows 'for every input' (looked for: loops, veiled, ifaces, maps, wideKeys, modest, calm, conditions, laid).
  DERIVED. THE GIVEN ROWS OF THIS SEAT. 6 by the template 'for every input the law returns true; each argument reads behind the call as it read before'; 0 by the template 'total and deterministic' (their statements: Qxb6603898aTotals.lean).
  GIVEN WITH THE SEED: the statements are not yours to turn. If you find one false, say at which input.
  Laid BY PROGRAM, IN A SANDBOX (cutbox-rows.mjs): the forced cells as the released guide's own fill.sh prints them over the translation 89fa25b50771f396… (all of the seat's roots in one cut). By AI agents, Wed Nov 11 2026. No macro, syntax, notation, axiom, sorry.
-/
import Derived.Test.Qxb6603898aChecked
import GoSem.Claim
import GoSem.ClaimJoined
import GoSem.ClaimMapViews
import Derived.JoinedTies
import Derived.KernelRfl
namespace Go.Proofs.Qxb6603898a
/- THE CELL 'sum', in the pinned program and in every row, IS THE sha256 OF THE DUMP (.gsa) THAT Qxb6603898aProg.lean LOADS. Nothing in Lean hashes anything: it is a label: what it is worth is what the hold of that sum in a sandbox is worth. -/
noncomputable def Try.pinned : Pinned := { name := "qxb6603898a", sum := "89fa25b50771f396d849336be0acea776f5b244863bea658317aa17568f7b62f", checked := Try.checked }
namespace Rows
def none {H : Type} : Left H := { results := [], args := [] }

/-- 'zzlaws_root_b1.FnValueEndMatchesModel': WHATEVER THE INPUT: true; the input reads as it did. -/
def fnValueEndMatchesModelSpec : ChangeSpec := { name := "fnValueEndMatchesModel", fn := fun _ => fun
  | [d1, d2] => { results := [.lit (.bool true)], args := [d1, d2] }
  | _ => none }
def fnValueEndMatchesModelRow : OpenClaim := { program := "qxb6603898a", sum := "89fa25b50771f396d849336be0acea776f5b244863bea658317aa17568f7b62f", func := "example.com/gaugewire/gaugewire/zzlaws_root_b1.FnValueEndMatchesModel", spec := "fnValueEndMatchesModel", apart := false }
def FnValueEndMatchesModelSaid : Prop := fnValueEndMatchesModelRow.holds Try.pinned (OpenSpec.ofChange fnValueEndMatchesModelSpec)

/-- ITS FALSE NEIGHBOUR: 'it returns false'. Refute it at one input. -/
def fnValueEndMatchesModelWrong : ChangeSpec := { name := "fnValueEndMatchesModel", fn := fun _ => fun
  | [d1, d2] => { results := [.lit (.bool false)], args := [d1, d2] }
  | _ => none }
def FnValueEndMatchesModelWrongFalsely : Prop := fnValueEndMatchesModelRow.holds Try.pinned (OpenSpec.ofChange fnValueEndMatchesModelWrong)

/-- 'zzlaws_root_b1.FnValueEndTruncationKeepsEnd': WHATEVER THE INPUT: true; the input reads as it did. -/
def fnValueEndTruncationKeepsEndSpec : ChangeSpec := { name := "fnValueEndTruncationKeepsEnd", fn := fun _ => fun
  | [d1, d2] => { results := [.lit (.bool true)], args := [d1, d2] }
  | _ => none }
def fnValueEndTruncationKeepsEndRow : OpenClaim := { program := "qxb6603898a", sum := "89fa25b50771f396d849336be0acea776f5b244863bea658317aa17568f7b62f", func := "example.com/gaugewire/gaugewire/zzlaws_root_b1.FnValueEndTruncationKeepsEnd", spec := "fnValueEndTruncationKeepsEnd", apart := false }
def FnValueEndTruncationKeepsEndSaid : Prop := fnValueEndTruncationKeepsEndRow.holds Try.pinned (OpenSpec.ofChange fnValueEndTruncationKeepsEndSpec)

/-- ITS FALSE NEIGHBOUR: 'it returns false'. Refute it at one input. -/
def fnValueEndTruncationKeepsEndWrong : ChangeSpec := { name := "fnValueEndTruncationKeepsEnd", fn := fun _ => fun
  | [d1, d2] => { results := [.lit (.bool false)], args := [d1, d2] }
  | _ => none }
def FnValueEndTruncationKeepsEndWrongFalsely : Prop := fnValueEndTruncationKeepsEndRow.holds Try.pinned (OpenSpec.ofChange fnValueEndTruncationKeepsEndWrong)

/-- 'zzlaws_root_b1.FnShapeOfMatchesModel': WHATEVER THE INPUT: true; the input reads as it did. -/
def fnShapeOfMatchesModelSpec : ChangeSpec := { name := "fnShapeOfMatchesModel", fn := fun _ => fun
  | [d] => { results := [.lit (.bool true)], args := [d] }
  | _ => none }
def fnShapeOfMatchesModelRow : OpenClaim := { program := "qxb6603898a", sum := "89fa25b50771f396d849336be0acea776f5b244863bea658317aa17568f7b62f", func := "example.com/gaugewire/gaugewire/zzlaws_root_b1.FnShapeOfMatchesModel", spec := "fnShapeOfMatchesModel", apart := false }
def FnShapeOfMatchesModelSaid : Prop := fnShapeOfMatchesModelRow.holds Try.pinned (OpenSpec.ofChange fnShapeOfMatchesModelSpec)

/-- ITS FALSE NEIGHBOUR: 'it returns false'. Refute it at one input. -/
def fnShapeOfMatchesModelWrong : ChangeSpec := { name := "fnShapeOfMatchesModel", fn := fun _ => fun
  | [d] => { results := [.lit (.bool false)], args := [d] }
  | _ => none }
def FnShapeOfMatchesModelWrongFalsely : Prop := fnShapeOfMatchesModelRow.holds Try.pinned (OpenSpec.ofChange fnShapeOfMatchesModelWrong)

/-- 'zzlaws_root_b1.FnNameStringExtendsByOneProperty': WHATEVER THE INPUT: true; the input reads as it did. -/
def fnNameStringExtendsByOnePropertySpec : ChangeSpec := { name := "fnNameStringExtendsByOneProperty", fn := fun _ => fun
  | [d1, d2] => { results := [.lit (.bool true)], args := [d1, d2] }
  | _ => none }
def fnNameStringExtendsByOnePropertyRow : OpenClaim := { program := "qxb6603898a", sum := "89fa25b50771f396d849336be0acea776f5b244863bea658317aa17568f7b62f", func := "example.com/gaugewire/gaugewire/zzlaws_root_b1.FnNameStringExtendsByOneProperty", spec := "fnNameStringExtendsByOneProperty", inPlace := ["internal/abi.NoEscape"], apart := false }
def FnNameStringExtendsByOnePropertySaid : Prop := fnNameStringExtendsByOnePropertyRow.holds Try.pinned (OpenSpec.ofChange fnNameStringExtendsByOnePropertySpec)

/-- ITS FALSE NEIGHBOUR: 'it returns false'. Refute it at one input. -/
def fnNameStringExtendsByOnePropertyWrong : ChangeSpec := { name := "fnNameStringExtendsByOneProperty", fn := fun _ => fun
  | [d1, d2] => { results := [.lit (.bool false)], args := [d1, d2] }
  | _ => none }
def FnNameStringExtendsByOnePropertyWrongFalsely : Prop := fnNameStringExtendsByOnePropertyRow.holds Try.pinned (OpenSpec.ofChange fnNameStringExtendsByOnePropertyWrong)

/-- 'zzlaws_root_b1.FnNameStringKeepsEveryByte': WHATEVER THE INPUT: true; the input reads as it did. -/
def fnNameStringKeepsEveryByteSpec : ChangeSpec := { name := "fnNameStringKeepsEveryByte", fn := fun _ => fun
  | [d1, d2] => { results := [.lit (.bool true)], args := [d1, d2] }
  | _ => none }
def fnNameStringKeepsEveryByteRow : OpenClaim := { program := "qxb6603898a", sum := "89fa25b50771f396d849336be0acea776f5b244863bea658317aa17568f7b62f", func := "example.com/gaugewire/gaugewire/zzlaws_root_b1.FnNameStringKeepsEveryByte", spec := "fnNameStringKeepsEveryByte", inPlace := ["internal/abi.NoEscape"], apart := false }
def FnNameStringKeepsEveryByteSaid : Prop := fnNameStringKeepsEveryByteRow.holds Try.pinned (OpenSpec.ofChange fnNameStringKeepsEveryByteSpec)

/-- ITS FALSE NEIGHBOUR: 'it returns false'. Refute it at one input. -/
def fnNameStringKeepsEveryByteWrong : ChangeSpec := { name := "fnNameStringKeepsEveryByte", fn := fun _ => fun
  | [d1, d2] => { results := [.lit (.bool false)], args := [d1, d2] }
  | _ => none }
def FnNameStringKeepsEveryByteWrongFalsely : Prop := fnNameStringKeepsEveryByteRow.holds Try.pinned (OpenSpec.ofChange fnNameStringKeepsEveryByteWrong)

/-- 'zzlaws_root_b1.FnNameStringReadsBack': WHATEVER THE INPUT: true; the input reads as it did. -/
def fnNameStringReadsBackSpec : ChangeSpec := { name := "fnNameStringReadsBack", fn := fun _ => fun
  | [d1, d2] => { results := [.lit (.bool true)], args := [d1, d2] }
  | _ => none }
def fnNameStringReadsBackRow : OpenClaim := { program := "qxb6603898a", sum := "89fa25b50771f396d849336be0acea776f5b244863bea658317aa17568f7b62f", func := "example.com/gaugewire/gaugewire/zzlaws_root_b1.FnNameStringReadsBack", spec := "fnNameStringReadsBack", inPlace := ["internal/abi.NoEscape"], apart := false }
def FnNameStringReadsBackSaid : Prop := fnNameStringReadsBackRow.holds Try.pinned (OpenSpec.ofChange fnNameStringReadsBackSpec)

/-- ITS FALSE NEIGHBOUR: 'it returns false'. Refute it at one input. -/
def fnNameStringReadsBackWrong : ChangeSpec := { name := "fnNameStringReadsBack", fn := fun _ => fun
  | [d1, d2] => { results := [.lit (.bool false)], args := [d1, d2] }
  | _ => none }
def FnNameStringReadsBackWrongFalsely : Prop := fnNameStringReadsBackRow.holds Try.pinned (OpenSpec.ofChange fnNameStringReadsBackWrong)

end Rows
end Go.Proofs.Qxb6603898a
