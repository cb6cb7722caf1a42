/-
  No cell of these rows narrows 'for every input' (looked for: loops, veiled, ifaces, maps, wideKeys, modest, calm, conditions, laid).
  DERIVED. THE GIVEN ROWS OF THIS SEAT. 1 by the template 'for every input the law returns true; each argument reads behind the call as it read before'; 0 by the template 'total and deterministic' (their statements: Qxb6603897aTotals.lean).
  GIVEN WITH THE SEED: the statements are not yours to turn. If you find one false, say at which input.
  Laid BY PROGRAM, IN A SANDBOX (cutbox-rows.mjs): the forced cells as the released guide's own fill.sh prints them over the translation ab32a4c6c885acaa… (all of the seat's roots in one cut). By AI agents, Wed Nov 11 2026. No macro, syntax, notation, axiom, sorry.
-/
import Derived.Test.Qxb6603897aChecked
import GoSem.Claim
import GoSem.ClaimJoined
import GoSem.ClaimMapViews
import Derived.JoinedTies
import Derived.KernelRfl
namespace Go.Proofs.Qxb6603897a
/- THE CELL 'sum', in the pinned program and in every row, IS THE sha256 OF THE DUMP (.gsa) THAT Qxb6603897aProg.lean LOADS. Nothing in Lean hashes anything: it is a label: what it is worth is what the hold of that sum in a sandbox is worth. -/
noncomputable def Try.pinned : Pinned := { name := "qxb6603897a", sum := "ab32a4c6c885acaa428662247928529cb39a47c5aa45f0fbc1fe7288c9b3f6ea", checked := Try.checked }
namespace Rows
def none {H : Type} : Left H := { results := [], args := [] }

/-- 'zzlaws_question_b1.FnCountedWhole': WHATEVER THE INPUT: true; the input reads as it did. -/
def fnCountedWholeSpec : ChangeSpec := { name := "fnCountedWhole", fn := fun _ => fun
  | [d1, d2, d3, d4, d5] => { results := [.lit (.bool true)], args := [d1, d2, d3, d4, d5] }
  | _ => none }
def fnCountedWholeRow : OpenClaim := { program := "qxb6603897a", sum := "ab32a4c6c885acaa428662247928529cb39a47c5aa45f0fbc1fe7288c9b3f6ea", func := "example.com/askback/askback/zzlaws_question_b1.FnCountedWhole", spec := "fnCountedWhole", apart := false }
def FnCountedWholeSaid : Prop := fnCountedWholeRow.holds Try.pinned (OpenSpec.ofChange fnCountedWholeSpec)

/-- ITS FALSE NEIGHBOUR: 'it returns false'. Refute it at one input. -/
def fnCountedWholeWrong : ChangeSpec := { name := "fnCountedWhole", fn := fun _ => fun
  | [d1, d2, d3, d4, d5] => { results := [.lit (.bool false)], args := [d1, d2, d3, d4, d5] }
  | _ => none }
def FnCountedWholeWrongFalsely : Prop := fnCountedWholeRow.holds Try.pinned (OpenSpec.ofChange fnCountedWholeWrong)

end Rows
end Go.Proofs.Qxb6603897a
