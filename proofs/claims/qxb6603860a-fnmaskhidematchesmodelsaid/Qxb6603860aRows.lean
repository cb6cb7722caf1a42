/-
  No cell of these rows narrows 'for every input' (looked for: loops, veiled, ifaces, maps, wideKeys, modest, calm, conditions, laid).
  DERIVED. THE GIVEN ROWS OF THIS SEAT. 1 by the template 'for every input the law returns true; each argument reads behind the call as it read before'; 0 by the template 'total and deterministic' (their statements: Qxb6603860aTotals.lean).
  GIVEN WITH THE SEED: the statements are not yours to turn. If you find one false, say at which input.
  Laid BY PROGRAM, IN A SANDBOX (cutbox-rows.mjs): the forced cells as the released guide's own fill.sh prints them over the translation 3ea4e921016221ff… (all of the seat's roots in one cut). By AI agents, Wed Nov 11 2026. No macro, syntax, notation, axiom, sorry.
-/
import Derived.Test.Qxb6603860aChecked
import GoSem.Claim
import GoSem.ClaimJoined
import GoSem.ClaimMapViews
import Derived.JoinedTies
import Derived.KernelRfl
namespace Go.Proofs.Qxb6603860a
/- THE CELL 'sum', in the pinned program and in every row, IS THE sha256 OF THE DUMP (.gsa) THAT Qxb6603860aProg.lean LOADS. Nothing in Lean hashes anything: it is a label: what it is worth is what the hold of that sum in a sandbox is worth. -/
noncomputable def Try.pinned : Pinned := { name := "qxb6603860a", sum := "3ea4e921016221ff1c6e727a9dd6a434c17d3befcbae6912509e58b7fa0a67b0", checked := Try.checked }
namespace Rows
def none {H : Type} : Left H := { results := [], args := [] }

/-- 'zzlaws_internal_connection_b1.FnMaskHideMatchesModel': WHATEVER THE INPUT: true; the input reads as it did. -/
def fnMaskHideMatchesModelSpec : ChangeSpec := { name := "fnMaskHideMatchesModel", fn := fun _ => fun
  | [d1, d2, d3] => { results := [.lit (.bool true)], args := [d1, d2, d3] }
  | _ => none }
def fnMaskHideMatchesModelRow : OpenClaim := { program := "qxb6603860a", sum := "3ea4e921016221ff1c6e727a9dd6a434c17d3befcbae6912509e58b7fa0a67b0", func := "example.com/bellwether/bellwether/zzlaws_internal_connection_b1.FnMaskHideMatchesModel", spec := "fnMaskHideMatchesModel", inPlace := ["internal/abi.NoEscape"], apart := false }
def FnMaskHideMatchesModelSaid : Prop := fnMaskHideMatchesModelRow.holds Try.pinned (OpenSpec.ofChange fnMaskHideMatchesModelSpec)

/-- ITS FALSE NEIGHBOUR: 'it returns false'. Refute it at one input. -/
def fnMaskHideMatchesModelWrong : ChangeSpec := { name := "fnMaskHideMatchesModel", fn := fun _ => fun
  | [d1, d2, d3] => { results := [.lit (.bool false)], args := [d1, d2, d3] }
  | _ => none }
def FnMaskHideMatchesModelWrongFalsely : Prop := fnMaskHideMatchesModelRow.holds Try.pinned (OpenSpec.ofChange fnMaskHideMatchesModelWrong)

end Rows
end Go.Proofs.Qxb6603860a
