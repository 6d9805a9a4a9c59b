/-
  No cell of these rows narrows 'for every input' (looked for: loops, veiled, ifaces, maps, wideKeys, modest, calm, conditions, laid).
  DERIVED. THE GIVEN ROWS OF THIS SEAT. 1 by the template 'for every input the law returns true; each argument reads behind the call as it read before'; 0 by the template 'total and deterministic' (their statements: Qxb6605807aTotals.lean).
  GIVEN WITH THE SEED: the statements are not yours to turn. If you find one false, say at which input.
  Laid BY PROGRAM, IN A SANDBOX (cutbox-rows.mjs): the forced cells as the released guide's own fill.sh prints them over the translation 2b2612f994b7106d… (all of the seat's roots in one cut). By AI agents, Wed Nov 11 2026. No macro, syntax, notation, axiom, sorry.
-/
import Derived.Test.Qxb6605807aChecked
import GoSem.Claim
import GoSem.ClaimJoined
import GoSem.ClaimMapViews
import Derived.JoinedTies
import Derived.KernelRfl
namespace Go.Proofs.Qxb6605807a
/- THE CELL 'sum', in the pinned program and in every row, IS THE sha256 OF THE DUMP (.gsa) THAT Qxb6605807aProg.lean LOADS. Nothing in Lean hashes anything: it is a label: what it is worth is what the hold of that sum in a sandbox is worth. -/
noncomputable def Try.pinned : Pinned := { name := "qxb6605807a", sum := "2b2612f994b7106dc65cf4c7fe2134514c86c58ef7e4846dd82173335e2531e2", checked := Try.checked }
namespace Rows
def none {H : Type} : Left H := { results := [], args := [] }

/-- 'zzlaws_internal_scalebook_b1.FnClosesToNarrowsAsTheDayMovesBack': WHATEVER THE INPUT: true; the input reads as it did. -/
def fnClosesToNarrowsAsTheDayMovesBackSpec : ChangeSpec := { name := "fnClosesToNarrowsAsTheDayMovesBack", fn := fun _ => fun
  | [d1, d2, d3] => { results := [.lit (.bool true)], args := [d1, d2, d3] }
  | _ => none }
def fnClosesToNarrowsAsTheDayMovesBackRow : OpenClaim := { program := "qxb6605807a", sum := "2b2612f994b7106dc65cf4c7fe2134514c86c58ef7e4846dd82173335e2531e2", func := "example.com/custodex/custodex/zzlaws_internal_scalebook_b1.FnClosesToNarrowsAsTheDayMovesBack", spec := "fnClosesToNarrowsAsTheDayMovesBack", plainKeys := false, apart := false }
def FnClosesToNarrowsAsTheDayMovesBackSaid : Prop := fnClosesToNarrowsAsTheDayMovesBackRow.holds Try.pinned (OpenSpec.ofChange fnClosesToNarrowsAsTheDayMovesBackSpec)

/-- ITS FALSE NEIGHBOUR: 'it returns false'. Refute it at one input. -/
def fnClosesToNarrowsAsTheDayMovesBackWrong : ChangeSpec := { name := "fnClosesToNarrowsAsTheDayMovesBack", fn := fun _ => fun
  | [d1, d2, d3] => { results := [.lit (.bool false)], args := [d1, d2, d3] }
  | _ => none }
def FnClosesToNarrowsAsTheDayMovesBackWrongFalsely : Prop := fnClosesToNarrowsAsTheDayMovesBackRow.holds Try.pinned (OpenSpec.ofChange fnClosesToNarrowsAsTheDayMovesBackWrong)

end Rows
end Go.Proofs.Qxb6605807a
