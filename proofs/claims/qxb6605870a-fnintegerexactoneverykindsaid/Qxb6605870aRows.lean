/-
  No cell of these rows narrows 'for every input' (looked for: loops, veiled, ifaces, maps, wideKeys, modest, calm, conditions, laid).
  DERIVED. THE GIVEN ROWS OF THIS SEAT. 1 by the template 'for every input the law returns true; each argument reads behind the call as it read before'; 0 by the template 'total and deterministic' (their statements: Qxb6605870aTotals.lean).
  GIVEN WITH THE SEED: the statements are not yours to turn. If you find one false, say at which input.
  Laid BY PROGRAM, IN A SANDBOX (cutbox-rows.mjs): the forced cells as the released guide's own fill.sh prints them over the translation d2738981b0620e97… (all of the seat's roots in one cut). By AI agents, Wed Nov 11 2026. No macro, syntax, notation, axiom, sorry.
-/
import Derived.Test.Qxb6605870aChecked
import GoSem.Claim
import GoSem.ClaimJoined
import GoSem.ClaimMapViews
import Derived.JoinedTies
import Derived.KernelRfl
namespace Go.Proofs.Qxb6605870a
/- THE CELL 'sum', in the pinned program and in every row, IS THE sha256 OF THE DUMP (.gsa) THAT Qxb6605870aProg.lean LOADS. Nothing in Lean hashes anything: it is a label: what it is worth is what the hold of that sum in a sandbox is worth. -/
noncomputable def Try.pinned : Pinned := { name := "qxb6605870a", sum := "d2738981b0620e97badee3884209b83879d3a6cbefb6397716c3e7aa4d6e001e", checked := Try.checked }
namespace Rows
def none {H : Type} : Left H := { results := [], args := [] }

/-- 'zzlaws_internal_amqp_b1.FnIntegerExactOnEveryKind': WHATEVER THE INPUT: true; the input reads as it did. -/
def fnIntegerExactOnEveryKindSpec : ChangeSpec := { name := "fnIntegerExactOnEveryKind", fn := fun _ => fun
  | [d1, d2, d3, d4, d5, d6, d7, d8, d9, d10, d11, d12] => { results := [.lit (.bool true)], args := [d1, d2, d3, d4, d5, d6, d7, d8, d9, d10, d11, d12] }
  | _ => none }
def fnIntegerExactOnEveryKindRow : OpenClaim := { program := "qxb6605870a", sum := "d2738981b0620e97badee3884209b83879d3a6cbefb6397716c3e7aa4d6e001e", func := "example.com/quorumline/quorumline/zzlaws_internal_amqp_b1.FnIntegerExactOnEveryKind", spec := "fnIntegerExactOnEveryKind", apart := false }
def FnIntegerExactOnEveryKindSaid : Prop := fnIntegerExactOnEveryKindRow.holds Try.pinned (OpenSpec.ofChange fnIntegerExactOnEveryKindSpec)

/-- ITS FALSE NEIGHBOUR: 'it returns false'. Refute it at one input. -/
def fnIntegerExactOnEveryKindWrong : ChangeSpec := { name := "fnIntegerExactOnEveryKind", fn := fun _ => fun
  | [d1, d2, d3, d4, d5, d6, d7, d8, d9, d10, d11, d12] => { results := [.lit (.bool false)], args := [d1, d2, d3, d4, d5, d6, d7, d8, d9, d10, d11, d12] }
  | _ => none }
def FnIntegerExactOnEveryKindWrongFalsely : Prop := fnIntegerExactOnEveryKindRow.holds Try.pinned (OpenSpec.ofChange fnIntegerExactOnEveryKindWrong)

end Rows
end Go.Proofs.Qxb6605870a
