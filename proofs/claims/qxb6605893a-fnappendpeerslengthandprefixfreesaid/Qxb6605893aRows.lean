/-
  No cell of these rows narrows 'for every input' (looked for: loops, veiled, ifaces, maps, wideKeys, modest, calm, conditions, laid).
  DERIVED. THE GIVEN ROWS OF THIS SEAT. 3 by the template 'for every input the law returns true; each argument reads behind the call as it read before'; 0 by the template 'total and deterministic' (their statements: Qxb6605893aTotals.lean).
  GIVEN WITH THE SEED: the statements are not yours to turn. If you find one false, say at which input.
  Laid BY PROGRAM, IN A SANDBOX (cutbox-rows.mjs): the forced cells as the released guide's own fill.sh prints them over the translation bfa033a34bf6de05… (all of the seat's roots in one cut). By AI agents, Wed Nov 11 2026. No macro, syntax, notation, axiom, sorry.
-/
import Derived.Test.Qxb6605893aChecked
import GoSem.Claim
import GoSem.ClaimJoined
import GoSem.ClaimMapViews
import Derived.JoinedTies
import Derived.KernelRfl
namespace Go.Proofs.Qxb6605893a
/- THE CELL 'sum', in the pinned program and in every row, IS THE sha256 OF THE DUMP (.gsa) THAT Qxb6605893aProg.lean LOADS. Nothing in Lean hashes anything: it is a label: what it is worth is what the hold of that sum in a sandbox is worth. -/
noncomputable def Try.pinned : Pinned := { name := "qxb6605893a", sum := "bfa033a34bf6de05abafd99261deed4af2c6e0814bd1d5c911987d9536ba083b", checked := Try.checked }
namespace Rows
def none {H : Type} : Left H := { results := [], args := [] }

/-- 'zzlaws_root_b1.FnSpanJoinCoversTAndAbsorbs': WHATEVER THE INPUT: true; the input reads as it did. -/
def fnSpanJoinCoversTAndAbsorbsSpec : ChangeSpec := { name := "fnSpanJoinCoversTAndAbsorbs", fn := fun _ => fun
  | [d1, d2, d3, d4] => { results := [.lit (.bool true)], args := [d1, d2, d3, d4] }
  | _ => none }
def fnSpanJoinCoversTAndAbsorbsRow : OpenClaim := { program := "qxb6605893a", sum := "bfa033a34bf6de05abafd99261deed4af2c6e0814bd1d5c911987d9536ba083b", func := "example.com/quorate/quorate/zzlaws_root_b1.FnSpanJoinCoversTAndAbsorbs", spec := "fnSpanJoinCoversTAndAbsorbs", apart := false }
def FnSpanJoinCoversTAndAbsorbsSaid : Prop := fnSpanJoinCoversTAndAbsorbsRow.holds Try.pinned (OpenSpec.ofChange fnSpanJoinCoversTAndAbsorbsSpec)

/-- ITS FALSE NEIGHBOUR: 'it returns false'. Refute it at one input. -/
def fnSpanJoinCoversTAndAbsorbsWrong : ChangeSpec := { name := "fnSpanJoinCoversTAndAbsorbs", fn := fun _ => fun
  | [d1, d2, d3, d4] => { results := [.lit (.bool false)], args := [d1, d2, d3, d4] }
  | _ => none }
def FnSpanJoinCoversTAndAbsorbsWrongFalsely : Prop := fnSpanJoinCoversTAndAbsorbsRow.holds Try.pinned (OpenSpec.ofChange fnSpanJoinCoversTAndAbsorbsWrong)

/-- 'zzlaws_root_b1.FnAppendPeersDecodesBack': WHATEVER THE INPUT: true; the input reads as it did. -/
def fnAppendPeersDecodesBackSpec : ChangeSpec := { name := "fnAppendPeersDecodesBack", fn := fun _ => fun
  | [d1, d2] => { results := [.lit (.bool true)], args := [d1, d2] }
  | _ => none }
def fnAppendPeersDecodesBackRow : OpenClaim := { program := "qxb6605893a", sum := "bfa033a34bf6de05abafd99261deed4af2c6e0814bd1d5c911987d9536ba083b", func := "example.com/quorate/quorate/zzlaws_root_b1.FnAppendPeersDecodesBack", spec := "fnAppendPeersDecodesBack", apart := false }
def FnAppendPeersDecodesBackSaid : Prop := fnAppendPeersDecodesBackRow.holds Try.pinned (OpenSpec.ofChange fnAppendPeersDecodesBackSpec)

/-- ITS FALSE NEIGHBOUR: 'it returns false'. Refute it at one input. -/
def fnAppendPeersDecodesBackWrong : ChangeSpec := { name := "fnAppendPeersDecodesBack", fn := fun _ => fun
  | [d1, d2] => { results := [.lit (.bool false)], args := [d1, d2] }
  | _ => none }
def FnAppendPeersDecodesBackWrongFalsely : Prop := fnAppendPeersDecodesBackRow.holds Try.pinned (OpenSpec.ofChange fnAppendPeersDecodesBackWrong)

/-- 'zzlaws_root_b1.FnAppendPeersLengthAndPrefixFree': WHATEVER THE INPUT: true; the input reads as it did. -/
def fnAppendPeersLengthAndPrefixFreeSpec : ChangeSpec := { name := "fnAppendPeersLengthAndPrefixFree", fn := fun _ => fun
  | [d1, d2] => { results := [.lit (.bool true)], args := [d1, d2] }
  | _ => none }
def fnAppendPeersLengthAndPrefixFreeRow : OpenClaim := { program := "qxb6605893a", sum := "bfa033a34bf6de05abafd99261deed4af2c6e0814bd1d5c911987d9536ba083b", func := "example.com/quorate/quorate/zzlaws_root_b1.FnAppendPeersLengthAndPrefixFree", spec := "fnAppendPeersLengthAndPrefixFree", apart := false }
def FnAppendPeersLengthAndPrefixFreeSaid : Prop := fnAppendPeersLengthAndPrefixFreeRow.holds Try.pinned (OpenSpec.ofChange fnAppendPeersLengthAndPrefixFreeSpec)

/-- ITS FALSE NEIGHBOUR: 'it returns false'. Refute it at one input. -/
def fnAppendPeersLengthAndPrefixFreeWrong : ChangeSpec := { name := "fnAppendPeersLengthAndPrefixFree", fn := fun _ => fun
  | [d1, d2] => { results := [.lit (.bool false)], args := [d1, d2] }
  | _ => none }
def FnAppendPeersLengthAndPrefixFreeWrongFalsely : Prop := fnAppendPeersLengthAndPrefixFreeRow.holds Try.pinned (OpenSpec.ofChange fnAppendPeersLengthAndPrefixFreeWrong)

end Rows
end Go.Proofs.Qxb6605893a
