/-
  No cell of these rows narrows 'for every input' (looked for: loops, veiled, ifaces, maps, wideKeys, modest, calm, conditions, laid).
  DERIVED. THE GIVEN ROWS OF THIS SEAT. 3 by the template 'for every input the law returns true; each argument reads behind the call as it read before'; 0 by the template 'total and deterministic' (their statements: Qxb6603698aTotals.lean).
  GIVEN WITH THE SEED: the statements are not yours to turn. If you find one false, say at which input.
  Laid BY PROGRAM, IN A SANDBOX (cutbox-rows.mjs): the forced cells as the released guide's own fill.sh prints them over the translation 523d621300f70e25… (all of the seat's roots in one cut). By AI agents, Wed Nov 11 2026. No macro, syntax, notation, axiom, sorry.
-/
import Derived.Test.Qxb6603698aChecked
import GoSem.Claim
import GoSem.ClaimJoined
import GoSem.ClaimMapViews
import Derived.JoinedTies
import Derived.KernelRfl
namespace Go.Proofs.Qxb6603698a
/- THE CELL 'sum', in the pinned program and in every row, IS THE sha256 OF THE DUMP (.gsa) THAT Qxb6603698aProg.lean LOADS. Nothing in Lean hashes anything: it is a label: what it is worth is what the hold of that sum in a sandbox is worth. -/
noncomputable def Try.pinned : Pinned := { name := "qxb6603698a", sum := "523d621300f70e25d9aedb09ad53308d14118c91caa40284be2f6712a5f5b966", checked := Try.checked }
namespace Rows
def none {H : Type} : Left H := { results := [], args := [] }

/-- 'zzlaws_internal_hiding_b1.FnReachJoinsCodedIntoParts': WHATEVER THE INPUT: true; the input reads as it did. -/
def fnReachJoinsCodedIntoPartsSpec : ChangeSpec := { name := "fnReachJoinsCodedIntoParts", fn := fun _ => fun
  | [d1, d2, d3, d4, d5, d6] => { results := [.lit (.bool true)], args := [d1, d2, d3, d4, d5, d6] }
  | _ => none }
def fnReachJoinsCodedIntoPartsRow : OpenClaim := { program := "qxb6603698a", sum := "523d621300f70e25d9aedb09ad53308d14118c91caa40284be2f6712a5f5b966", func := "example.com/depthgate/depthgate/zzlaws_internal_hiding_b1.FnReachJoinsCodedIntoParts", spec := "fnReachJoinsCodedIntoParts", apart := false }
def FnReachJoinsCodedIntoPartsSaid : Prop := fnReachJoinsCodedIntoPartsRow.holds Try.pinned (OpenSpec.ofChange fnReachJoinsCodedIntoPartsSpec)

/-- ITS FALSE NEIGHBOUR: 'it returns false'. Refute it at one input. -/
def fnReachJoinsCodedIntoPartsWrong : ChangeSpec := { name := "fnReachJoinsCodedIntoParts", fn := fun _ => fun
  | [d1, d2, d3, d4, d5, d6] => { results := [.lit (.bool false)], args := [d1, d2, d3, d4, d5, d6] }
  | _ => none }
def FnReachJoinsCodedIntoPartsWrongFalsely : Prop := fnReachJoinsCodedIntoPartsRow.holds Try.pinned (OpenSpec.ofChange fnReachJoinsCodedIntoPartsWrong)

/-- 'zzlaws_internal_hiding_b1.FnNumberIsPreorderOfFailTree': WHATEVER THE INPUT: true; the input reads as it did. -/
def fnNumberIsPreorderOfFailTreeSpec : ChangeSpec := { name := "fnNumberIsPreorderOfFailTree", fn := fun _ => fun
  | [d1, d2] => { results := [.lit (.bool true)], args := [d1, d2] }
  | _ => none }
def fnNumberIsPreorderOfFailTreeRow : OpenClaim := { program := "qxb6603698a", sum := "523d621300f70e25d9aedb09ad53308d14118c91caa40284be2f6712a5f5b966", func := "example.com/depthgate/depthgate/zzlaws_internal_hiding_b1.FnNumberIsPreorderOfFailTree", spec := "fnNumberIsPreorderOfFailTree", apart := false }
def FnNumberIsPreorderOfFailTreeSaid : Prop := fnNumberIsPreorderOfFailTreeRow.holds Try.pinned (OpenSpec.ofChange fnNumberIsPreorderOfFailTreeSpec)

/-- ITS FALSE NEIGHBOUR: 'it returns false'. Refute it at one input. -/
def fnNumberIsPreorderOfFailTreeWrong : ChangeSpec := { name := "fnNumberIsPreorderOfFailTree", fn := fun _ => fun
  | [d1, d2] => { results := [.lit (.bool false)], args := [d1, d2] }
  | _ => none }
def FnNumberIsPreorderOfFailTreeWrongFalsely : Prop := fnNumberIsPreorderOfFailTreeRow.holds Try.pinned (OpenSpec.ofChange fnNumberIsPreorderOfFailTreeWrong)

/-- 'zzlaws_internal_hiding_b1.FnNumberIntervalsNestBySubtree': WHATEVER THE INPUT: true; the input reads as it did. -/
def fnNumberIntervalsNestBySubtreeSpec : ChangeSpec := { name := "fnNumberIntervalsNestBySubtree", fn := fun _ => fun
  | [d1, d2] => { results := [.lit (.bool true)], args := [d1, d2] }
  | _ => none }
def fnNumberIntervalsNestBySubtreeRow : OpenClaim := { program := "qxb6603698a", sum := "523d621300f70e25d9aedb09ad53308d14118c91caa40284be2f6712a5f5b966", func := "example.com/depthgate/depthgate/zzlaws_internal_hiding_b1.FnNumberIntervalsNestBySubtree", spec := "fnNumberIntervalsNestBySubtree", apart := false }
def FnNumberIntervalsNestBySubtreeSaid : Prop := fnNumberIntervalsNestBySubtreeRow.holds Try.pinned (OpenSpec.ofChange fnNumberIntervalsNestBySubtreeSpec)

/-- ITS FALSE NEIGHBOUR: 'it returns false'. Refute it at one input. -/
def fnNumberIntervalsNestBySubtreeWrong : ChangeSpec := { name := "fnNumberIntervalsNestBySubtree", fn := fun _ => fun
  | [d1, d2] => { results := [.lit (.bool false)], args := [d1, d2] }
  | _ => none }
def FnNumberIntervalsNestBySubtreeWrongFalsely : Prop := fnNumberIntervalsNestBySubtreeRow.holds Try.pinned (OpenSpec.ofChange fnNumberIntervalsNestBySubtreeWrong)

end Rows
end Go.Proofs.Qxb6603698a
