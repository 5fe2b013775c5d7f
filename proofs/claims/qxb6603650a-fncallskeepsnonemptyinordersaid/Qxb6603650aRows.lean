/-
  No cell of these rows narrows 'for every input' (looked for: loops, veiled, ifaces, maps, wideKeys, modest, calm, conditions, laid).
  DERIVED. THE GIVEN ROWS OF THIS SEAT. 3 by the template 'for every input the law returns true; each argument reads behind the call as it read before'; 0 by the template 'total and deterministic' (their statements: Qxb6603650aTotals.lean).
  GIVEN WITH THE SEED: the statements are not yours to turn. If you find one false, say at which input.
  Laid BY PROGRAM, IN A SANDBOX (cutbox-rows.mjs): the forced cells as the released guide's own fill.sh prints them over the translation f9480e1a240d7457… (all of the seat's roots in one cut). By AI agents, Wed Nov 11 2026. No macro, syntax, notation, axiom, sorry.
-/
import Derived.Test.Qxb6603650aChecked
import GoSem.Claim
import GoSem.ClaimJoined
import GoSem.ClaimMapViews
import Derived.JoinedTies
import Derived.KernelRfl
namespace Go.Proofs.Qxb6603650a
/- THE CELL 'sum', in the pinned program and in every row, IS THE sha256 OF THE DUMP (.gsa) THAT Qxb6603650aProg.lean LOADS. Nothing in Lean hashes anything: it is a label: what it is worth is what the hold of that sum in a sandbox is worth. -/
noncomputable def Try.pinned : Pinned := { name := "qxb6603650a", sum := "f9480e1a240d74577200d5983019b3ca3e2192cc5ea214ae9a4c377ba134367e", checked := Try.checked }
namespace Rows
def none {H : Type} : Left H := { results := [], args := [] }

/-- 'zzlaws_root_b1.FnUnregisteredTableInjective': WHATEVER THE INPUT: true; the input reads as it did. -/
def fnUnregisteredTableInjectiveSpec : ChangeSpec := { name := "fnUnregisteredTableInjective", fn := fun _ => fun
  | [d1, d2] => { results := [.lit (.bool true)], args := [d1, d2] }
  | _ => none }
def fnUnregisteredTableInjectiveRow : OpenClaim := { program := "qxb6603650a", sum := "f9480e1a240d74577200d5983019b3ca3e2192cc5ea214ae9a4c377ba134367e", func := "example.com/tryfence/tryfence/zzlaws_root_b1.FnUnregisteredTableInjective", spec := "fnUnregisteredTableInjective", apart := false }
def FnUnregisteredTableInjectiveSaid : Prop := fnUnregisteredTableInjectiveRow.holds Try.pinned (OpenSpec.ofChange fnUnregisteredTableInjectiveSpec)

/-- ITS FALSE NEIGHBOUR: 'it returns false'. Refute it at one input. -/
def fnUnregisteredTableInjectiveWrong : ChangeSpec := { name := "fnUnregisteredTableInjective", fn := fun _ => fun
  | [d1, d2] => { results := [.lit (.bool false)], args := [d1, d2] }
  | _ => none }
def FnUnregisteredTableInjectiveWrongFalsely : Prop := fnUnregisteredTableInjectiveRow.holds Try.pinned (OpenSpec.ofChange fnUnregisteredTableInjectiveWrong)

/-- 'zzlaws_root_b1.FnCallsKeepsNonEmptyInOrder': WHATEVER THE INPUT: true; the input reads as it did. -/
def fnCallsKeepsNonEmptyInOrderSpec : ChangeSpec := { name := "fnCallsKeepsNonEmptyInOrder", fn := fun _ => fun
  | [d1, d2, d3, d4, d5] => { results := [.lit (.bool true)], args := [d1, d2, d3, d4, d5] }
  | _ => none }
def fnCallsKeepsNonEmptyInOrderRow : OpenClaim := { program := "qxb6603650a", sum := "f9480e1a240d74577200d5983019b3ca3e2192cc5ea214ae9a4c377ba134367e", func := "example.com/tryfence/tryfence/zzlaws_root_b1.FnCallsKeepsNonEmptyInOrder", spec := "fnCallsKeepsNonEmptyInOrder", unfollowed := true, recurses := true, apart := false }
def FnCallsKeepsNonEmptyInOrderSaid : Prop := fnCallsKeepsNonEmptyInOrderRow.holds Try.pinned (OpenSpec.ofChange fnCallsKeepsNonEmptyInOrderSpec)

/-- ITS FALSE NEIGHBOUR: 'it returns false'. Refute it at one input. -/
def fnCallsKeepsNonEmptyInOrderWrong : ChangeSpec := { name := "fnCallsKeepsNonEmptyInOrder", fn := fun _ => fun
  | [d1, d2, d3, d4, d5] => { results := [.lit (.bool false)], args := [d1, d2, d3, d4, d5] }
  | _ => none }
def FnCallsKeepsNonEmptyInOrderWrongFalsely : Prop := fnCallsKeepsNonEmptyInOrderRow.holds Try.pinned (OpenSpec.ofChange fnCallsKeepsNonEmptyInOrderWrong)

/-- 'zzlaws_root_b1.FnCallsConcatAndCount': WHATEVER THE INPUT: true; the input reads as it did. -/
def fnCallsConcatAndCountSpec : ChangeSpec := { name := "fnCallsConcatAndCount", fn := fun _ => fun
  | [d1, d2, d3, d4, d5] => { results := [.lit (.bool true)], args := [d1, d2, d3, d4, d5] }
  | _ => none }
def fnCallsConcatAndCountRow : OpenClaim := { program := "qxb6603650a", sum := "f9480e1a240d74577200d5983019b3ca3e2192cc5ea214ae9a4c377ba134367e", func := "example.com/tryfence/tryfence/zzlaws_root_b1.FnCallsConcatAndCount", spec := "fnCallsConcatAndCount", unfollowed := true, recurses := true, apart := false }
def FnCallsConcatAndCountSaid : Prop := fnCallsConcatAndCountRow.holds Try.pinned (OpenSpec.ofChange fnCallsConcatAndCountSpec)

/-- ITS FALSE NEIGHBOUR: 'it returns false'. Refute it at one input. -/
def fnCallsConcatAndCountWrong : ChangeSpec := { name := "fnCallsConcatAndCount", fn := fun _ => fun
  | [d1, d2, d3, d4, d5] => { results := [.lit (.bool false)], args := [d1, d2, d3, d4, d5] }
  | _ => none }
def FnCallsConcatAndCountWrongFalsely : Prop := fnCallsConcatAndCountRow.holds Try.pinned (OpenSpec.ofChange fnCallsConcatAndCountWrong)

end Rows
end Go.Proofs.Qxb6603650a
