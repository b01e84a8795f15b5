/-
  No cell of these rows narrows 'for every input' (looked for: loops, veiled, ifaces, maps, wideKeys, modest, calm, conditions, laid).
  DERIVED. THE GIVEN ROWS OF THIS SEAT. 4 by the template 'for every input the law returns true; each argument reads behind the call as it read before'; 0 by the template 'total and deterministic' (their statements: Qxb6615933aTotals.lean).
  GIVEN WITH THE SEED: the statements are not yours to turn. If you find one false, say at which input.
  Laid BY PROGRAM, IN A SANDBOX (cutbox-rows.mjs): the forced cells as the released guide's own fill.sh prints them over the translation e26821989632699b… (all of the seat's roots in one cut). By AI agents, Wed Nov 11 2026. No macro, syntax, notation, axiom, sorry.
-/
import Derived.Test.Qxb6615933aChecked
import GoSem.Claim
import GoSem.ClaimJoined
import GoSem.ClaimMapViews
import Derived.JoinedTies
import Derived.KernelRfl
namespace Go.Proofs.Qxb6615933a
/- THE CELL 'sum', in the pinned program and in every row, IS THE sha256 OF THE DUMP (.gsa) THAT Qxb6615933aProg.lean LOADS. Nothing in Lean hashes anything: it is a label: what it is worth is what the hold of that sum in a sandbox is worth. -/
noncomputable def Try.pinned : Pinned := { name := "qxb6615933a", sum := "e26821989632699bdd96f858e8a9a0e669db27924bc76e52a468e72466de06c4", checked := Try.checked }
namespace Rows
def none {H : Type} : Left H := { results := [], args := [] }

/-- 'zzlaws_validation_b1.FnFailureUnwrapWalksChain': WHATEVER THE INPUT: true; the input reads as it did. -/
def fnFailureUnwrapWalksChainSpec : ChangeSpec := { name := "fnFailureUnwrapWalksChain", fn := fun _ => fun
  | [d1, d2] => { results := [.lit (.bool true)], args := [d1, d2] }
  | _ => none }
def fnFailureUnwrapWalksChainRow : OpenClaim := { program := "qxb6615933a", sum := "e26821989632699bdd96f858e8a9a0e669db27924bc76e52a468e72466de06c4", func := "example.com/pointfree/pointfree/zzlaws_validation_b1.FnFailureUnwrapWalksChain", spec := "fnFailureUnwrapWalksChain", apart := false }
def FnFailureUnwrapWalksChainSaid : Prop := fnFailureUnwrapWalksChainRow.holds Try.pinned (OpenSpec.ofChange fnFailureUnwrapWalksChainSpec)

/-- ITS FALSE NEIGHBOUR: 'it returns false'. Refute it at one input. -/
def fnFailureUnwrapWalksChainWrong : ChangeSpec := { name := "fnFailureUnwrapWalksChain", fn := fun _ => fun
  | [d1, d2] => { results := [.lit (.bool false)], args := [d1, d2] }
  | _ => none }
def FnFailureUnwrapWalksChainWrongFalsely : Prop := fnFailureUnwrapWalksChainRow.holds Try.pinned (OpenSpec.ofChange fnFailureUnwrapWalksChainWrong)

/-- 'zzlaws_validation_b1.FnFailuresUnwrapAndListAgree': WHATEVER THE INPUT: true; the input reads as it did. -/
def fnFailuresUnwrapAndListAgreeSpec : ChangeSpec := { name := "fnFailuresUnwrapAndListAgree", fn := fun _ => fun
  | [d1, d2] => { results := [.lit (.bool true)], args := [d1, d2] }
  | _ => none }
def fnFailuresUnwrapAndListAgreeRow : OpenClaim := { program := "qxb6615933a", sum := "e26821989632699bdd96f858e8a9a0e669db27924bc76e52a468e72466de06c4", func := "example.com/pointfree/pointfree/zzlaws_validation_b1.FnFailuresUnwrapAndListAgree", spec := "fnFailuresUnwrapAndListAgree", apart := false }
def FnFailuresUnwrapAndListAgreeSaid : Prop := fnFailuresUnwrapAndListAgreeRow.holds Try.pinned (OpenSpec.ofChange fnFailuresUnwrapAndListAgreeSpec)

/-- ITS FALSE NEIGHBOUR: 'it returns false'. Refute it at one input. -/
def fnFailuresUnwrapAndListAgreeWrong : ChangeSpec := { name := "fnFailuresUnwrapAndListAgree", fn := fun _ => fun
  | [d1, d2] => { results := [.lit (.bool false)], args := [d1, d2] }
  | _ => none }
def FnFailuresUnwrapAndListAgreeWrongFalsely : Prop := fnFailuresUnwrapAndListAgreeRow.holds Try.pinned (OpenSpec.ofChange fnFailuresUnwrapAndListAgreeWrong)

/-- 'zzlaws_validation_b1.FnFailuresListIsFreshEachCall': WHATEVER THE INPUT: true; the input reads as it did. -/
def fnFailuresListIsFreshEachCallSpec : ChangeSpec := { name := "fnFailuresListIsFreshEachCall", fn := fun _ => fun
  | [d1, d2] => { results := [.lit (.bool true)], args := [d1, d2] }
  | _ => none }
def fnFailuresListIsFreshEachCallRow : OpenClaim := { program := "qxb6615933a", sum := "e26821989632699bdd96f858e8a9a0e669db27924bc76e52a468e72466de06c4", func := "example.com/pointfree/pointfree/zzlaws_validation_b1.FnFailuresListIsFreshEachCall", spec := "fnFailuresListIsFreshEachCall", apart := false }
def FnFailuresListIsFreshEachCallSaid : Prop := fnFailuresListIsFreshEachCallRow.holds Try.pinned (OpenSpec.ofChange fnFailuresListIsFreshEachCallSpec)

/-- ITS FALSE NEIGHBOUR: 'it returns false'. Refute it at one input. -/
def fnFailuresListIsFreshEachCallWrong : ChangeSpec := { name := "fnFailuresListIsFreshEachCall", fn := fun _ => fun
  | [d1, d2] => { results := [.lit (.bool false)], args := [d1, d2] }
  | _ => none }
def FnFailuresListIsFreshEachCallWrongFalsely : Prop := fnFailuresListIsFreshEachCallRow.holds Try.pinned (OpenSpec.ofChange fnFailuresListIsFreshEachCallWrong)

/-- 'zzlaws_validation_b1.FnFailureUnwrapGivesWrappedCause': WHATEVER THE INPUT: true; the input reads as it did. -/
def fnFailureUnwrapGivesWrappedCauseSpec : ChangeSpec := { name := "fnFailureUnwrapGivesWrappedCause", fn := fun _ => fun
  | [d1, d2] => { results := [.lit (.bool true)], args := [d1, d2] }
  | _ => none }
def fnFailureUnwrapGivesWrappedCauseRow : OpenClaim := { program := "qxb6615933a", sum := "e26821989632699bdd96f858e8a9a0e669db27924bc76e52a468e72466de06c4", func := "example.com/pointfree/pointfree/zzlaws_validation_b1.FnFailureUnwrapGivesWrappedCause", spec := "fnFailureUnwrapGivesWrappedCause", apart := false }
def FnFailureUnwrapGivesWrappedCauseSaid : Prop := fnFailureUnwrapGivesWrappedCauseRow.holds Try.pinned (OpenSpec.ofChange fnFailureUnwrapGivesWrappedCauseSpec)

/-- ITS FALSE NEIGHBOUR: 'it returns false'. Refute it at one input. -/
def fnFailureUnwrapGivesWrappedCauseWrong : ChangeSpec := { name := "fnFailureUnwrapGivesWrappedCause", fn := fun _ => fun
  | [d1, d2] => { results := [.lit (.bool false)], args := [d1, d2] }
  | _ => none }
def FnFailureUnwrapGivesWrappedCauseWrongFalsely : Prop := fnFailureUnwrapGivesWrappedCauseRow.holds Try.pinned (OpenSpec.ofChange fnFailureUnwrapGivesWrappedCauseWrong)

end Rows
end Go.Proofs.Qxb6615933a
