/-
  No cell of these rows narrows 'for every input' (looked for: loops, veiled, ifaces, maps, wideKeys, modest, calm, conditions, laid).
  DERIVED. THE GIVEN ROWS OF THIS SEAT. 1 by the template 'for every input the law returns true; each argument reads behind the call as it read before'; 0 by the template 'total and deterministic' (their statements: Qxb6615211aTotals.lean).
  GIVEN WITH THE SEED: the statements are not yours to turn. If you find one false, say at which input.
  Laid BY PROGRAM, IN A SANDBOX (cutbox-rows.mjs): the forced cells as the released guide's own fill.sh prints them over the translation cf87e2af6ad38479… (all of the seat's roots in one cut). By AI agents, Wed Nov 11 2026. No macro, syntax, notation, axiom, sorry.
-/
import Derived.Test.Qxb6615211aChecked
import GoSem.Claim
import GoSem.ClaimJoined
import GoSem.ClaimMapViews
import Derived.JoinedTies
import Derived.KernelRfl
namespace Go.Proofs.Qxb6615211a
/- THE CELL 'sum', in the pinned program and in every row, IS THE sha256 OF THE DUMP (.gsa) THAT Qxb6615211aProg.lean LOADS. Nothing in Lean hashes anything: it is a label: what it is worth is what the hold of that sum in a sandbox is worth. -/
noncomputable def Try.pinned : Pinned := { name := "qxb6615211a", sum := "cf87e2af6ad38479c646dde9d430dd57989a9860248966f9eb1dc517f0f312c1", checked := Try.checked }
namespace Rows
def none {H : Type} : Left H := { results := [], args := [] }

/-- 'zzlaws_pkg_rulebook_b1.FnBetweenPicksOpenCutNearestMiddle': WHATEVER THE INPUT: true; the input reads as it did. -/
def fnBetweenPicksOpenCutNearestMiddleSpec : ChangeSpec := { name := "fnBetweenPicksOpenCutNearestMiddle", fn := fun _ => fun
  | [d1, d2, d3, d4] => { results := [.lit (.bool true)], args := [d1, d2, d3, d4] }
  | _ => none }
def fnBetweenPicksOpenCutNearestMiddleRow : OpenClaim := { program := "qxb6615211a", sum := "cf87e2af6ad38479c646dde9d430dd57989a9860248966f9eb1dc517f0f312c1", func := "example.com/fundwarden/fundwarden/zzlaws_pkg_rulebook_b1.FnBetweenPicksOpenCutNearestMiddle", spec := "fnBetweenPicksOpenCutNearestMiddle", unfollowed := true, recurses := true, apart := false }
def FnBetweenPicksOpenCutNearestMiddleSaid : Prop := fnBetweenPicksOpenCutNearestMiddleRow.holds Try.pinned (OpenSpec.ofChange fnBetweenPicksOpenCutNearestMiddleSpec)

/-- ITS FALSE NEIGHBOUR: 'it returns false'. Refute it at one input. -/
def fnBetweenPicksOpenCutNearestMiddleWrong : ChangeSpec := { name := "fnBetweenPicksOpenCutNearestMiddle", fn := fun _ => fun
  | [d1, d2, d3, d4] => { results := [.lit (.bool false)], args := [d1, d2, d3, d4] }
  | _ => none }
def FnBetweenPicksOpenCutNearestMiddleWrongFalsely : Prop := fnBetweenPicksOpenCutNearestMiddleRow.holds Try.pinned (OpenSpec.ofChange fnBetweenPicksOpenCutNearestMiddleWrong)

end Rows
end Go.Proofs.Qxb6615211a
