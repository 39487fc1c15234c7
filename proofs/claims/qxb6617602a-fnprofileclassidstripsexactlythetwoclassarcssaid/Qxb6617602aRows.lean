/-
  No cell of these rows narrows 'for every input' (looked for: loops, veiled, ifaces, maps, wideKeys, modest, calm, conditions, laid).
  DERIVED. THE GIVEN ROWS OF THIS SEAT. 1 by the template 'for every input the law returns true; each argument reads behind the call as it read before'; 0 by the template 'total and deterministic' (their statements: Qxb6617602aTotals.lean).
  GIVEN WITH THE SEED: the statements are not yours to turn. If you find one false, say at which input.
  Laid BY PROGRAM, IN A SANDBOX (cutbox-rows.mjs): the forced cells as the released guide's own fill.sh prints them over the translation b98250cc32534ac6… (all of the seat's roots in one cut). By AI agents, Wed Nov 11 2026. No macro, syntax, notation, axiom, sorry.
-/
import Derived.Test.Qxb6617602aChecked
import GoSem.Claim
import GoSem.ClaimJoined
import GoSem.ClaimMapViews
import Derived.JoinedTies
import Derived.KernelRfl
namespace Go.Proofs.Qxb6617602a
/- THE CELL 'sum', in the pinned program and in every row, IS THE sha256 OF THE DUMP (.gsa) THAT Qxb6617602aProg.lean LOADS. Nothing in Lean hashes anything: it is a label: what it is worth is what the hold of that sum in a sandbox is worth. -/
noncomputable def Try.pinned : Pinned := { name := "qxb6617602a", sum := "b98250cc32534ac61003d625b996a75fddd5bcffdc2153f6d02b618b6a146b9f", checked := Try.checked }
namespace Rows
def none {H : Type} : Left H := { results := [], args := [] }

/-- 'zzlaws_root_b1.FnProfileClassIDStripsExactlyTheTwoClassArcs': WHATEVER THE INPUT: true; the input reads as it did. -/
def fnProfileClassIDStripsExactlyTheTwoClassArcsSpec : ChangeSpec := { name := "fnProfileClassIDStripsExactlyTheTwoClassArcs", fn := fun _ => fun
  | [d] => { results := [.lit (.bool true)], args := [d] }
  | _ => none }
def fnProfileClassIDStripsExactlyTheTwoClassArcsRow : OpenClaim := { program := "qxb6617602a", sum := "b98250cc32534ac61003d625b996a75fddd5bcffdc2153f6d02b618b6a146b9f", func := "example.com/praisal/praisal/zzlaws_root_b1.FnProfileClassIDStripsExactlyTheTwoClassArcs", spec := "fnProfileClassIDStripsExactlyTheTwoClassArcs", apart := false }
def FnProfileClassIDStripsExactlyTheTwoClassArcsSaid : Prop := fnProfileClassIDStripsExactlyTheTwoClassArcsRow.holds Try.pinned (OpenSpec.ofChange fnProfileClassIDStripsExactlyTheTwoClassArcsSpec)

/-- ITS FALSE NEIGHBOUR: 'it returns false'. Refute it at one input. -/
def fnProfileClassIDStripsExactlyTheTwoClassArcsWrong : ChangeSpec := { name := "fnProfileClassIDStripsExactlyTheTwoClassArcs", fn := fun _ => fun
  | [d] => { results := [.lit (.bool false)], args := [d] }
  | _ => none }
def FnProfileClassIDStripsExactlyTheTwoClassArcsWrongFalsely : Prop := fnProfileClassIDStripsExactlyTheTwoClassArcsRow.holds Try.pinned (OpenSpec.ofChange fnProfileClassIDStripsExactlyTheTwoClassArcsWrong)

end Rows
end Go.Proofs.Qxb6617602a
