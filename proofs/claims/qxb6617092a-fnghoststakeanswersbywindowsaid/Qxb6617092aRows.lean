/-
  No cell of these rows narrows 'for every input' (looked for: loops, veiled, ifaces, maps, wideKeys, modest, calm, conditions, laid).
  DERIVED. THE GIVEN ROWS OF THIS SEAT. 2 by the template 'for every input the law returns true; each argument reads behind the call as it read before'; 0 by the template 'total and deterministic' (their statements: Qxb6617092aTotals.lean).
  GIVEN WITH THE SEED: the statements are not yours to turn. If you find one false, say at which input.
  Laid BY PROGRAM, IN A SANDBOX (cutbox-rows.mjs): the forced cells as the released guide's own fill.sh prints them over the translation 55889c2ac13b9c47… (all of the seat's roots in one cut). By AI agents, Wed Nov 11 2026. No macro, syntax, notation, axiom, sorry.
-/
import Derived.Test.Qxb6617092aChecked
import GoSem.Claim
import GoSem.ClaimJoined
import GoSem.ClaimMapViews
import Derived.JoinedTies
import Derived.KernelRfl
namespace Go.Proofs.Qxb6617092a
/- THE CELL 'sum', in the pinned program and in every row, IS THE sha256 OF THE DUMP (.gsa) THAT Qxb6617092aProg.lean LOADS. Nothing in Lean hashes anything: it is a label: what it is worth is what the hold of that sum in a sandbox is worth. -/
noncomputable def Try.pinned : Pinned := { name := "qxb6617092a", sum := "55889c2ac13b9c477590dfaf67ece9bd97ae875356d1d1c2b964fbb6f0e80f21", checked := Try.checked }
namespace Rows
def none {H : Type} : Left H := { results := [], args := [] }

/-- 'zzlaws_internal_core_b1.FnGhostsAddKeepsLastWindow': WHATEVER THE INPUT: true; the input reads as it did. -/
def fnGhostsAddKeepsLastWindowSpec : ChangeSpec := { name := "fnGhostsAddKeepsLastWindow", fn := fun _ => fun
  | [d] => { results := [.lit (.bool true)], args := [d] }
  | _ => none }
def fnGhostsAddKeepsLastWindowRow : OpenClaim := { program := "qxb6617092a", sum := "55889c2ac13b9c477590dfaf67ece9bd97ae875356d1d1c2b964fbb6f0e80f21", func := "example.com/stalewell/stalewell/zzlaws_internal_core_b1.FnGhostsAddKeepsLastWindow", spec := "fnGhostsAddKeepsLastWindow", apart := false }
def FnGhostsAddKeepsLastWindowSaid : Prop := fnGhostsAddKeepsLastWindowRow.holds Try.pinned (OpenSpec.ofChange fnGhostsAddKeepsLastWindowSpec)

/-- ITS FALSE NEIGHBOUR: 'it returns false'. Refute it at one input. -/
def fnGhostsAddKeepsLastWindowWrong : ChangeSpec := { name := "fnGhostsAddKeepsLastWindow", fn := fun _ => fun
  | [d] => { results := [.lit (.bool false)], args := [d] }
  | _ => none }
def FnGhostsAddKeepsLastWindowWrongFalsely : Prop := fnGhostsAddKeepsLastWindowRow.holds Try.pinned (OpenSpec.ofChange fnGhostsAddKeepsLastWindowWrong)

/-- 'zzlaws_internal_core_b1.FnGhostsTakeAnswersByWindow': WHATEVER THE INPUT: true; the input reads as it did. -/
def fnGhostsTakeAnswersByWindowSpec : ChangeSpec := { name := "fnGhostsTakeAnswersByWindow", fn := fun _ => fun
  | [d] => { results := [.lit (.bool true)], args := [d] }
  | _ => none }
def fnGhostsTakeAnswersByWindowRow : OpenClaim := { program := "qxb6617092a", sum := "55889c2ac13b9c477590dfaf67ece9bd97ae875356d1d1c2b964fbb6f0e80f21", func := "example.com/stalewell/stalewell/zzlaws_internal_core_b1.FnGhostsTakeAnswersByWindow", spec := "fnGhostsTakeAnswersByWindow", apart := false }
def FnGhostsTakeAnswersByWindowSaid : Prop := fnGhostsTakeAnswersByWindowRow.holds Try.pinned (OpenSpec.ofChange fnGhostsTakeAnswersByWindowSpec)

/-- ITS FALSE NEIGHBOUR: 'it returns false'. Refute it at one input. -/
def fnGhostsTakeAnswersByWindowWrong : ChangeSpec := { name := "fnGhostsTakeAnswersByWindow", fn := fun _ => fun
  | [d] => { results := [.lit (.bool false)], args := [d] }
  | _ => none }
def FnGhostsTakeAnswersByWindowWrongFalsely : Prop := fnGhostsTakeAnswersByWindowRow.holds Try.pinned (OpenSpec.ofChange fnGhostsTakeAnswersByWindowWrong)

end Rows
end Go.Proofs.Qxb6617092a
