/-
  No cell of these rows narrows 'for every input' (looked for: loops, veiled, ifaces, maps, wideKeys, modest, calm, conditions, laid).
  DERIVED. THE GIVEN ROWS OF THIS SEAT. 2 by the template 'for every input the law returns true; each argument reads behind the call as it read before'; 0 by the template 'total and deterministic' (their statements: Qxb6617627aTotals.lean).
  GIVEN WITH THE SEED: the statements are not yours to turn. If you find one false, say at which input.
  Laid BY PROGRAM, IN A SANDBOX (cutbox-rows.mjs): the forced cells as the released guide's own fill.sh prints them over the translation 60cafd803fba6082… (all of the seat's roots in one cut). By AI agents, Wed Nov 11 2026. No macro, syntax, notation, axiom, sorry.
-/
import Derived.Test.Qxb6617627aChecked
import GoSem.Claim
import GoSem.ClaimJoined
import GoSem.ClaimMapViews
import Derived.JoinedTies
import Derived.KernelRfl
namespace Go.Proofs.Qxb6617627a
/- THE CELL 'sum', in the pinned program and in every row, IS THE sha256 OF THE DUMP (.gsa) THAT Qxb6617627aProg.lean LOADS. Nothing in Lean hashes anything: it is a label: what it is worth is what the hold of that sum in a sandbox is worth. -/
noncomputable def Try.pinned : Pinned := { name := "qxb6617627a", sum := "60cafd803fba60828dfaaac8ebfab8102d48926486d4fd8769bc130eb2332979", checked := Try.checked }
namespace Rows
def none {H : Type} : Left H := { results := [], args := [] }

/-- 'zzlaws_root_b1.FnAppendFieldReadsBack': WHATEVER THE INPUT: true; the input reads as it did. -/
def fnAppendFieldReadsBackSpec : ChangeSpec := { name := "fnAppendFieldReadsBack", fn := fun _ => fun
  | [d1, d2, d3, d4, d5, d6] => { results := [.lit (.bool true)], args := [d1, d2, d3, d4, d5, d6] }
  | _ => none }
def fnAppendFieldReadsBackRow : OpenClaim := { program := "qxb6617627a", sum := "60cafd803fba60828dfaaac8ebfab8102d48926486d4fd8769bc130eb2332979", func := "example.com/bytestitch/bytestitch/zzlaws_root_b1.FnAppendFieldReadsBack", spec := "fnAppendFieldReadsBack", apart := false }
def FnAppendFieldReadsBackSaid : Prop := fnAppendFieldReadsBackRow.holds Try.pinned (OpenSpec.ofChange fnAppendFieldReadsBackSpec)

/-- ITS FALSE NEIGHBOUR: 'it returns false'. Refute it at one input. -/
def fnAppendFieldReadsBackWrong : ChangeSpec := { name := "fnAppendFieldReadsBack", fn := fun _ => fun
  | [d1, d2, d3, d4, d5, d6] => { results := [.lit (.bool false)], args := [d1, d2, d3, d4, d5, d6] }
  | _ => none }
def FnAppendFieldReadsBackWrongFalsely : Prop := fnAppendFieldReadsBackRow.holds Try.pinned (OpenSpec.ofChange fnAppendFieldReadsBackWrong)

/-- 'zzlaws_root_b1.FnAppendFieldByteOrders': WHATEVER THE INPUT: true; the input reads as it did. -/
def fnAppendFieldByteOrdersSpec : ChangeSpec := { name := "fnAppendFieldByteOrders", fn := fun _ => fun
  | [d1, d2, d3, d4, d5] => { results := [.lit (.bool true)], args := [d1, d2, d3, d4, d5] }
  | _ => none }
def fnAppendFieldByteOrdersRow : OpenClaim := { program := "qxb6617627a", sum := "60cafd803fba60828dfaaac8ebfab8102d48926486d4fd8769bc130eb2332979", func := "example.com/bytestitch/bytestitch/zzlaws_root_b1.FnAppendFieldByteOrders", spec := "fnAppendFieldByteOrders", apart := false }
def FnAppendFieldByteOrdersSaid : Prop := fnAppendFieldByteOrdersRow.holds Try.pinned (OpenSpec.ofChange fnAppendFieldByteOrdersSpec)

/-- ITS FALSE NEIGHBOUR: 'it returns false'. Refute it at one input. -/
def fnAppendFieldByteOrdersWrong : ChangeSpec := { name := "fnAppendFieldByteOrders", fn := fun _ => fun
  | [d1, d2, d3, d4, d5] => { results := [.lit (.bool false)], args := [d1, d2, d3, d4, d5] }
  | _ => none }
def FnAppendFieldByteOrdersWrongFalsely : Prop := fnAppendFieldByteOrdersRow.holds Try.pinned (OpenSpec.ofChange fnAppendFieldByteOrdersWrong)

end Rows
end Go.Proofs.Qxb6617627a
