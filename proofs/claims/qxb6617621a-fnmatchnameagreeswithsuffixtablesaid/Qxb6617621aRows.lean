/-
  No cell of these rows narrows 'for every input' (looked for: loops, veiled, ifaces, maps, wideKeys, modest, calm, conditions, laid).
  DERIVED. THE GIVEN ROWS OF THIS SEAT. 1 by the template 'for every input the law returns true; each argument reads behind the call as it read before'; 0 by the template 'total and deterministic' (their statements: Qxb6617621aTotals.lean).
  GIVEN WITH THE SEED: the statements are not yours to turn. If you find one false, say at which input.
  Laid BY PROGRAM, IN A SANDBOX (cutbox-rows.mjs): the forced cells as the released guide's own fill.sh prints them over the translation cce44ced994cdb43… (all of the seat's roots in one cut). By AI agents, Wed Nov 11 2026. No macro, syntax, notation, axiom, sorry.
-/
import Derived.Test.Qxb6617621aChecked
import GoSem.Claim
import GoSem.ClaimJoined
import GoSem.ClaimMapViews
import Derived.JoinedTies
import Derived.KernelRfl
namespace Go.Proofs.Qxb6617621a
/- THE CELL 'sum', in the pinned program and in every row, IS THE sha256 OF THE DUMP (.gsa) THAT Qxb6617621aProg.lean LOADS. Nothing in Lean hashes anything: it is a label: what it is worth is what the hold of that sum in a sandbox is worth. -/
noncomputable def Try.pinned : Pinned := { name := "qxb6617621a", sum := "cce44ced994cdb43f18acde0b97ef8d644356908ba5509774b8433d044983a40", checked := Try.checked }
namespace Rows
def none {H : Type} : Left H := { results := [], args := [] }

/-- 'zzlaws_pkg_ignore_b1.FnMatchNameAgreesWithSuffixTable': WHATEVER THE INPUT: true; the input reads as it did. -/
def fnMatchNameAgreesWithSuffixTableSpec : ChangeSpec := { name := "fnMatchNameAgreesWithSuffixTable", fn := fun _ => fun
  | [d1, d2] => { results := [.lit (.bool true)], args := [d1, d2] }
  | _ => none }
def fnMatchNameAgreesWithSuffixTableRow : OpenClaim := { program := "qxb6617621a", sum := "cce44ced994cdb43f18acde0b97ef8d644356908ba5509774b8433d044983a40", func := "example.com/sealtide/sealtide/zzlaws_pkg_ignore_b1.FnMatchNameAgreesWithSuffixTable", spec := "fnMatchNameAgreesWithSuffixTable", unfollowed := true, recurses := true, apart := false }
def FnMatchNameAgreesWithSuffixTableSaid : Prop := fnMatchNameAgreesWithSuffixTableRow.holds Try.pinned (OpenSpec.ofChange fnMatchNameAgreesWithSuffixTableSpec)

/-- ITS FALSE NEIGHBOUR: 'it returns false'. Refute it at one input. -/
def fnMatchNameAgreesWithSuffixTableWrong : ChangeSpec := { name := "fnMatchNameAgreesWithSuffixTable", fn := fun _ => fun
  | [d1, d2] => { results := [.lit (.bool false)], args := [d1, d2] }
  | _ => none }
def FnMatchNameAgreesWithSuffixTableWrongFalsely : Prop := fnMatchNameAgreesWithSuffixTableRow.holds Try.pinned (OpenSpec.ofChange fnMatchNameAgreesWithSuffixTableWrong)

end Rows
end Go.Proofs.Qxb6617621a
