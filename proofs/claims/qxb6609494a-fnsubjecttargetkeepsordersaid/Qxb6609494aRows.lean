/-
  No cell of these rows narrows 'for every input' (looked for: loops, veiled, ifaces, maps, wideKeys, modest, calm, conditions, laid).
  DERIVED. THE GIVEN ROWS OF THIS SEAT. 1 by the template 'for every input the law returns true; each argument reads behind the call as it read before'; 0 by the template 'total and deterministic' (their statements: Qxb6609494aTotals.lean).
  GIVEN WITH THE SEED: the statements are not yours to turn. If you find one false, say at which input.
  Laid BY PROGRAM, IN A SANDBOX (cutbox-rows.mjs): the forced cells as the released guide's own fill.sh prints them over the translation d34665d9e4ff7da0… (all of the seat's roots in one cut). By AI agents, Wed Nov 11 2026. No macro, syntax, notation, axiom, sorry.
-/
import Derived.Test.Qxb6609494aChecked
import GoSem.Claim
import GoSem.ClaimJoined
import GoSem.ClaimMapViews
import Derived.JoinedTies
import Derived.KernelRfl
namespace Go.Proofs.Qxb6609494a
/- THE CELL 'sum', in the pinned program and in every row, IS THE sha256 OF THE DUMP (.gsa) THAT Qxb6609494aProg.lean LOADS. Nothing in Lean hashes anything: it is a label: what it is worth is what the hold of that sum in a sandbox is worth. -/
noncomputable def Try.pinned : Pinned := { name := "qxb6609494a", sum := "d34665d9e4ff7da034b715881f7af36ff33652ec6be8b609e95dfbd85c23e49a", checked := Try.checked }
namespace Rows
def none {H : Type} : Left H := { results := [], args := [] }

/-- 'zzlaws_internal_policy_b1.FnSubjectTargetKeepsOrder': WHATEVER THE INPUT: true; the input reads as it did. -/
def fnSubjectTargetKeepsOrderSpec : ChangeSpec := { name := "fnSubjectTargetKeepsOrder", fn := fun _ => fun
  | [d1, d2] => { results := [.lit (.bool true)], args := [d1, d2] }
  | _ => none }
def fnSubjectTargetKeepsOrderRow : OpenClaim := { program := "qxb6609494a", sum := "d34665d9e4ff7da034b715881f7af36ff33652ec6be8b609e95dfbd85c23e49a", func := "example.com/live-rbac/live-rbac/zzlaws_internal_policy_b1.FnSubjectTargetKeepsOrder", spec := "fnSubjectTargetKeepsOrder", apart := false }
def FnSubjectTargetKeepsOrderSaid : Prop := fnSubjectTargetKeepsOrderRow.holds Try.pinned (OpenSpec.ofChange fnSubjectTargetKeepsOrderSpec)

/-- ITS FALSE NEIGHBOUR: 'it returns false'. Refute it at one input. -/
def fnSubjectTargetKeepsOrderWrong : ChangeSpec := { name := "fnSubjectTargetKeepsOrder", fn := fun _ => fun
  | [d1, d2] => { results := [.lit (.bool false)], args := [d1, d2] }
  | _ => none }
def FnSubjectTargetKeepsOrderWrongFalsely : Prop := fnSubjectTargetKeepsOrderRow.holds Try.pinned (OpenSpec.ofChange fnSubjectTargetKeepsOrderWrong)

end Rows
end Go.Proofs.Qxb6609494a
