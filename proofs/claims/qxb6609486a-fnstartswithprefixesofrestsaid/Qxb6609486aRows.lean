/-
  No cell of these rows narrows 'for every input' (looked for: loops, veiled, ifaces, maps, wideKeys, modest, calm, conditions, laid).
  DERIVED. THE GIVEN ROWS OF THIS SEAT. 2 by the template 'for every input the law returns true; each argument reads behind the call as it read before'; 0 by the template 'total and deterministic' (their statements: Qxb6609486aTotals.lean).
  GIVEN WITH THE SEED: the statements are not yours to turn. If you find one false, say at which input.
  Laid BY PROGRAM, IN A SANDBOX (cutbox-rows.mjs): the forced cells as the released guide's own fill.sh prints them over the translation 5c3b284b57a112c3… (all of the seat's roots in one cut). By AI agents, Wed Nov 11 2026. No macro, syntax, notation, axiom, sorry.
-/
import Derived.Test.Qxb6609486aChecked
import GoSem.Claim
import GoSem.ClaimJoined
import GoSem.ClaimMapViews
import Derived.JoinedTies
import Derived.KernelRfl
namespace Go.Proofs.Qxb6609486a
/- THE CELL 'sum', in the pinned program and in every row, IS THE sha256 OF THE DUMP (.gsa) THAT Qxb6609486aProg.lean LOADS. Nothing in Lean hashes anything: it is a label: what it is worth is what the hold of that sum in a sandbox is worth. -/
noncomputable def Try.pinned : Pinned := { name := "qxb6609486a", sum := "5c3b284b57a112c32c5f4123fff1b513177175366aa7fe470359a7f4c5360e63", checked := Try.checked }
namespace Rows
def none {H : Type} : Left H := { results := [], args := [] }

/-- 'zzlaws_root_b1.FnIsTabLeadingTabs': WHATEVER THE INPUT: true; the input reads as it did. -/
def fnIsTabLeadingTabsSpec : ChangeSpec := { name := "fnIsTabLeadingTabs", fn := fun _ => fun
  | [d] => { results := [.lit (.bool true)], args := [d] }
  | _ => none }
def fnIsTabLeadingTabsRow : OpenClaim := { program := "qxb6609486a", sum := "5c3b284b57a112c32c5f4123fff1b513177175366aa7fe470359a7f4c5360e63", func := "example.com/nestanza/nestanza/zzlaws_root_b1.FnIsTabLeadingTabs", spec := "fnIsTabLeadingTabs", unfollowed := true, recurses := true, plainKeys := false, apart := false }
def FnIsTabLeadingTabsSaid : Prop := fnIsTabLeadingTabsRow.holds Try.pinned (OpenSpec.ofChange fnIsTabLeadingTabsSpec)

/-- ITS FALSE NEIGHBOUR: 'it returns false'. Refute it at one input. -/
def fnIsTabLeadingTabsWrong : ChangeSpec := { name := "fnIsTabLeadingTabs", fn := fun _ => fun
  | [d] => { results := [.lit (.bool false)], args := [d] }
  | _ => none }
def FnIsTabLeadingTabsWrongFalsely : Prop := fnIsTabLeadingTabsRow.holds Try.pinned (OpenSpec.ofChange fnIsTabLeadingTabsWrong)

/-- 'zzlaws_root_b1.FnStartsWithPrefixesOfRest': WHATEVER THE INPUT: true; the input reads as it did. -/
def fnStartsWithPrefixesOfRestSpec : ChangeSpec := { name := "fnStartsWithPrefixesOfRest", fn := fun _ => fun
  | [d1, d2, d3] => { results := [.lit (.bool true)], args := [d1, d2, d3] }
  | _ => none }
def fnStartsWithPrefixesOfRestRow : OpenClaim := { program := "qxb6609486a", sum := "5c3b284b57a112c32c5f4123fff1b513177175366aa7fe470359a7f4c5360e63", func := "example.com/nestanza/nestanza/zzlaws_root_b1.FnStartsWithPrefixesOfRest", spec := "fnStartsWithPrefixesOfRest", plainKeys := false, apart := false }
def FnStartsWithPrefixesOfRestSaid : Prop := fnStartsWithPrefixesOfRestRow.holds Try.pinned (OpenSpec.ofChange fnStartsWithPrefixesOfRestSpec)

/-- ITS FALSE NEIGHBOUR: 'it returns false'. Refute it at one input. -/
def fnStartsWithPrefixesOfRestWrong : ChangeSpec := { name := "fnStartsWithPrefixesOfRest", fn := fun _ => fun
  | [d1, d2, d3] => { results := [.lit (.bool false)], args := [d1, d2, d3] }
  | _ => none }
def FnStartsWithPrefixesOfRestWrongFalsely : Prop := fnStartsWithPrefixesOfRestRow.holds Try.pinned (OpenSpec.ofChange fnStartsWithPrefixesOfRestWrong)

end Rows
end Go.Proofs.Qxb6609486a
