/-
  No cell of these rows narrows 'for every input' (looked for: loops, veiled, ifaces, maps, wideKeys, modest, calm, conditions, laid).
  DERIVED. THE GIVEN ROWS OF THIS SEAT. 2 by the template 'for every input the law returns true; each argument reads behind the call as it read before'; 0 by the template 'total and deterministic' (their statements: Qxb6613843aTotals.lean).
  GIVEN WITH THE SEED: the statements are not yours to turn. If you find one false, say at which input.
  Laid BY PROGRAM, IN A SANDBOX (cutbox-rows.mjs): the forced cells as the released guide's own fill.sh prints them over the translation d54a89ee2d81e97b… (all of the seat's roots in one cut). By AI agents, Wed Nov 11 2026. No macro, syntax, notation, axiom, sorry.
-/
import Derived.Test.Qxb6613843aChecked
import GoSem.Claim
import GoSem.ClaimJoined
import GoSem.ClaimMapViews
import Derived.JoinedTies
import Derived.KernelRfl
namespace Go.Proofs.Qxb6613843a
/- THE CELL 'sum', in the pinned program and in every row, IS THE sha256 OF THE DUMP (.gsa) THAT Qxb6613843aProg.lean LOADS. Nothing in Lean hashes anything: it is a label: what it is worth is what the hold of that sum in a sandbox is worth. -/
noncomputable def Try.pinned : Pinned := { name := "qxb6613843a", sum := "d54a89ee2d81e97b27cb8daaf2f9e68b68e681f2ba3e2a97162516c76cdaab96", checked := Try.checked }
namespace Rows
def none {H : Type} : Left H := { results := [], args := [] }

/-- 'zzlaws_internal_screen_b1.FnHistoryAtDropOldest': WHATEVER THE INPUT: true; the input reads as it did. -/
def fnHistoryAtDropOldestSpec : ChangeSpec := { name := "fnHistoryAtDropOldest", fn := fun _ => fun
  | [d1, d2, d3, d4, d5, d6] => { results := [.lit (.bool true)], args := [d1, d2, d3, d4, d5, d6] }
  | _ => none }
def fnHistoryAtDropOldestRow : OpenClaim := { program := "qxb6613843a", sum := "d54a89ee2d81e97b27cb8daaf2f9e68b68e681f2ba3e2a97162516c76cdaab96", func := "example.com/sideband/sideband/zzlaws_internal_screen_b1.FnHistoryAtDropOldest", spec := "fnHistoryAtDropOldest", apart := false }
def FnHistoryAtDropOldestSaid : Prop := fnHistoryAtDropOldestRow.holds Try.pinned (OpenSpec.ofChange fnHistoryAtDropOldestSpec)

/-- ITS FALSE NEIGHBOUR: 'it returns false'. Refute it at one input. -/
def fnHistoryAtDropOldestWrong : ChangeSpec := { name := "fnHistoryAtDropOldest", fn := fun _ => fun
  | [d1, d2, d3, d4, d5, d6] => { results := [.lit (.bool false)], args := [d1, d2, d3, d4, d5, d6] }
  | _ => none }
def FnHistoryAtDropOldestWrongFalsely : Prop := fnHistoryAtDropOldestRow.holds Try.pinned (OpenSpec.ofChange fnHistoryAtDropOldestWrong)

/-- 'zzlaws_internal_screen_b1.FnHistoryAtDistinctSlots': WHATEVER THE INPUT: true; the input reads as it did. -/
def fnHistoryAtDistinctSlotsSpec : ChangeSpec := { name := "fnHistoryAtDistinctSlots", fn := fun _ => fun
  | [d1, d2, d3, d4, d5, d6] => { results := [.lit (.bool true)], args := [d1, d2, d3, d4, d5, d6] }
  | _ => none }
def fnHistoryAtDistinctSlotsRow : OpenClaim := { program := "qxb6613843a", sum := "d54a89ee2d81e97b27cb8daaf2f9e68b68e681f2ba3e2a97162516c76cdaab96", func := "example.com/sideband/sideband/zzlaws_internal_screen_b1.FnHistoryAtDistinctSlots", spec := "fnHistoryAtDistinctSlots", apart := false }
def FnHistoryAtDistinctSlotsSaid : Prop := fnHistoryAtDistinctSlotsRow.holds Try.pinned (OpenSpec.ofChange fnHistoryAtDistinctSlotsSpec)

/-- ITS FALSE NEIGHBOUR: 'it returns false'. Refute it at one input. -/
def fnHistoryAtDistinctSlotsWrong : ChangeSpec := { name := "fnHistoryAtDistinctSlots", fn := fun _ => fun
  | [d1, d2, d3, d4, d5, d6] => { results := [.lit (.bool false)], args := [d1, d2, d3, d4, d5, d6] }
  | _ => none }
def FnHistoryAtDistinctSlotsWrongFalsely : Prop := fnHistoryAtDistinctSlotsRow.holds Try.pinned (OpenSpec.ofChange fnHistoryAtDistinctSlotsWrong)

end Rows
end Go.Proofs.Qxb6613843a
