/-
  No cell of these rows narrows 'for every input' (looked for: loops, veiled, ifaces, maps, wideKeys, modest, calm, conditions, laid).
  DERIVED. THE GIVEN ROWS OF THIS SEAT. 2 by the template 'for every input the law returns true; each argument reads behind the call as it read before'; 0 by the template 'total and deterministic' (their statements: Qxb6614834aTotals.lean).
  GIVEN WITH THE SEED: the statements are not yours to turn. If you find one false, say at which input.
  Laid BY PROGRAM, IN A SANDBOX (cutbox-rows.mjs): the forced cells as the released guide's own fill.sh prints them over the translation a69dfa62f3885f72… (all of the seat's roots in one cut). By AI agents, Wed Nov 11 2026. No macro, syntax, notation, axiom, sorry.
-/
import Derived.Test.Qxb6614834aChecked
import GoSem.Claim
import GoSem.ClaimJoined
import GoSem.ClaimMapViews
import Derived.JoinedTies
import Derived.KernelRfl
namespace Go.Proofs.Qxb6614834a
/- THE CELL 'sum', in the pinned program and in every row, IS THE sha256 OF THE DUMP (.gsa) THAT Qxb6614834aProg.lean LOADS. Nothing in Lean hashes anything: it is a label: what it is worth is what the hold of that sum in a sandbox is worth. -/
noncomputable def Try.pinned : Pinned := { name := "qxb6614834a", sum := "a69dfa62f3885f72ac16c14eca8c22636a3f17026bdff55d79209e08a7c37785", checked := Try.checked }
namespace Rows
def none {H : Type} : Left H := { results := [], args := [] }

/-- 'zzlaws_internal_balances_b1.FnMembersYieldsEveryMemberWithItsRows': WHATEVER THE INPUT: true; the input reads as it did. -/
def fnMembersYieldsEveryMemberWithItsRowsSpec : ChangeSpec := { name := "fnMembersYieldsEveryMemberWithItsRows", fn := fun _ => fun
  | [d1, d2, d3, d4, d5, d6, d7] => { results := [.lit (.bool true)], args := [d1, d2, d3, d4, d5, d6, d7] }
  | _ => none }
def fnMembersYieldsEveryMemberWithItsRowsRow : OpenClaim := { program := "qxb6614834a", sum := "a69dfa62f3885f72ac16c14eca8c22636a3f17026bdff55d79209e08a7c37785", func := "example.com/nestdraw/nestdraw/zzlaws_internal_balances_b1.FnMembersYieldsEveryMemberWithItsRows", spec := "fnMembersYieldsEveryMemberWithItsRows", unfollowed := true, recurses := true, apart := false }
def FnMembersYieldsEveryMemberWithItsRowsSaid : Prop := fnMembersYieldsEveryMemberWithItsRowsRow.holds Try.pinned (OpenSpec.ofChange fnMembersYieldsEveryMemberWithItsRowsSpec)

/-- ITS FALSE NEIGHBOUR: 'it returns false'. Refute it at one input. -/
def fnMembersYieldsEveryMemberWithItsRowsWrong : ChangeSpec := { name := "fnMembersYieldsEveryMemberWithItsRows", fn := fun _ => fun
  | [d1, d2, d3, d4, d5, d6, d7] => { results := [.lit (.bool false)], args := [d1, d2, d3, d4, d5, d6, d7] }
  | _ => none }
def FnMembersYieldsEveryMemberWithItsRowsWrongFalsely : Prop := fnMembersYieldsEveryMemberWithItsRowsRow.holds Try.pinned (OpenSpec.ofChange fnMembersYieldsEveryMemberWithItsRowsWrong)

/-- 'zzlaws_internal_balances_b1.FnMembersStopsWhenYieldSaysNo': WHATEVER THE INPUT: true; the input reads as it did. -/
def fnMembersStopsWhenYieldSaysNoSpec : ChangeSpec := { name := "fnMembersStopsWhenYieldSaysNo", fn := fun _ => fun
  | [d1, d2, d3, d4, d5, d6, d7, d8] => { results := [.lit (.bool true)], args := [d1, d2, d3, d4, d5, d6, d7, d8] }
  | _ => none }
def fnMembersStopsWhenYieldSaysNoRow : OpenClaim := { program := "qxb6614834a", sum := "a69dfa62f3885f72ac16c14eca8c22636a3f17026bdff55d79209e08a7c37785", func := "example.com/nestdraw/nestdraw/zzlaws_internal_balances_b1.FnMembersStopsWhenYieldSaysNo", spec := "fnMembersStopsWhenYieldSaysNo", unfollowed := true, recurses := true, apart := false }
def FnMembersStopsWhenYieldSaysNoSaid : Prop := fnMembersStopsWhenYieldSaysNoRow.holds Try.pinned (OpenSpec.ofChange fnMembersStopsWhenYieldSaysNoSpec)

/-- ITS FALSE NEIGHBOUR: 'it returns false'. Refute it at one input. -/
def fnMembersStopsWhenYieldSaysNoWrong : ChangeSpec := { name := "fnMembersStopsWhenYieldSaysNo", fn := fun _ => fun
  | [d1, d2, d3, d4, d5, d6, d7, d8] => { results := [.lit (.bool false)], args := [d1, d2, d3, d4, d5, d6, d7, d8] }
  | _ => none }
def FnMembersStopsWhenYieldSaysNoWrongFalsely : Prop := fnMembersStopsWhenYieldSaysNoRow.holds Try.pinned (OpenSpec.ofChange fnMembersStopsWhenYieldSaysNoWrong)

end Rows
end Go.Proofs.Qxb6614834a
