/-
  No cell of these rows narrows 'for every input' (looked for: loops, veiled, ifaces, maps, wideKeys, modest, calm, conditions, laid).
  DERIVED. THE GIVEN ROWS OF THIS SEAT. 4 by the template 'for every input the law returns true; each argument reads behind the call as it read before'; 0 by the template 'total and deterministic' (their statements: Qxb6613717aTotals.lean).
  GIVEN WITH THE SEED: the statements are not yours to turn. If you find one false, say at which input.
  Laid BY PROGRAM, IN A SANDBOX (cutbox-rows.mjs): the forced cells as the released guide's own fill.sh prints them over the translation 7dec62994269bd79… (all of the seat's roots in one cut). By AI agents, Wed Nov 11 2026. No macro, syntax, notation, axiom, sorry.
-/
import Derived.Test.Qxb6613717aChecked
import GoSem.Claim
import GoSem.ClaimJoined
import GoSem.ClaimMapViews
import Derived.JoinedTies
import Derived.KernelRfl
namespace Go.Proofs.Qxb6613717a
/- THE CELL 'sum', in the pinned program and in every row, IS THE sha256 OF THE DUMP (.gsa) THAT Qxb6613717aProg.lean LOADS. Nothing in Lean hashes anything: it is a label: what it is worth is what the hold of that sum in a sandbox is worth. -/
noncomputable def Try.pinned : Pinned := { name := "qxb6613717a", sum := "7dec62994269bd799d77b02bec21b7390a88b570e0b72caf788135df91ddea07", checked := Try.checked }
namespace Rows
def none {H : Type} : Left H := { results := [], args := [] }

/-- 'zzlaws_internal_broker_b1.FnPutBackTwoInEitherOrder': WHATEVER THE INPUT: true; the input reads as it did. -/
def fnPutBackTwoInEitherOrderSpec : ChangeSpec := { name := "fnPutBackTwoInEitherOrder", fn := fun _ => fun
  | [d1, d2, d3, d4, d5, d6, d7, d8, d9, d10, d11, d12] => { results := [.lit (.bool true)], args := [d1, d2, d3, d4, d5, d6, d7, d8, d9, d10, d11, d12] }
  | _ => none }
def fnPutBackTwoInEitherOrderRow : OpenClaim := { program := "qxb6613717a", sum := "7dec62994269bd799d77b02bec21b7390a88b570e0b72caf788135df91ddea07", func := "example.com/omni-broker/omni-broker/zzlaws_internal_broker_b1.FnPutBackTwoInEitherOrder", spec := "fnPutBackTwoInEitherOrder", inPlace := ["slices.overlaps[example.com/omni-broker/omni-broker/internal/broker.entry]"], unfollowed := true, recurses := true, plainKeys := false, apart := false }
def FnPutBackTwoInEitherOrderSaid : Prop := fnPutBackTwoInEitherOrderRow.holds Try.pinned (OpenSpec.ofChange fnPutBackTwoInEitherOrderSpec)

/-- ITS FALSE NEIGHBOUR: 'it returns false'. Refute it at one input. -/
def fnPutBackTwoInEitherOrderWrong : ChangeSpec := { name := "fnPutBackTwoInEitherOrder", fn := fun _ => fun
  | [d1, d2, d3, d4, d5, d6, d7, d8, d9, d10, d11, d12] => { results := [.lit (.bool false)], args := [d1, d2, d3, d4, d5, d6, d7, d8, d9, d10, d11, d12] }
  | _ => none }
def FnPutBackTwoInEitherOrderWrongFalsely : Prop := fnPutBackTwoInEitherOrderRow.holds Try.pinned (OpenSpec.ofChange fnPutBackTwoInEitherOrderWrong)

/-- 'zzlaws_internal_broker_b1.FnPutBackSortsByPublicationOrder': WHATEVER THE INPUT: true; the input reads as it did. -/
def fnPutBackSortsByPublicationOrderSpec : ChangeSpec := { name := "fnPutBackSortsByPublicationOrder", fn := fun _ => fun
  | [d1, d2] => { results := [.lit (.bool true)], args := [d1, d2] }
  | _ => none }
def fnPutBackSortsByPublicationOrderRow : OpenClaim := { program := "qxb6613717a", sum := "7dec62994269bd799d77b02bec21b7390a88b570e0b72caf788135df91ddea07", func := "example.com/omni-broker/omni-broker/zzlaws_internal_broker_b1.FnPutBackSortsByPublicationOrder", spec := "fnPutBackSortsByPublicationOrder", inPlace := ["slices.overlaps[example.com/omni-broker/omni-broker/internal/broker.entry]"], unfollowed := true, recurses := true, plainKeys := false, apart := false }
def FnPutBackSortsByPublicationOrderSaid : Prop := fnPutBackSortsByPublicationOrderRow.holds Try.pinned (OpenSpec.ofChange fnPutBackSortsByPublicationOrderSpec)

/-- ITS FALSE NEIGHBOUR: 'it returns false'. Refute it at one input. -/
def fnPutBackSortsByPublicationOrderWrong : ChangeSpec := { name := "fnPutBackSortsByPublicationOrder", fn := fun _ => fun
  | [d1, d2] => { results := [.lit (.bool false)], args := [d1, d2] }
  | _ => none }
def FnPutBackSortsByPublicationOrderWrongFalsely : Prop := fnPutBackSortsByPublicationOrderRow.holds Try.pinned (OpenSpec.ofChange fnPutBackSortsByPublicationOrderWrong)

/-- 'zzlaws_internal_broker_b1.FnAppendPartTwoPartsReadBack': WHATEVER THE INPUT: true; the input reads as it did. -/
def fnAppendPartTwoPartsReadBackSpec : ChangeSpec := { name := "fnAppendPartTwoPartsReadBack", fn := fun _ => fun
  | [d1, d2, d3] => { results := [.lit (.bool true)], args := [d1, d2, d3] }
  | _ => none }
def fnAppendPartTwoPartsReadBackRow : OpenClaim := { program := "qxb6613717a", sum := "7dec62994269bd799d77b02bec21b7390a88b570e0b72caf788135df91ddea07", func := "example.com/omni-broker/omni-broker/zzlaws_internal_broker_b1.FnAppendPartTwoPartsReadBack", spec := "fnAppendPartTwoPartsReadBack", plainKeys := false, apart := false }
def FnAppendPartTwoPartsReadBackSaid : Prop := fnAppendPartTwoPartsReadBackRow.holds Try.pinned (OpenSpec.ofChange fnAppendPartTwoPartsReadBackSpec)

/-- ITS FALSE NEIGHBOUR: 'it returns false'. Refute it at one input. -/
def fnAppendPartTwoPartsReadBackWrong : ChangeSpec := { name := "fnAppendPartTwoPartsReadBack", fn := fun _ => fun
  | [d1, d2, d3] => { results := [.lit (.bool false)], args := [d1, d2, d3] }
  | _ => none }
def FnAppendPartTwoPartsReadBackWrongFalsely : Prop := fnAppendPartTwoPartsReadBackRow.holds Try.pinned (OpenSpec.ofChange fnAppendPartTwoPartsReadBackWrong)

/-- 'zzlaws_internal_broker_b1.FnAppendPartAfterAnyPrefix': WHATEVER THE INPUT: true; the input reads as it did. -/
def fnAppendPartAfterAnyPrefixSpec : ChangeSpec := { name := "fnAppendPartAfterAnyPrefix", fn := fun _ => fun
  | [d1, d2] => { results := [.lit (.bool true)], args := [d1, d2] }
  | _ => none }
def fnAppendPartAfterAnyPrefixRow : OpenClaim := { program := "qxb6613717a", sum := "7dec62994269bd799d77b02bec21b7390a88b570e0b72caf788135df91ddea07", func := "example.com/omni-broker/omni-broker/zzlaws_internal_broker_b1.FnAppendPartAfterAnyPrefix", spec := "fnAppendPartAfterAnyPrefix", plainKeys := false, apart := false }
def FnAppendPartAfterAnyPrefixSaid : Prop := fnAppendPartAfterAnyPrefixRow.holds Try.pinned (OpenSpec.ofChange fnAppendPartAfterAnyPrefixSpec)

/-- ITS FALSE NEIGHBOUR: 'it returns false'. Refute it at one input. -/
def fnAppendPartAfterAnyPrefixWrong : ChangeSpec := { name := "fnAppendPartAfterAnyPrefix", fn := fun _ => fun
  | [d1, d2] => { results := [.lit (.bool false)], args := [d1, d2] }
  | _ => none }
def FnAppendPartAfterAnyPrefixWrongFalsely : Prop := fnAppendPartAfterAnyPrefixRow.holds Try.pinned (OpenSpec.ofChange fnAppendPartAfterAnyPrefixWrong)

end Rows
end Go.Proofs.Qxb6613717a
