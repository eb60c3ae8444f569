/-
  NARROWER THAN 'FOR EVERY INPUT', by the rows' own cells (each row's printed sentence says how): FnRestCompletesRawSplit: ifaces, laid · FnRestDrainsReader: ifaces, laid.
  DERIVED. THE GIVEN ROWS OF THIS SEAT. 2 by the template 'for every input the law returns true; each argument reads behind the call as it read before'; 0 by the template 'total and deterministic' (their statements: Qxb6615754aDoorTotals.lean).
  GIVEN WITH THE SEED: the statements are not yours to turn. If you find one false, say at which input.
  Laid BY PROGRAM, IN A SANDBOX (cutbox-rows.mjs): the forced cells as the released guide's own fill.sh prints them over the translation a527ecfad794f861… (all of the seat's roots in one cut). By AI agents, Wed Nov 11 2026. No macro, syntax, notation, axiom, sorry.
-/
import Derived.Test.Qxb6615754aDoorChecked
import GoSem.Claim
import GoSem.ClaimJoined
import GoSem.ClaimMapViews
import Derived.JoinedTies
import Derived.KernelRfl
namespace Go.Proofs.Qxb6615754aDoor
/- THE CELL 'sum', in the pinned program and in every row, IS THE sha256 OF THE DUMP (.gsa) THAT Qxb6615754aDoorProg.lean LOADS. Nothing in Lean hashes anything: it is a label: what it is worth is what the hold of that sum in a sandbox is worth. -/
noncomputable def Tryd.pinned : Pinned := { name := "qxb6615754adoor", sum := "a527ecfad794f8614ca71d0c3c7ba90acdede17b32a915e9b05f2140f4a76f91", checked := Tryd.checked }
namespace Rows
def none {H : Type} : Left H := { results := [], args := [] }

/- WHAT THE LISTED PACKAGE-LEVEL VARIABLES READ AS WHEN THE CALL BEGINS. Each datum BY PROGRAM (the guide's laid-datum.mjs) off the statement by which the dump's own 'gosem.cut.vars' lays the variable. In a bare row this is a premise. The card (Qxb6615754aDoorCards.lean) ties it to the program's text. -/
def laid_example_com_rangeloom_rangeloom_internal_codec_ErrDamaged {H : Type} : DataW H := .iface "*errors.errorString" (.ptr (.agg [.lit (.string [116, 104, 101, 32, 100, 97, 116, 97, 32, 105, 115, 32, 99, 117, 116, 32, 115, 104, 111, 114, 116, 32, 111, 114, 32, 100, 97, 109, 97, 103, 101, 100])]))

/-- 'zzlaws_internal_codec_b1.FnRestCompletesRawSplit': WHATEVER THE INPUT: true; the input reads as it did. -/
def fnRestCompletesRawSplitSpec : ChangeSpec := { name := "fnRestCompletesRawSplit", vars := ["example.com/rangeloom/rangeloom/internal/codec.ErrDamaged"], fn := fun _ => fun
  | [d1, d2, d3, d4, g1] => { results := [.lit (.bool true)], args := [d1, d2, d3, d4], vars := [g1] }
  | _ => none }
def fnRestCompletesRawSplitRow : OpenClaim := { program := "qxb6615754adoor", sum := "a527ecfad794f8614ca71d0c3c7ba90acdede17b32a915e9b05f2140f4a76f91", func := "example.com/rangeloom/rangeloom/zzlaws_internal_codec_b1.FnRestCompletesRawSplit", spec := "fnRestCompletesRawSplit", named := ["example.com/rangeloom/rangeloom/internal/codec.ErrDamaged"], ifaces := true, apart := false, laid := [("example.com/rangeloom/rangeloom/internal/codec.ErrDamaged", laid_example_com_rangeloom_rangeloom_internal_codec_ErrDamaged)] }
def FnRestCompletesRawSplitSaid : Prop := fnRestCompletesRawSplitRow.holds Tryd.pinned (OpenSpec.ofChange fnRestCompletesRawSplitSpec)

/-- ITS FALSE NEIGHBOUR: 'it returns false'. Refute it at one input. -/
def fnRestCompletesRawSplitWrong : ChangeSpec := { name := "fnRestCompletesRawSplit", vars := ["example.com/rangeloom/rangeloom/internal/codec.ErrDamaged"], fn := fun _ => fun
  | [d1, d2, d3, d4, g1] => { results := [.lit (.bool false)], args := [d1, d2, d3, d4], vars := [g1] }
  | _ => none }
def FnRestCompletesRawSplitWrongFalsely : Prop := fnRestCompletesRawSplitRow.holds Tryd.pinned (OpenSpec.ofChange fnRestCompletesRawSplitWrong)

/-- 'zzlaws_internal_codec_b1.FnRestDrainsReader': WHATEVER THE INPUT: true; the input reads as it did. -/
def fnRestDrainsReaderSpec : ChangeSpec := { name := "fnRestDrainsReader", vars := ["example.com/rangeloom/rangeloom/internal/codec.ErrDamaged"], fn := fun _ => fun
  | [d1, d2, d3, d4, g1] => { results := [.lit (.bool true)], args := [d1, d2, d3, d4], vars := [g1] }
  | _ => none }
def fnRestDrainsReaderRow : OpenClaim := { program := "qxb6615754adoor", sum := "a527ecfad794f8614ca71d0c3c7ba90acdede17b32a915e9b05f2140f4a76f91", func := "example.com/rangeloom/rangeloom/zzlaws_internal_codec_b1.FnRestDrainsReader", spec := "fnRestDrainsReader", named := ["example.com/rangeloom/rangeloom/internal/codec.ErrDamaged"], ifaces := true, apart := false, laid := [("example.com/rangeloom/rangeloom/internal/codec.ErrDamaged", laid_example_com_rangeloom_rangeloom_internal_codec_ErrDamaged)] }
def FnRestDrainsReaderSaid : Prop := fnRestDrainsReaderRow.holds Tryd.pinned (OpenSpec.ofChange fnRestDrainsReaderSpec)

/-- ITS FALSE NEIGHBOUR: 'it returns false'. Refute it at one input. -/
def fnRestDrainsReaderWrong : ChangeSpec := { name := "fnRestDrainsReader", vars := ["example.com/rangeloom/rangeloom/internal/codec.ErrDamaged"], fn := fun _ => fun
  | [d1, d2, d3, d4, g1] => { results := [.lit (.bool false)], args := [d1, d2, d3, d4], vars := [g1] }
  | _ => none }
def FnRestDrainsReaderWrongFalsely : Prop := fnRestDrainsReaderRow.holds Tryd.pinned (OpenSpec.ofChange fnRestDrainsReaderWrong)

end Rows
end Go.Proofs.Qxb6615754aDoor
