/- Closed facts, the start that fits, a slice of bytes that came in. -/
import Derived.Test.Qxb6615754aDoorRows
import Derived.Test.Qxb6615754aDoorTie
import Derived.Test.Qxb6615754aDoorCards
import Derived.Test.Qxb6615754aDoorBase
import Derived.ProofKit
import Derived.LaidMore
import Derived.OpenShut
import Derived.Stop.Joined
import Derived.Stop.LaidErr
import Derived.WalkSmall
import Derived.ChangeSame
import Derived.ChangeVars
import Derived.JoinedOf
import Derived.RowKitTokens
import Derived.LaidLaws
namespace Go.Proofs.Qxb6615754aDoor
open Go.ChangeShapes Go.WideShapes Go.ChangeAt Go.RowKit
set_option linter.unusedVariables false

theorem own : ownKnob Tryd.prog.godebug = none := by kernel_rfl
theorem laidOut : laidOutB Tryd.prog = true := by kernel_rfl
/-- The variable's name, off the row. -/
def nameE : String := Rows.fnRestCompletesRawSplitRow.named.headD ""
/-- The name of its value's type, off the row. -/
def kindE : String := match (Rows.laid_example_com_rangeloom_rangeloom_internal_codec_ErrDamaged : DataW Unit) with
  | .iface n _ => n
  | _ => ""
theorem gE : Tryd.prog.globalNamed nameE = some 0 := by kernel_rfl
theorem gEType : (Tryd.prog.globals[0]?).map (·.type) = some 27 := by kernel_rfl
theorem cells57 : Tryd.prog.cellsOf 57 = 1 := by kernel_rfl
theorem cells9 : Tryd.prog.cellsOf 9 = 1 := by kernel_rfl
theorem row37 (u : TypeId) (h : Tryd.prog.typeName? 3 u = some kindE) : u = 37 :=
  typeName_ptr_named (nm := "errors.errorString") (by kernel_rfl) (by kernel_rfl) (by decide) u (h.trans (by kernel_rfl))

/-- The list of the two rows. -/
abbrev laidE : List (String × DataW Unit) := Rows.fnRestCompletesRawSplitRow.laid

theorem door_met (os : Os) (args : Array Value) : laidMetH Tryd.prog laidE ((World.doorLaid Tryd.prog 400 os).forCall (fun _ _ => 0) ⟨#[], args, []⟩).memory :=
  laidMetH_of_parts3 (fuel := 8) (laidMet_of_run' 8 (by kernel_rfl) (by kernel_rfl)) (by kernel_rfl) (by kernel_rfl)

/-- What the condition gives: the variable's cell. -/
theorem of_laid {W : World} (h : laidMetH Tryd.prog laidE W) : ∃ a, W.var? Tryd.prog nameE = some #[.iface 37 (.pointer (some a))] := by
  rw [MakeChecks.laidMetH_plain _ _ _ (by kernel_rfl)] at h
  have h' : laidMet Tryd.prog ((nameE, .iface kindE (.ptr (.agg [.lit (.string _)]))) :: []) W := h
  obtain ⟨a, s, hv, _⟩ := laid_sentinel h' gE gEType Tryd.underlying27 row37 Tryd.underlying37 Tryd.underlying57 rfl rfl Tryd.underlying9 cells57 cells9
  exact ⟨a, hv⟩

/-- A slice of bytes that came in. -/
theorem bytes_in {W : World} {a0 : Option Addr} {len0 cap0 : Nat} {zs : List Int} (h : (a0 = none ∧ len0 = 0 ∧ cap0 = 0 ∧ zs = []) ∨ ∃ x, a0 = some x ∧ len0 ≤ cap0 ∧ cap0 ≤ maxLen ∧ zs.length = cap0 ∧ (∀ i, i < zs.length → W.cell? (x.add i) = some (.int .u8 (zs.getD i 0)))) : SeesV W a0 len0 cap0 (ints .u8 (zs.take len0)) := by
  rcases h with ⟨rfl, rfl, rfl, rfl⟩ | ⟨x, rfl, hl, hm, hz, hc⟩
  · exact seesV_nil W
  · refine ⟨by simp [ints]; omega, hl, hm, fun e => by simp at e, fun b hb j u hu => ?_⟩
    obtain rfl := Option.some.inj hb
    have hj : j < len0 := by
      rcases Nat.lt_or_ge j len0 with h | h
      · exact h
      · rw [List.getElem?_eq_none (by simp [ints]; omega)] at hu; simp at hu
    rw [hc j (by omega), ← hu]
    simp only [ints, List.getElem?_map, List.getElem?_take]
    rw [if_pos hj, List.getElem?_eq_getElem (show j < zs.length by omega), List.getD_eq_getElem?_getD, List.getElem?_eq_getElem (show j < zs.length by omega)]
    rfl

end Go.Proofs.Qxb6615754aDoor
