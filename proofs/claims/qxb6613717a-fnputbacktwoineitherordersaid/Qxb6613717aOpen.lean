/- Opening the arguments of the laws over ready lists. -/
import Derived.Test.Qxb6613717aRows
import Derived.WalkKit
import Derived.ProofKit
import Derived.OpenShut
import Derived.ShutString
import Derived.ChangeOld
import Derived.Below
import Derived.Deep.Matrix
import Derived.Test.Qxb6613717aSt
namespace Go.Proofs.Qxb6613717a
open Go.ChangeShapes Go.WideShapes Go.ChangeAt Go.RowKit Go.Deep
set_option linter.unusedVariables false

theorem cells25 : Try.prog.cellsOf 25 = 1 := by kernel_rfl
theorem cells5 : Try.prog.cellsOf 5 = 1 := by kernel_rfl
theorem cells24 : Try.prog.cellsOf 24 = 1 := by kernel_rfl

theorem seesV_nil (w : World) : SeesV w none 0 0 [] := ⟨rfl, Nat.le_refl _, Nat.zero_le _, fun _ => ⟨rfl, rfl⟩, fun a h => by simp at h⟩

/-- A []uint64 that came in. -/
theorem open_u64s {H : Type} {enc : TypeId × Value → H} {w : World} {fuel len cap : Nat} {a : Option Addr} {x : DataW H × List MemPlace} (hf : DataW.trod enc Try.prog w 0 (fun _ => true) true fuel 22 (Value.slice a len cap).cells.toList = some x) : ∃ ss, SeesV w a len cap (u64s ss) := by
  rcases open_ints Try.underlying22 Try.underlying24 cells24 hf with ⟨hcs, _⟩ | ⟨y, l, c, zs, hcs, _, hl, hm, hz, _, hcell, hwz⟩
  · simp [Value.cells] at hcs
    obtain ⟨rfl, rfl, rfl⟩ := hcs
    exact ⟨[], seesV_nil w⟩
  · simp [Value.cells] at hcs
    obtain ⟨rfl, rfl, rfl⟩ := hcs
    have hz' : zs.length = cap := by simpa using hz
    refine ⟨(zs.take len).map Int.toNat, by simp [u64s]; omega, hl, hm, fun h => by simp at h, fun b hb j u hu => ?_⟩
    obtain rfl := Option.some.inj hb
    simp only [u64s, List.map_map, List.getElem?_map, Option.map_eq_some_iff, Function.comp_apply] at hu
    obtain ⟨z, hz1, rfl⟩ := hu
    rw [List.getElem?_take] at hz1
    split at hz1
    · obtain ⟨hj, e⟩ := List.getElem?_eq_some_iff.1 hz1
      have hm := bounds_u64 (hwz z (by rw [← e]; exact List.getElem_mem _))
      rw [hcell j hj]
      have e2 : zs.getD j 0 = z := by simp [List.getD, hz1]
      rw [e2]
      congr 2
      omega
    · simp at hz1

/-- A []byte among the cells of a [][]byte that came in. -/
theorem row_body {w : World} {A : Option Addr} {L C : Nat} {Z : List Int} (h1 : L ≤ C) (h2 : C ≤ maxLen) (h3 : Z.length = C) (h4 : ∀ n ∈ Z, (Lit.int .u8 n).wf = true) (h5 : A = none → C = 0) (h6 : ∀ a', A = some a' → 0 ≤ a'.block ∧ ∀ c, c < C → w.cell? (a'.add c) = some (.int .u8 (Z.getD c 0))) : ∃ l, Sees w A L C l := by
  cases A with
  | none =>
    have := h5 rfl
    subst this
    obtain rfl : L = 0 := by omega
    exact ⟨[], sees_nil w⟩
  | some x => exact sees_of h1 h2 h3 (fun i hi => (h6 x rfl).2 i (by omega)) (fun n hn => by have := bounds_u8 (h4 n hn); omega)

/-- A [][]byte that came in. -/
theorem open_bodies {H : Type} {enc : TypeId × Value → H} {w : World} {fuel len cap : Nat} {a : Option Addr} {x : DataW H × List MemPlace} (hf : DataW.trod enc Try.prog w 0 (fun _ => true) true fuel 23 (Value.slice a len cap).cells.toList = some x) : ∃ bs, SeesBs w a len cap bs := by
  rcases open_int_rows Try.underlying23 Try.underlying25 Try.underlying5 cells25 cells5 hf with ⟨hcs, _⟩ | ⟨y, l, c, A, L, C, Z, hcs, _, hl, hm, _, hr⟩
  · simp [Value.cells] at hcs
    obtain ⟨rfl, rfl, rfl⟩ := hcs
    exact ⟨[], seesV_nil w, by simp⟩
  · simp [Value.cells] at hcs
    obtain ⟨rfl, rfl, rfl⟩ := hcs
    have each : ∀ r, r < len → ∃ ll, Sees w (A r) (L r) (C r) ll := fun r hr' => by
      obtain ⟨_, r1, r2, r3, r4, r5, r6⟩ := hr r (by omega)
      exact row_body r1 r2 r3 r4 r5 r6
    obtain ⟨f, hfl⟩ := choose_lt each
    refine ⟨(List.range len).map fun r => ⟨A r, L r, C r, f r⟩, ⟨by simp [bodyVals], hl, hm, fun h => by simp at h, fun b hb j u hu => ?_⟩, fun b hb => ?_⟩
    · obtain rfl := Option.some.inj hb
      simp only [bodyVals, List.map_map, List.getElem?_map, Option.map_eq_some_iff, Function.comp_apply] at hu
      obtain ⟨r, hr1, rfl⟩ := hu
      have hj : j < len := by
        have := (List.getElem?_eq_some_iff.1 hr1).1
        simpa using this
      rw [List.getElem?_range hj] at hr1
      obtain rfl := Option.some.inj hr1
      exact (hr j (by omega)).1
    · obtain ⟨r, hr1, rfl⟩ := List.mem_map.1 hb
      exact hfl r (List.mem_range.1 hr1)

end Go.Proofs.Qxb6613717a
