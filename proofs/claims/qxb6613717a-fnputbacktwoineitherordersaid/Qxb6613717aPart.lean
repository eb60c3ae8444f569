/- encoding/binary.AppendUvarint, appendPart, ZZappendPart: onto a row of the call's own. -/
import Derived.Test.Qxb6613717aClone
import Derived.Lib.Walk
namespace Go.Proofs.Qxb6613717a
open Go.RowKit

theorem add_block (a : Addr) (j : Nat) : (a.add j).block = a.block := by
  unfold Addr.add
  split <;> rfl

set_option maxHeartbeats 800000 in
set_option maxRecDepth 100000 in
theorem uvarint_any (n x : Nat) (hx : x ≤ 1048576) (sv : Value) (xs : List Value) (w : World) (hown : w.ownsRow 0 5 1 sv n xs) (hlim : n ≤ 8388608) :
    Calls Try.prog 42 #[sv, .int .u64 x] w fun e w' => ∃ v', e = .returned v' ∧ w'.ownsRow 0 5 1 v' (n + (Lib.uvarint x).length) (xs ++ Lib.byteCells (Lib.uvarint x)) ∧ Step w sv w' v' ∧ v' ≠ .slice none 0 0 := by
  obtain ⟨i0, hi, hz0, hz1, hz2⟩ := info_parts info5
  have hlen := Lib.uvarint_length64 (x := x) (by omega)
  go_enter Try.func42, Try.ntmps42
  go_wp2
  go_loopw [0, 1] (fun vb vx wr => ∃ (y : Nat) (pre : List UInt8), vx = .int .u64 y ∧ y ≤ x ∧ Lib.uvarint x = pre ++ Lib.uvarint y ∧ wr.ownsRow 0 5 1 vb (n + pre.length) (xs ++ Lib.byteCells pre) ∧ Step w sv wr vb)
    (fun _ vx _ => (intOf vx).toNat)
  case atStart => exact ⟨x, [], rfl, Nat.le_refl _, rfl, by simpa [Lib.byteCells] using hown, Step.refl _ _⟩
  case round =>
    obtain ⟨y, pre, rfl, hy, hsplit, hown1, hst⟩ := hrel
    have hpl : pre.length + (Lib.uvarint y).length ≤ 10 := by
      have h2 := congrArg List.length hsplit
      rw [List.length_append] at h2
      omega
    have hyp := Lib.uvarint_pos y
    by_cases h128 : 128 ≤ y
    · have hor : bits .or .u8 ((y : Int) % 256) 128 = ((y % 128 + 128 : Nat) : Int) := by
        rw [Lib.u8_or128_any _ (by omega) (by omega)]
        omega
      go_wp2_with (at_builtin; refine wpList_append_step rfl _ _ 25 rfl 5 i0 (.int .u8 0) 1 1 Try.underlying25 hi hz0 hz1 hz2 rfl (by decide) _ _ _ rfl (hown1.alloc _) (some ⟨wr.heap.size, 0, none⟩) 1 1 [Value.int .u8 ((y % 128 + 128 : Nat) : Int)] rfl rfl ?c0 ?c1 ?c2 ?c3 ?c4 ?_)
      case c0 => intro h; simp at h
      case c1 =>
        intro a ha j u hj
        obtain rfl := Option.some.inj ha
        match j, hj with
        | 0, hj => simp at hj; subst hj; simp [Addr.add]
      case c2 => intro u hu; simp at hu; subst hu; rfl
      case c3 => unfold maxLen; omega
      case c4 => omega
      intro v' w1 hown' hgrow _
      have hst1 : Step w sv w1 v' := (hst.trans (Step.alloc _ _ _)).trans hgrow
      go_wp2
      go_roundw
      case rel =>
        refine ⟨y / 128, pre ++ [(y % 128 + 128).toUInt8], by go_num, by omega, by rw [hsplit, Lib.uvarint_big h128]; simp, ?_, hst1⟩
        have ec : ((y % 128 + 128 : Nat) : Int) = (y : Int) % 128 + 128 := by omega
        rw [Lib.byteCells_snoc pre (by omega), List.length_append, List.length_singleton, ← Nat.add_assoc, ec]
        exact hown'
      case measure => simp [intOf]; omega
    · have hsm : Lib.uvarint y = [y.toUInt8] := Lib.uvarint_small (by omega)
      go_wp2_with (at_builtin; refine wpList_append_step rfl _ _ 25 rfl 5 i0 (.int .u8 0) 1 1 Try.underlying25 hi hz0 hz1 hz2 rfl (by decide) _ _ _ rfl (hown1.alloc _) (some ⟨wr.heap.size, 0, none⟩) 1 1 [Value.int .u8 (y : Int)] rfl rfl ?c0 ?c1 ?c2 ?c3 ?c4 ?_)
      case c0 => intro h; simp at h
      case c1 =>
        intro a ha j u hj
        obtain rfl := Option.some.inj ha
        match j, hj with
        | 0, hj => simp at hj; subst hj; simp [Addr.add]
      case c2 => intro u hu; simp at hu; subst hu; rfl
      case c3 => unfold maxLen; omega
      case c4 => omega
      intro v' w1 hown' hgrow hnn
      have hst1 : Step w sv w1 v' := (hst.trans (Step.alloc _ _ _)).trans hgrow
      go_wp2
      go_ret
      refine ⟨v', rfl, ?_, hst1, hnn⟩
      rw [hsplit, hsm, Lib.byteCells_snoc pre (by omega), List.length_append, List.length_singleton, ← Nat.add_assoc]
      exact hown'

set_option maxHeartbeats 800000 in
set_option maxRecDepth 100000 in
theorem part_any (n m pc : Nat) (po : Option Addr) (sv : Value) (xs : List Value) (l : List UInt8) (w : World) (hown : w.ownsRow 0 5 1 sv n xs) (hs : Sees w po m pc l) (hm : m ≤ 1048576) (hlim : n ≤ 4194304)
    (hap : ∀ a, po = some a → some a.block ≠ sv.ownBlock) :
    Calls Try.prog 37 #[sv, .slice po m pc] w fun e w' => ∃ v', e = .returned v' ∧ w'.ownsRow 0 5 1 v' (n + (Lib.uvarint m).length + m) (xs ++ Lib.byteCells (Lib.uvarint m) ++ Lib.byteCells l) ∧ Step w sv w' v' ∧ v' ≠ .slice none 0 0 := by
  obtain ⟨hl, hnc, hcm, hnil, hcell⟩ := hs
  obtain ⟨i0, hi, hz0, hz1, hz2⟩ := info_parts info5
  have hlen := Lib.uvarint_length64 (x := m) (by omega)
  go_enter Try.func37, Try.ntmps37
  go_wp2_with fail
  refine (uvarint_any n m hm sv xs w hown (by omega)).mono ?_
  rintro e w1 ⟨v1, rfl, hown1, hst1, hnn1⟩
  go_wp2_with (at_builtin; refine wpList_append_step rfl _ _ 25 rfl 5 i0 (.int .u8 0) 1 1 Try.underlying25 hi hz0 hz1 hz2 rfl (by decide) _ _ _ rfl hown1 po m pc (Lib.byteCells l) rfl ?c5 hnil ?c1 (byteCells_one l) ?c3 ?c4 ?_)
  case c5 => rw [Lib.byteCells_length, hl]; omega
  case c1 => intro a ha j u hu; exact hst1.grown.cell (hcell a ha j u hu) (by rw [add_block]; exact hap a ha)
  case c3 => unfold maxLen; omega
  case c4 => omega
  intro v2 w2 hown2 hst2 hnn2
  go_wp2
  go_ret
  exact ⟨v2, rfl, by rw [List.append_assoc]; exact hown2, hst1.trans hst2, hnn2⟩

set_option maxHeartbeats 800000 in
theorem zzpart_any (n m pc : Nat) (po : Option Addr) (sv : Value) (xs : List Value) (l : List UInt8) (w : World) (hown : w.ownsRow 0 5 1 sv n xs) (hs : Sees w po m pc l) (hm : m ≤ 1048576) (hlim : n ≤ 4194304)
    (hap : ∀ a, po = some a → some a.block ≠ sv.ownBlock) :
    Calls Try.prog 29 #[sv, .slice po m pc] w fun e w' => ∃ v', e = .returned v' ∧ w'.ownsRow 0 5 1 v' (n + (Lib.uvarint m).length + m) (xs ++ Lib.byteCells (Lib.uvarint m) ++ Lib.byteCells l) ∧ Step w sv w' v' ∧ v' ≠ .slice none 0 0 := by
  go_enter Try.func29, Try.ntmps29
  go_wp2_with fail
  refine (part_any n m pc po sv xs l w hown hs hm hlim hap).mono ?_
  rintro e w1 ⟨v1, rfl, hown1, hst1, hnn1⟩
  go_wp2
  go_ret
  exact ⟨v1, rfl, hown1, hst1, hnn1⟩

end Go.Proofs.Qxb6613717a
