/- zzB1CloneBytes: a new row with the same bytes (nil stays nil). -/
import Derived.Test.Qxb6613717aProg
import Derived.Test.Qxb6613717aOwn
import Derived.WalkKit
import Derived.WalkSpells
import Derived.WalkLawsBesides
import Derived.Outline
import Derived.Laws.CopyOwn
import Derived.Lib.VarintMem
import Derived.KernelRfl
namespace Go.Proofs.Qxb6613717a
open Go.RowKit

theorem info5 : (Try.prog.info? 5).map (fun i => (i.zero, i.size, i.bytes)) = some (some (.int .u8 0), 1, 1) := by kernel_rfl
theorem size5 : (Try.prog.info? 5).map (·.size) = some 1 := by kernel_rfl

theorem byteCells_one (l : List UInt8) : ∀ v ∈ Lib.byteCells l, v.oneCell' = true := by
  intro v hv
  simp only [Lib.byteCells, List.mem_map] at hv
  obtain ⟨_, _, rfl⟩ := hv
  rfl

/-- A value that reads, in w, as the bytes l: nil, or cells somewhere. -/
def Sees (w : World) (ao : Option Addr) (n cap : Nat) (l : List UInt8) : Prop :=
  l.length = n ∧ n ≤ cap ∧ cap ≤ maxLen ∧ (ao = none → n = 0 ∧ cap = 0) ∧ ∀ a, ao = some a → ∀ j u, (Lib.byteCells l)[j]? = some u → w.cell? (a.add j) = some u

theorem full_heap {w : World} {base e g n : Nat} {xs : List Value} (h : w.ownsRow base e 1 (.slice (some ⟨g, 0, none⟩) n n) n xs) : w.heap[g]? = some (.cells xs.toArray e (0, 0)) := by
  rcases h.2 with ⟨h1, _⟩ | ⟨g', cap, cur, h1, _, hh, _, _, hsz, htk⟩
  · simp at h1
  · simp only [Value.slice.injEq, Option.some.injEq, Addr.mk.injEq, and_true, true_and] at h1
    obtain ⟨rfl, rfl⟩ := h1
    rw [hh, ← htk]
    rw [List.take_of_length_le (by simp; omega)]

theorem full_own {w : World} {base e g n : Nat} {xs : List Value} (h : w.heap[g]? = some (.cells xs.toArray e (0, 0))) (hx : xs.length = n) (hb : base ≤ g) (hn : n ≤ maxLen) : w.ownsRow base e 1 (.slice (some ⟨g, 0, none⟩) n n) n xs :=
  ⟨by omega, .inr ⟨g, n, xs.toArray, rfl, hb, h, Nat.le_refl _, hn, by simp; omega, List.take_of_length_le (by simp; omega)⟩⟩

theorem splice_all {α : Type} (L cs : List α) (h : L.length = cs.length) : splice L 0 cs = cs := by
  simp [splice, h]

set_option maxHeartbeats 400000 in
theorem clone_any (ao : Option Addr) (n cap : Nat) (l : List UInt8) (w : World) (hs : Sees w ao n cap l) (hn : n ≤ 1048576) :
    Calls Try.prog 13 #[.slice ao n cap] w fun e w' => ∃ v', e = .returned v' ∧ w'.ownsRow w.heap.size 5 1 v' n (Lib.byteCells l) ∧ w.grownBy w' none := by
  obtain ⟨hl, hnc, hcm, hnil, hcell⟩ := hs
  have he := fun wx => Lib.run_eql_slice_nil (P := Try.prog) wx 25 5 ao n cap 0 0 Try.underlying25
  obtain ⟨i0, hi, hz0, hz1, hz2⟩ := info_parts info5
  cases ao with
  | none =>
    obtain ⟨rfl, rfl⟩ := hnil rfl
    obtain rfl : l = [] := List.eq_nil_of_length_eq_zero hl
    go_enter Try.func13, Try.ntmps13
    go_wp2
    go_ret
    exact ⟨_, rfl, World.ownsRow_nil _ _ _ _, World.grownBy.refl _ _⟩
  | some a =>
    have he2 : ∀ wx, (binOp .eql 25 (.slice (some a) n cap) (.slice none 0 0)).run Try.prog wx = .ok (.bool false) wx := fun wx => he wx
    clear he
    go_enter Try.func13, Try.ntmps13
    go_wp2_with (first
      | (at_make; refine wpList_make_full _ rfl _ _ 25 rfl w.heap.size 5 i0 (.int .u8 0) 1 Try.underlying25 hi hz0 hz1 _ _ _ _ n rfl rfl rfl rfl (by rw [hz2]; omega) (by unfold maxLen; omega) (Nat.le_refl _) ?_; intro w1 hown hgrow; have hh : Hid _ := full_heap hown)
      | (refine wpList_copy_splice rfl (.tmp 9) (.tmp 10) 25 25 rfl 5 Try.underlying25 size5 _ _ _ _ _ _ rfl rfl w.heap.size 0 _ 5 hh.out (Lib.byteCells l) ?c1 ?c2 ?c3 (byteCells_one l) w.heap.size w ?c4 (Nat.le_refl _) ?_)
      | fail)
    case c1 => rw [Lib.byteCells_length, hl]; exact (Nat.min_self n).symm
    case c2 => intro _ j u hu; exact hgrow.cell (hcell a rfl j u hu) (by simp)
    case c3 => rw [Lib.byteCells_length, hl]; simp [size_madeCells]
    case c4 => exact (Below.refl _ _).grown hgrow (Nat.le_refl _) (by simp)
    intro w2 hh2 hb2
    go_wp2
    go_ret
    have hsp : splice (madeCells #[Value.int .u8 0] n).toList 0 (Lib.byteCells l) = Lib.byteCells l := splice_all _ _ (by rw [Lib.byteCells_length, hl]; simp [size_madeCells])
    have hh3 := hh2.out
    rw [hsp] at hh3
    exact ⟨_, rfl, full_own hh3 (by rw [Lib.byteCells_length, hl]) (Nat.le_refl _) (by unfold maxLen; omega), ⟨hb2.os, hb2.tape, hb2.output, hb2.size, fun k hk _ => hb2.block k hk⟩⟩
end Go.Proofs.Qxb6613717a
