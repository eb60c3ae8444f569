/- Rows of bytes of the call's own, with the range of blocks in which they lie; the contracts in the form in which the laws' walks take them. -/
import Derived.Test.Qxb6613717aPart
import Derived.Test.Qxb6613717aRead
namespace Go.Proofs.Qxb6613717a
open Go.RowKit

/-- The slice value ao, n, cap is nil or a row of the call's own, in a block from lo on and below hi, and its bytes are l. -/
structure Own (w : World) (lo hi : Nat) (ao : Option Addr) (n cap : Nat) (l : List UInt8) : Prop where
  row : w.ownsRow lo 5 1 (.slice ao n cap) n (Lib.byteCells l)
  lt : ∀ a, ao = some a → a.block < hi

theorem Own.len {w : World} {lo hi n cap : Nat} {ao : Option Addr} {l : List UInt8} (h : Own w lo hi ao n cap l) : l.length = n := by
  have := h.row.1
  rw [Lib.byteCells_length] at this
  omega

theorem ownBlock_slice (ao : Option Addr) (n cap : Nat) : (Value.slice ao n cap).ownBlock = ao.map (·.block) := by cases ao <;> rfl

theorem Own.shape {w : World} {lo hi n cap : Nat} {ao : Option Addr} {l : List UInt8} (h : Own w lo hi ao n cap l) : (ao = none ∧ n = 0 ∧ cap = 0) ∨ ∃ g, ao = some ⟨g, 0, none⟩ ∧ lo ≤ g ∧ g < hi := by
  rcases h.row.2 with ⟨h1, h2⟩ | ⟨g, c, cur, h1, hg, _⟩
  · simp at h1; exact .inl ⟨h1.1, h1.2⟩
  · simp at h1; exact .inr ⟨g, h1.1, hg, by have := h.lt _ h1.1; simpa using this⟩

theorem Own.kept {w w' : World} {lo hi n cap : Nat} {ao : Option Addr} {l : List UInt8} {row : Option Nat} (h : Own w lo hi ao n cap l) (hg : w.grownBy w' row) (hr : ∀ k, row = some k → k < lo ∨ hi ≤ k) : Own w' lo hi ao n cap l := by
  refine ⟨h.row.kept hg ?_, h.lt⟩
  rcases h.shape with ⟨rfl, _⟩ | ⟨g, rfl, h1, h2⟩
  · exact .inl rfl
  · refine .inr fun e => ?_
    have := hr g e.symm
    omega

theorem Own.sees {w : World} {lo hi n cap : Nat} {ao : Option Addr} {l : List UInt8} (h : Own w lo hi ao n cap l) : Sees w ao n cap l := by
  refine ⟨h.len, ?_, ?_, ?_, ?_⟩
  · rcases h.row.2 with ⟨h1, h2⟩ | ⟨g, c, cur, h1, hg, _, hc, hm, _⟩
    · omega
    · simp at h1; omega
  · rcases h.row.2 with ⟨h1, h2⟩ | ⟨g, c, cur, h1, hg, _, hc, hm, _⟩
    · simp at h1; rw [h1.2.2]; exact Nat.zero_le _
    · simp at h1; omega
  · rintro rfl
    rcases h.shape with ⟨_, h1⟩ | ⟨g, h1, _⟩
    · exact h1
    · simp at h1
  · intro a ha j u hu
    rcases h.shape with ⟨h1, _⟩ | ⟨g, h1, _⟩
    · rw [h1] at ha; simp at ha
    · rw [h1] at ha
      obtain rfl := Option.some.inj ha
      exact h.row.cells (g := g) (by rw [h1]; rfl) j u hu

theorem Sees.kept {w w' : World} {n cap : Nat} {ao : Option Addr} {l : List UInt8} (h : Sees w ao n cap l) (hg : w.grownBy w' none) : Sees w' ao n cap l :=
  ⟨h.1, h.2.1, h.2.2.1, h.2.2.2.1, fun a ha j u hu => hg.cell (h.2.2.2.2 a ha j u hu) (by simp)⟩

/-- Cells of a row of bytes at a place inside it. -/
theorem cell_at {w : World} {lo g n cap : Nat} {l : List UInt8} (h : w.ownsRow lo 5 1 (.slice (some ⟨g, 0, none⟩) n cap) n (Lib.byteCells l)) (j : Nat) (hj : j < l.length) : w.cell? ⟨g, 0 + j, none⟩ = some (.int .u8 (l[j].toNat : Int)) := by
  have := h.cells (g := g) rfl j (.int .u8 (l[j].toNat : Int)) (by simp [Lib.byteCells, hj])
  rw [Addr.add_lit] at this
  exact this

theorem Own.lies {w : World} {lo hi n cap : Nat} {ao : Option Addr} {l : List UInt8} (h : Own w lo hi ao n cap l) : Lies w ao l := by
  intro hpos
  rcases h.shape with ⟨h1, h2, _⟩ | ⟨g, h1, _⟩
  · have := h.len; omega
  · subst h1
    exact ⟨g, 0, rfl, fun j hj => cell_at h.row j hj⟩

theorem Lies.drewN {w : World} {ao : Option Addr} {l : List UInt8} (h : Lies w ao l) (q : Nat) : Lies (w.drewN q) ao l := h

/-- A part of a row, cut out. -/
theorem lies_cut {w : World} {lo g n cap : Nat} {l a b c : List UInt8} (h : w.ownsRow lo 5 1 (.slice (some ⟨g, 0, none⟩) n cap) n (Lib.byteCells l)) (hl : l = a ++ b ++ c) {ao : Option Addr} {p : Nat} (hp : a.length = p) (hao : 0 < b.length → ao = some ⟨g, p, none⟩) : Lies w ao b := by
  intro hpos
  refine ⟨g, p, hao hpos, fun j hj => ?_⟩
  have := cell_at h (p + j) (by subst hl; simp; omega)
  rw [Nat.zero_add] at this
  rw [this]
  have e : l[p + j]'(by subst hl; simp; omega) = b[j] := by
    subst hl; subst hp
    simp [hj]
  rw [e]

theorem sees_nil (w : World) : Sees w none 0 0 [] := ⟨rfl, Nat.le_refl _, Nat.zero_le _, fun _ => ⟨rfl, rfl⟩, fun a h => by simp at h⟩

theorem sees_of {w : World} {x : Addr} {len cap : Nat} {zs : List Int} (hl : len ≤ cap) (hc : cap ≤ maxLen) (hz : zs.length = cap) (hcell : ∀ i, i < zs.length → w.cell? (x.add i) = some (.int .u8 (zs.getD i 0))) (hb : ∀ n ∈ zs, 0 ≤ n ∧ n ≤ 255) : ∃ l, Sees w (some x) len cap l := by
  refine ⟨(zs.take len).map fun z => z.toNat.toUInt8, by simp; omega, hl, hc, fun h => by simp at h, fun a ha j u hu => ?_⟩
  obtain rfl := Option.some.inj ha
  simp only [Lib.byteCells, List.map_map, List.getElem?_map, Option.map_eq_some_iff, Function.comp_apply] at hu
  obtain ⟨z, hz1, rfl⟩ := hu
  rw [List.getElem?_take] at hz1
  split at hz1
  · obtain ⟨hj, e⟩ := List.getElem?_eq_some_iff.1 hz1
    have hm := hb z (by rw [← e]; exact List.getElem_mem _)
    rw [hcell j hj]
    have e2 : zs.getD j 0 = z := by simp [List.getD, hz1]
    rw [e2, Lib.toUInt8_toNat (by omega)]
    congr 2
    omega
  · simp at hz1

theorem clone_own (ao : Option Addr) (n cap : Nat) (l : List UInt8) (w : World) (hs : Sees w ao n cap l) (hn : n ≤ 1048576) :
    Calls Try.prog 13 #[.slice ao n cap] w fun e w' => ∃ ao' cap', e = .returned (.slice ao' n cap') ∧ Own w' w.heap.size w'.heap.size ao' n cap' l ∧ w.grownBy w' none := by
  refine (clone_any ao n cap l w hs hn).mono ?_
  rintro e w' ⟨v', rfl, hown, hg⟩
  have hlt := hown.lt
  rcases hown.2 with ⟨rfl, rfl⟩ | ⟨g, c, cur, rfl, _⟩
  · exact ⟨none, 0, rfl, ⟨hown, by simp⟩, hg⟩
  · exact ⟨_, c, rfl, ⟨hown, by intro a ha; obtain rfl := Option.some.inj ha; exact (hlt g rfl).2⟩, hg⟩

theorem zzpart_own (n m pc cap : Nat) (ao po : Option Addr) (k l : List UInt8) (w : World) (hown : w.ownsRow 0 5 1 (.slice ao n cap) n (Lib.byteCells k)) (hs : Sees w po m pc l) (hm : m ≤ 1048576) (hlim : n ≤ 4194304)
    (hap : ∀ a, po = some a → some a.block ≠ ao.map (·.block)) :
    Calls Try.prog 29 #[.slice ao n cap, .slice po m pc] w fun e w' => ∃ g c, e = .returned (.slice (some ⟨g, 0, none⟩) (n + (Lib.uvarint m).length + m) c) ∧ w'.ownsRow 0 5 1 (.slice (some ⟨g, 0, none⟩) (n + (Lib.uvarint m).length + m) c) (n + (Lib.uvarint m).length + m) (Lib.byteCells (k ++ Lib.uvarint m ++ l)) ∧ w.grownBy w' (ao.map (·.block)) ∧ (some g = ao.map (·.block) ∨ w.heap.size ≤ g) ∧ n + (Lib.uvarint m).length + m ≤ c ∧ c ≤ maxLen := by
  refine (zzpart_any n m pc po _ _ l w hown hs hm hlim (by rw [ownBlock_slice]; exact hap)).mono ?_
  rintro e w' ⟨v', rfl, hown', hst, hnn⟩
  rcases hown'.2 with ⟨rfl, _⟩ | ⟨g, c, cur, rfl, _, _, hc, hm, _⟩
  · exact absurd rfl hnn
  · refine ⟨g, c, rfl, by rw [Lib.byteCells_append, Lib.byteCells_append]; exact hown', by rw [← ownBlock_slice ao n cap]; exact hst.grown, ?_, hc, hm⟩
    rcases hst.follows with h | ⟨k', h, hk⟩
    · exact .inl (by rw [ownBlock_slice, ownBlock_slice] at h; exact h)
    · simp [Value.ownBlock] at h
      exact .inr (by omega)

end Go.Proofs.Qxb6613717a
