/- slices.Insert at []entry in the middle, where there is no room; and the three roads as one. -/
import Derived.Test.Qxb6613717aInsert
namespace Go.Proofs.Qxb6613717a
open Go.RowKit

theorem grow4 {w w1 : World} {row : Option Nat} {g : Nat} (h : w.grownBy w1 row) (hg : w.heap.size ≤ g) {w2 : World} (k : w1.grownBy w2 (some g)) : w.grownBy w2 row :=
  ⟨k.os.trans h.os, k.tape.trans h.tape, k.output.trans h.output, Nat.le_trans h.size k.size, fun i hi hne => (k.block i (Nat.lt_of_lt_of_le hi h.size) (by simp; omega)).trans (h.block i hi hne)⟩

set_option maxHeartbeats 1600000 in
set_option maxRecDepth 100000 in
theorem insert_grown (n i g vb vc cap : Nat) (xs vs : List Value) (w : World) (hown : w.ownsRow 0 65 4 (.slice (some ⟨g, 0, none⟩) n cap) n xs) (hn : n ≤ 1048576) (hi : i < n) (hroom : cap < n + 1) (hv : vs.length = 4) (h1 : ∀ u ∈ vs, u.oneCell' = true) (hx1 : ∀ u ∈ xs, u.oneCell' = true)
    (hvs : w.heap[vb]? = some (.cells vs.toArray 65 (0, 0))) :
    Calls Try.prog 41 #[.slice (some ⟨g, 0, none⟩) n cap, .int .i64 i, .slice (some ⟨vb, 0, none⟩) 1 vc] w fun e w' => ∃ v', e = .returned v' ∧ w'.ownsRow 0 65 4 v' (n + 1) (xs.take (i * 4) ++ vs ++ xs.drop (i * 4)) ∧ Step w (.slice (some ⟨g, 0, none⟩) n cap) w' v' := by
  obtain ⟨cur, hg, hcl, htk, hnc, hcm, hxl⟩ := ownsRow_block rfl hown
  obtain ⟨i0, hi0, hz0, hz1, hz2⟩ := info_parts info65
  unfold maxLen at hcm
  have hz2' : ¬ ((i : Int) = (n : Int)) := by omega
  have hz3 : (cap : Int) < (n : Int) + 1 := by omega
  have hdl : (xs.drop (i * 4)).length = (n - i) * 4 := by rw [List.length_drop, hxl]; omega
  have hik : i + (n + 1 - i) = n + 1 := by omega
  have hsrc : ∀ j u, (xs.drop (i * 4))[j]? = some u → w.cell? ((⟨g, i * 4, none⟩ : Addr).add j) = some u := fun j u hu => cell_of hg (i * 4) j u (by
    rw [← htk, List.getElem?_drop, List.getElem?_take] at hu
    split at hu
    · rw [List.getElem?_drop]; exact hu
    · simp at hu)
  have hxd1 : ∀ u ∈ xs.drop (i * 4), u.oneCell' = true := fun u hu => hx1 u (List.mem_of_mem_drop hu)
  have hold : (Builtin.firstCells i0.size i (.slice (some ⟨g, 0, none⟩) i cap)).run Try.prog w.drew = .ok (xs.take (i * 4)).toArray w.drew := by
    rw [hz1]
    exact run_firstCells_some w.drew 4 i ⟨g, 0, none⟩ i cap (xs.take (i * 4)) (by rw [List.length_take]; omega) (fun j u hu => by
      rw [List.getElem?_take] at hu
      split at hu
      · exact hown.cells (g := g) rfl j u hu
      · simp at hu)
  have hrz : ∀ ty, (Builtin.append_ #[66, 3] ty #[.slice (some ⟨g, 0, none⟩) i cap, .int .i64 ((n : Int) + 1 - (i : Int))]).run Try.prog w =
      .ok (.slice (some ⟨w.heap.size, 0, none⟩) (n + 1) (grownCap w (n + 1) cap 65)) (w.drew.alloc (.cells ((xs.take (i * 4)).toArray ++ Builtin.zeroCells (Value.agg #[.int .u64 0, .pointer none, .bool false, .int .i64 0]).cells (n + 1 - i) ++ Builtin.zeroCells (Value.agg #[.int .u64 0, .pointer none, .bool false, .int .i64 0]).cells (grownCap w (n + 1) cap 65 - (n + 1))) 65)) := fun ty => by
    have h := Lib.run_append_grow_zeros w 66 3 ty 65 i0 _ .i64 .i64 Try.underlying66 Try.underlying3 hi0 hz0 (some ⟨g, 0, none⟩) i cap (xs.take (i * 4)) hold (n + 1 - i) (by omega) (by omega) (by omega) (by omega) (by rw [hz2]; omega) (by rw [hz2, hik]; exact growslice_fits (by omega) (by omega))
    rw [hik] at h
    rw [show (n : Int) + 1 - (i : Int) = ((n + 1 - i : Nat) : Int) by omega]
    exact h
  obtain ⟨G, hG⟩ : ∃ G, G = grownCap w (n + 1) cap 65 := ⟨_, rfl⟩
  have hGn : n + 1 ≤ G := by rw [hG]; exact grownCap_ge w _ _ _
  have hGm : G ≤ 9223372036854775807 := by
    have := grownCap_le_maxLen w (n + 1) cap 65 (by unfold maxLen; omega)
    rw [← hG] at this
    unfold maxLen at this
    exact this
  obtain ⟨ROW, hROW⟩ : ∃ ROW : List Value, ROW = xs.take (i * 4) ++ (Builtin.zeroCells (Value.agg #[.int .u64 0, .pointer none, .bool false, .int .i64 0]).cells (n + 1 - i)).toList ++ (Builtin.zeroCells (Value.agg #[.int .u64 0, .pointer none, .bool false, .int .i64 0]).cells (G - (n + 1))).toList := ⟨_, rfl⟩
  have hRa : (xs.take (i * 4)).toArray ++ Builtin.zeroCells (Value.agg #[.int .u64 0, .pointer none, .bool false, .int .i64 0]).cells (n + 1 - i) ++ Builtin.zeroCells (Value.agg #[.int .u64 0, .pointer none, .bool false, .int .i64 0]).cells (G - (n + 1)) = ROW.toArray := by
    rw [hROW]; apply Array.ext'; simp
  rw [← hG, hRa] at hrz
  have hRl : ROW.length = G * 4 := by
    rw [hROW]
    simp only [List.length_append, List.length_take, Array.length_toList, size_zeroCells]
    have : (Value.agg #[.int .u64 0, .pointer none, .bool false, .int .i64 0]).cells.size = 4 := rfl
    rw [this]
    omega
  have hRt : ROW.take (i * 4) = xs.take (i * 4) := by
    rw [hROW, List.append_assoc, List.take_append_of_le_length (by rw [List.length_take]; omega), List.take_take]
    congr 1
    omega
  obtain ⟨W1, hW1⟩ : ∃ W1, W1 = w.drew.alloc (.cells ROW.toArray 65) := ⟨_, rfl⟩
  have hh : W1.heap[w.heap.size]? = some (.cells ROW.toArray 65 (0, 0)) := by rw [hW1]; exact heap_alloc_new w.drew _
  have hgw : w.grownBy W1 none := by rw [hW1]; exact ⟨rfl, rfl, rfl, by simp, fun k hk _ => Below.heap_alloc w.drew _ k hk⟩
  rw [← hW1] at hrz
  have HW1 : Hid (W1 = w.drew.alloc (.cells ROW.toArray 65)) := hW1
  have HG : Hid (G = grownCap w (n + 1) cap 65) := hG
  have HROW : Hid (ROW.length = G * 4) := hRl
  have HH : Hid (W1.heap[w.heap.size]? = some (.cells ROW.toArray 65 (0, 0))) := hh
  clear hW1 hG hROW hRa hRl hh
  have hGi : ¬ (G = i) := by omega
  have hGi1 : ¬ (G = i + 1) := by omega
  have hci : ¬ (cap = i) := by omega
  have hvw : ∀ j u, vs[j]? = some u → W1.cell? ((⟨vb, 0, none⟩ : Addr).add j) = some u := fun j u hj => hgw.cell (by
      have := cell_of hvs 0 j u (by simpa using hj)
      exact this) (by simp)
  go_enter Try.func41, Try.ntmps41
  go_wp2_with (first
    | (at_builtin; refine Lib.wpList_append_run _ rfl _ _ _ _ rfl _ _ rfl rfl _ _ (hrz _) ?_)
    | (refine wpList_copy_rowK rfl (.tmp 43) (.tmp 44) 66 66 rfl 65 4 Try.underlying66 size65 w.heap.size (i * 4) (n + 1 - i) (G - i) ⟨vb, 0, none⟩ 1 vc rfl rfl _ 65 HH.out vs ?d1 hvw ?d2 h1 ?_))
  case d1 => rw [hv]; simp only [Nat.min_def]; split <;> omega
  case d2 => rw [HROW.out]; omega
  intro w2 hh2 hg2
  have hgs : w.grownBy w2 none := grow4 hgw (Nat.le_refl _) hg2
  have hsr2 : ∀ j u, (xs.drop (i * 4))[j]? = some u → w2.cell? ((⟨g, i * 4, none⟩ : Addr).add j) = some u := fun j u hu => hgs.cell (hsrc j u hu) (by simp)
  have hw1 : IntKind.i64.wrap ((i : Int) + 1) = (i : Int) + 1 := by rw [IntKind.wrap_i64]; omega
  have hb1 : (0 : Int) ≤ (i : Int) + 1 := by omega
  have hin : i ≤ n := by omega
  have htn : ((i : Int) + 1).toNat = i + 1 := by omega
  have hb3 : (i : Int) ≤ (n : Int) + 1 := by omega
  have HN : Hid ((xs.drop (i * 4)).length = Nat.min (n - i) (n - i) * 4) := by show _ = _; rw [hdl]; simp only [Nat.min_def]; split <;> omega
  have HF : Hid ((i + 1) * 4 + (xs.drop (i * 4)).length ≤ (splice ROW (i * 4) vs).length) := by show _ ≤ _; rw [hdl, length_splice _ _ _ (by rw [HROW.out]; omega), HROW.out]; omega
  go_wp2_with fail
  go_region_law (refine step_copy_rowK rfl (.tmp 50) (.tmp 53) 66 66 rfl 65 4 Try.underlying66 size65 w.heap.size ((i + 1) * 4) (n - i) (G - (i + 1)) ⟨g, i * 4, none⟩ (n - i) (cap - i) (by simp [Act.eval, Act.put]) (by simp [Act.eval, Act.put]) (splice ROW (i * 4) vs) 65 hh2.out (xs.drop (i * 4)) HN.out hsr2 HF.out hxd1 ?_; intro w3 hh3 hg3)
  go_wp2
  go_ret
  have hg4 : w.grownBy w3 none := grow4 hgs (Nat.le_refl _) (w1 := w2) ⟨hg3.os, hg3.tape, hg3.output, hg3.size, hg3.block⟩
  have e4 : (n + 1) * 4 = i * 4 + vs.length + (xs.drop (i * 4)).length := by rw [hv, hdl]; omega
  refine ⟨_, rfl, block_ownsRow (cur := splice (splice ROW (i * 4) vs) ((i + 1) * 4) (xs.drop (i * 4))) hh3.out ?_ ?_ (by omega) (by unfold maxLen; omega), ⟨⟨hg4.os, hg4.tape, hg4.output, hg4.size, fun k hk _ => hg4.block k hk (by simp)⟩, .inr ⟨_, rfl, Nat.le_refl _⟩⟩⟩
  · rw [length_splice _ _ _ HF.out, length_splice _ _ _ (by rw [HROW.out]; omega)]; exact HROW.out
  · rw [e4, show (i + 1) * 4 = i * 4 + vs.length by omega]
    exact insert_grow _ _ _ _ _ hRt (by rw [HROW.out]; omega)

/-- All roads. -/
theorem insert_any (n i vb vc cap : Nat) (ao : Option Addr) (xs vs : List Value) (w : World) (hown : w.ownsRow 0 65 4 (.slice ao n cap) n xs) (hn : n ≤ 1048576) (hi : i ≤ n) (hv : vs.length = 4) (h1 : ∀ u ∈ vs, u.oneCell' = true) (hx1 : ∀ u ∈ xs, u.oneCell' = true)
    (hvs : w.heap[vb]? = some (.cells vs.toArray 65 (0, 0))) (hne : ∀ a, ao = some a → vb ≠ a.block) :
    Calls Try.prog 41 #[.slice ao n cap, .int .i64 i, .slice (some ⟨vb, 0, none⟩) 1 vc] w fun e w' => ∃ v', e = .returned v' ∧ w'.ownsRow 0 65 4 v' (n + 1) (xs.take (i * 4) ++ vs ++ xs.drop (i * 4)) ∧ Step w (.slice ao n cap) w' v' := by
  by_cases h : i = n
  · subst h
    have hx := hown.1
    refine (insert_end i vb vc ao cap xs vs w hown hn hv h1 hvs).mono ?_
    rintro e w' ⟨v', rfl, ho, hs⟩
    refine ⟨v', rfl, ?_, hs⟩
    rw [List.take_of_length_le (by omega), List.drop_eq_nil_of_le (by omega), List.append_nil]
    exact ho
  · rcases hown.2 with ⟨_, h0⟩ | ⟨g, c, cur, he, _⟩
    · omega
    · simp only [Value.slice.injEq, true_and] at he
      obtain ⟨rfl, rfl⟩ := he
      by_cases hr : n + 1 ≤ cap
      · exact insert_room n i g vb vc cap xs vs w hown hn (by omega) hr hv h1 hx1 hvs (hne _ rfl)
      · exact insert_grown n i g vb vc cap xs vs w hown hn (by omega) (by omega) hv h1 hx1 hvs

end Go.Proofs.Qxb6613717a
