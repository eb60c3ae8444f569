/- slices.Insert at []entry (4 cells), one value, onto a row of the call's own. -/
import Derived.Test.Qxb6613717aProg
import Derived.Test.Qxb6613717aRowK
import Derived.WalkSpells
import Derived.WalkLawsBesides
import Derived.Outline
import Derived.Lib.AppendZerosOnto
import Derived.Lib.Overlaps
import Derived.Laws.Externs
import Derived.Deep.RegionLaw
import Derived.KernelRfl
namespace Go.Proofs.Qxb6613717a
open Go.RowKit

theorem info65 : (Try.prog.info? 65).map (fun i => (i.zero, i.size, i.bytes)) = some (some (.agg #[.int .u64 0, .pointer none, .bool false, .int .i64 0]), 4, 32) := by kernel_rfl
theorem size65 : (Try.prog.info? 65).map (·.size) = some 4 := by kernel_rfl

theorem step_cap {w w' : World} {ao : Option Addr} {n c n' c' : Nat} {v' : Value} (h : Step w (.slice ao n c) w' v') : Step w (.slice ao n' c') w' v' := by
  cases ao <;> exact ⟨h.grown, h.follows⟩

set_option maxHeartbeats 800000 in
set_option maxRecDepth 100000 in
/-- At the end. -/
theorem insert_end (n vb vc : Nat) (ao : Option Addr) (cap : Nat) (xs vs : List Value) (w : World) (hown : w.ownsRow 0 65 4 (.slice ao n cap) n xs) (hn : n ≤ 1048576) (hv : vs.length = 4) (h1 : ∀ u ∈ vs, u.oneCell' = true)
    (hvs : w.heap[vb]? = some (.cells vs.toArray 65 (0, 0))) :
    Calls Try.prog 41 #[.slice ao n cap, .int .i64 n, .slice (some ⟨vb, 0, none⟩) 1 vc] w fun e w' => ∃ v', e = .returned v' ∧ w'.ownsRow 0 65 4 v' (n + 1) (xs ++ vs) ∧ Step w (.slice ao n cap) w' v' := by
  obtain ⟨i0, hi, hz0, hz1, hz2⟩ := info_parts info65
  have hcm : n ≤ cap ∧ cap ≤ 9223372036854775807 ∧ (ao = none → cap = 0) := by
    rcases hown.2 with ⟨h, rfl⟩ | ⟨g, c, cur, h, _, _, h3, h4, _⟩
    · simp at h; simp [h.2]
    · simp at h; unfold maxLen at h4; exact ⟨by omega, by omega, fun h' => by simp [h'] at h⟩
  have hcell : ∀ j u, vs[j]? = some u → w.cell? ((⟨vb, 0, none⟩ : Addr).add j) = some u := fun j u hj => by
    rw [Addr.add_lit]
    simp only [World.cell?, hvs]
    simpa using hj
  go_enter Try.func41, Try.ntmps41
  go_wp2_with (at_builtin; refine wpList_append_step rfl _ _ 66 rfl 65 i0 _ 4 32 Try.underlying66 hi hz0 hz1 hz2 rfl (by decide) _ _ _ rfl hown (some ⟨vb, 0, none⟩) 1 vc vs rfl ?c5 ?c6 ?c1 h1 ?c3 ?c4 ?_)
  case c5 => omega
  case c6 => intro h; simp at h
  case c1 => intro a ha j u hj; obtain rfl := Option.some.inj ha; exact hcell j u hj
  case c3 => unfold maxLen; omega
  case c4 => omega
  all_goals
    intro v' w' hown' hst _
    go_wp2
    go_ret
    exact ⟨v', rfl, hown', step_cap hst⟩

theorem shape_of {w : World} {g e : Nat} {cur : List Value} (h : w.heap[g]? = some (.cells cur.toArray e (0, 0))) : w.shape? g = some (e, cur.length) := by
  simp [World.shape?, h]

theorem cell_of {w : World} {g e : Nat} {cur : List Value} (h : w.heap[g]? = some (.cells cur.toArray e (0, 0))) (o j : Nat) (u : Value) (hu : (cur.drop o)[j]? = some u) : w.cell? ((⟨g, o, none⟩ : Addr).add j) = some u := by
  rw [Addr.add_lit]
  simp only [World.cell?, h]
  rw [List.getElem?_drop] at hu
  simpa using hu

set_option maxHeartbeats 1600000 in
set_option maxRecDepth 100000 in
/-- In the middle, there is room. -/
theorem insert_room (n i g vb vc cap : Nat) (xs vs : List Value) (w : World) (hown : w.ownsRow 0 65 4 (.slice (some ⟨g, 0, none⟩) n cap) n xs) (hn : n ≤ 1048576) (hi : i < n) (hroom : n + 1 ≤ cap) (hv : vs.length = 4) (h1 : ∀ u ∈ vs, u.oneCell' = true) (hx1 : ∀ u ∈ xs, u.oneCell' = true)
    (hvs : w.heap[vb]? = some (.cells vs.toArray 65 (0, 0))) (hne : vb ≠ g) :
    Calls Try.prog 41 #[.slice (some ⟨g, 0, none⟩) n cap, .int .i64 i, .slice (some ⟨vb, 0, none⟩) 1 vc] w fun e w' => ∃ v', e = .returned v' ∧ w'.ownsRow 0 65 4 v' (n + 1) (xs.take (i * 4) ++ vs ++ xs.drop (i * 4)) ∧ Step w (.slice (some ⟨g, 0, none⟩) n cap) w' v' := by
  obtain ⟨cur, hg, hcl, htk, hnc, hcm, hxl⟩ := ownsRow_block rfl hown
  unfold maxLen at hcm
  have hov : ∀ lb cb, (callFunc 44 #[.slice (some ⟨vb, 0, none⟩) 1 vc, .slice (some ⟨g, (i + 1) * 4, none⟩) lb cb]).run Try.prog w = .ok (.value (.bool false)) w := fun lb cb => by
    rw [run_callFunc_extern Try.func44 (by kernel_rfl) (by kernel_rfl) (by kernel_rfl) (e := Extern.SlicesOverlaps.overlaps #[66, 66] #[4]) (by kernel_rfl),
      Lib.run_overlaps_apart w 66 4 65 Try.underlying66 4 (fun _ => by kernel_rfl) ⟨vb, 0, none⟩ ⟨g, (i + 1) * 4, none⟩ 1 vc lb cb hne 65 65 vs.length cur.length (shape_of hvs) (shape_of hg) (by omega) (by simp [World.frozen?, hvs]) (by simp [World.frozen?, hvs])]
    rfl
  have hz2 : ¬ ((i : Int) = (n : Int)) := by omega
  have hdl : (xs.drop (i * 4)).length = (n - i) * 4 := by rw [List.length_drop, hxl]; omega
  have hsrc : ∀ j u, (xs.drop (i * 4))[j]? = some u → w.cell? ((⟨g, i * 4, none⟩ : Addr).add j) = some u := fun j u hu => cell_of hg (i * 4) j u (by
    rw [← htk, List.getElem?_drop, List.getElem?_take] at hu
    split at hu
    · rw [List.getElem?_drop]; exact hu
    · simp at hu)
  have hxd1 : ∀ u ∈ xs.drop (i * 4), u.oneCell' = true := fun u hu => hx1 u (List.mem_of_mem_drop hu)
  have hw1 : IntKind.i64.wrap ((i : Int) + 1) = (i : Int) + 1 := by rw [IntKind.wrap_i64]; omega
  have hb1 : (0 : Int) ≤ (i : Int) + 1 := by omega
  have hin : i ≤ n := by omega
  have htn : ((i : Int) + 1).toNat = i + 1 := by omega
  have hb2 : ¬ (cap = i + 1) := by omega
  have hb3 : (i : Int) ≤ (n : Int) + 1 := by omega
  have hb4 : ¬ (cap = i) := by omega
  have HN : Hid ((xs.drop (i * 4)).length = Nat.min (n + 1 - i) (n - i) * 4) := by show _ = _; rw [hdl]; simp only [Nat.min_def]; split <;> omega
  have HF : Hid ((i + 1) * 4 + (xs.drop (i * 4)).length ≤ cur.length) := by show _ ≤ _; rw [hdl, hcl]; omega
  go_enter Try.func41, Try.ntmps41
  go_wp2_with fail
  go_region_law (refine step_copy_rowK rfl (.tmp 73) (.tmp 76) 66 66 rfl 65 4 Try.underlying66 size65 g ((i + 1) * 4) (n - i) (cap - (i + 1)) ⟨g, i * 4, none⟩ (n + 1 - i) (cap - i) (by simp [Act.eval, Act.put]) (by simp [Act.eval, Act.put]) cur 65 hg (xs.drop (i * 4)) HN.out hsrc HF.out hxd1 ?_; intro w1 hh1 hg1)
  have hvw : ∀ j u, vs[j]? = some u → w1.cell? ((⟨vb, 0, none⟩ : Addr).add j) = some u := fun j u hj => hg1.cell (by
      have := cell_of hvs 0 j u (by simpa using hj)
      exact this) (by rw [Addr.add_lit]; simp; exact hne)
  go_wp2_with (refine wpList_copy_rowK rfl (.tmp 80) (.tmp 81) 66 66 rfl 65 4 Try.underlying66 size65 g (i * 4) (n + 1 - i) (cap - i) ⟨vb, 0, none⟩ 1 vc rfl rfl _ 65 hh1.out vs ?d1 hvw ?d2 h1 ?_)
  case d1 => rw [hv]; simp only [Nat.min_def]; split <;> omega
  case d2 => rw [length_splice _ _ _ HF.out]; omega
  intro w2 hh2 hg2
  go_wp2
  go_ret
  have e4 : (n + 1) * 4 = i * 4 + vs.length + (xs.drop (i * 4)).length := by rw [hv, hdl]; omega
  refine ⟨_, rfl, block_ownsRow (cur := splice (splice cur ((i + 1) * 4) (xs.drop (i * 4))) (i * 4) vs) hh2.out ?_ ?_ (by omega) (by unfold maxLen; omega), ⟨⟨hg2.os.trans hg1.os, hg2.tape.trans hg1.tape, hg2.output.trans hg1.output, Nat.le_trans hg1.size hg2.size, fun k hk hne => ?_⟩, .inl rfl⟩⟩
  · rw [length_splice _ _ _ (by rw [length_splice _ _ _ HF.out]; omega), length_splice _ _ _ HF.out]; exact hcl
  · rw [e4, show (i + 1) * 4 = i * 4 + vs.length by omega]
    exact insert_shift _ _ _ _ _ (by rw [List.length_take]; omega) (by rw [← htk, List.take_take]; congr 1; omega) (by omega)
  · exact (hg2.block k (Nat.lt_of_lt_of_le hk hg1.size) hne).trans (hg1.block k hk hne)

end Go.Proofs.Qxb6613717a
