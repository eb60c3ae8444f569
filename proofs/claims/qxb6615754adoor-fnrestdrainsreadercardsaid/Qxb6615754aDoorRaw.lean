/- Raw. -/
import Derived.Test.Qxb6615754aDoorReader
namespace Go.Proofs.Qxb6615754aDoor
open Go.RowKit
set_option linter.unusedVariables false

theorem Only.mono {R B : Nat} {w w' : World} (h : Only R R w w') : Only R B w w' := ⟨h.os, h.tape, h.output, h.size, fun k h1 _ h3 => h.block k h1 h1 h3⟩
theorem Only.heap {R B k : Nat} {w w' : World} {o : Obj} (h : Only R B w w') (hk : w.heap[k]? = some o) (h1 : k ≠ R) (h2 : k ≠ B) : w'.heap[k]? = some o :=
  (h.block k h1 h2 (Array.getElem?_eq_some_iff.1 hk).1).trans hk
theorem Only.cell {R B : Nat} {w w' : World} (h : Only R B w w') {a : Addr} {v : Value} (hc : w.cell? a = some v) (h1 : a.block ≠ R) (h2 : a.block ≠ B) : w'.cell? a = some v := by
  rw [← hc]
  exact World.cell?_of_block (h.block _ h1 h2 (World.block_lt_of_cell? w a hc))
theorem Only.row {R B g : Nat} {w : World} (hB : g = B) (cs : Array Value) : Only R B w (w.setRow g cs) := by
  subst hB
  exact ⟨rfl, rfl, rfl, by simp [World.setRow], fun k _ h2 _ => setRow_other w g k cs h2⟩

theorem ne_kind {w : World} {R B : Nat} {c d : Array Value} {s t : TypeId} {f g : Nat × Nat} (h : w.heap[R]? = some (.cells c s f)) (k : w.heap[B]? = some (.cells d t g)) (hst : s ≠ t) : B ≠ R := by
  rintro rfl
  rw [h] at k
  simp only [Option.some.injEq, Obj.cells.injEq] at k
  exact hst k.2.1

set_option maxHeartbeats 1600000 in
set_option maxRecDepth 100000 in
theorem raw_fail (R B n off k te : Nat) (ao : Option Addr) (pa : Addr) (f err : Value) (w : World) (h : Rd w R ao n off f err) (hn : n ≤ 1048576) (hk : k ≤ 1048576) (ho : off ≤ n) (hg : w.cell? ⟨0, 0, none⟩ = some (.iface te (.pointer (some pa)))) (hR : R ≠ 0)
    (hc : (err = .nilIface ∧ n < off + k) ∨ err = .iface te (.pointer (some pa))) :
    Calls Tryd.prog 8 #[.pointer (some ⟨R, 0, none⟩), .slice (some ⟨B, 0, none⟩) k k] w fun e w' => e = .returned (.tuple #[]) ∧ Rd w' R ao n n f (.iface te (.pointer (some pa))) ∧ Only R R w w' := by
  have C := fixed_fail R n off k te ao pa f err w h hn hk ho hg hR hc
  go_enter Tryd.func8, Tryd.ntmps8
  go_wp2_with (first
    | (go_at_call 13; refine C.mono ?_; rintro e w1 ⟨rfl, h2, hO2⟩)
    | (refine wpList_copy_nothing rfl (.tmp 4) (.tmp 8) 22 22 rfl 5 Tryd.underlying22 size5 _ _ _ _ _ _ rfl rfl (Nat.min_eq_left (Nat.zero_le _)) ?_)
    | fail)
  go_end0
  exact ⟨rfl, h2, hO2⟩

set_option maxHeartbeats 1600000 in
set_option maxRecDepth 100000 in
theorem raw_ok (R B n off k J lo : Nat) (ao : Option Addr) (f : Value) (zs : List Int) (w : World) (h : Rd w R ao n off f .nilIface) (hn : n ≤ 1048576) (hJ : J = off + k) (hJn : J ≤ n) (hz : Row lo w ao zs) (hl : zs.length = n)
    (hB : w.heap[B]? = some (.cells (List.replicate k (Value.int .u8 0)).toArray 5 (0, 0))) (hne : ao ≠ some ⟨B, 0, none⟩) :
    Calls Tryd.prog 8 #[.pointer (some ⟨R, 0, none⟩), .slice (some ⟨B, 0, none⟩) k k] w fun e w' => e = .returned (.tuple #[]) ∧ Rd w' R ao n J f .nilIface ∧ w'.heap[B]? = some (.cells (ints .u8 ((zs.drop off).take k)).toArray 5 (0, 0)) ∧ Only R B w w' := by
  have hBR : B ≠ R := ne_kind h hB (by decide)
  subst hJ
  by_cases hk : k = 0
  · subst hk
    have C := fixed_ok R n off 0 (off + 0) ao f w h hn rfl hJn _ rfl
    rw [if_pos rfl] at C
    go_enter Tryd.func8, Tryd.ntmps8
    go_wp2_with (first
      | (go_at_call 13; refine C.mono ?_; rintro e w1 ⟨rfl, h2, hO2⟩)
      | (refine wpList_copy_nothing rfl (.tmp 4) (.tmp 8) 22 22 rfl 5 Tryd.underlying22 size5 _ _ _ _ _ _ rfl rfl (Nat.min_self 0) ?_)
      | fail)
    go_end0
    exact ⟨rfl, h2, hO2.heap (by simpa [ints] using hB) hBR hBR, hO2.mono⟩
  · rcases hz with ⟨_, e⟩ | ⟨g, rfl, _, hD⟩
    · subst e; simp at hl; omega
    · have hgB : g ≠ B := fun e => hne (by rw [e])
      have hgR : g ≠ R := ne_kind h hD (by decide)
      have C := fixed_ok R n off k (off + k) (some ⟨g, 0, none⟩) f w h hn rfl hJn (some ⟨g, off, none⟩) (show _ = _ by rw [if_neg hk]; simp [Addr.add_lit])
      have hcl : (ints .u8 ((zs.drop off).take k)).length = k := by simp [ints]; omega
      have hsrc : ∀ j v, (ints .u8 ((zs.drop off).take k))[j]? = some v → w.cell? (Addr.add ⟨g, off, none⟩ j) = some v := by
        intro j v hv
        have hj : j < k := by
          rcases Nat.lt_or_ge j k with h | h
          · exact h
          · rw [List.getElem?_eq_none (by omega)] at hv; simp at hv
        have e : (ints .u8 zs)[off + j]? = some v := by
          rw [← hv]
          simp only [ints, List.getElem?_map, List.getElem?_take, List.getElem?_drop]
          rw [if_pos hj]
        rw [Addr.add_lit]
        exact (cell_mid hD e).1
      obtain ⟨cs, hcs⟩ : ∃ cs, ints .u8 ((zs.drop off).take k) = cs := ⟨_, rfl⟩
      have hone : ∀ v ∈ cs, v.oneCell' = true := by rw [← hcs]; exact ints_one _ _
      rw [hcs] at hcl hsrc ⊢
      clear hcs
      go_enter Tryd.func8, Tryd.ntmps8
      go_wp2_with (first
        | (go_at_call 13; refine C.mono ?_; rintro e w1 ⟨rfl, h2, hO2⟩)
        | (refine wpList_copy_own rfl (.tmp 4) (.tmp 8) 22 22 rfl 5 Tryd.underlying22 size5 B 0 k k ⟨g, off, none⟩ k k rfl rfl (List.replicate k (Value.int .u8 0)).toArray 5 (hO2.heap hB hBR hBR) cs ?c1 ?c2 ?c3 hone ?_)
        | fail)
      case c1 => rw [hcl]; exact (Nat.min_self k).symm
      case c2 => exact fun j v hv => hO2.cell (hsrc j v hv) (by rw [Addr.add_lit]; exact hgR) (by rw [Addr.add_lit]; exact hgR)
      case c3 => simp [hcl]
      have hh := setRow_heap w1 B _ cs.toArray 5 _ (hO2.heap hB hBR hBR)
      have hO3 : Only R B w1 (w1.setRow B cs.toArray) := Only.row rfl _
      have h3 : Rd (w1.setRow B cs.toArray) R (some ⟨g, 0, none⟩) n (off + k) f .nilIface := (setRow_other w1 B R _ (Ne.symm hBR)).trans h2
      go_end0
      exact ⟨rfl, h3, hh, hO2.mono.trans hO3⟩

end Go.Proofs.Qxb6615754aDoor
