/- The walk of FnAppendPartAfterAnyPrefix. -/
import Derived.Test.Qxb6613717aTwoParts
namespace Go.Proofs.Qxb6613717a
open Go.RowKit

set_option maxHeartbeats 400000 in
theorem bytes2_yes (a0 a1 : Option Addr) (n0 n1 c0 c1 : Nat) (w : World) (h : n0 + n1 ≤ 1048576) :
    Calls Try.prog 31 #[.slice a0 n0 c0, .slice a1 n1 c1] w fun e w' => e = .returned (.bool true) ∧ w = w' := by
  go_enter Try.func31, Try.ntmps31
  go_wp2
  go_ret
  exact ⟨rfl, rfl⟩

set_option maxHeartbeats 400000 in
theorem bytes2_no (a0 a1 : Option Addr) (n0 n1 c0 c1 : Nat) (w : World) (h : 1048576 < n0 + n1) (h0 : n0 ≤ maxLen) (h1 : n1 ≤ maxLen) :
    Calls Try.prog 31 #[.slice a0 n0 c0, .slice a1 n1 c1] w fun e w' => e = .returned (.bool false) ∧ w = w' := by
  unfold maxLen at h0 h1
  go_enter Try.func31, Try.ntmps31
  go_wp2
  all_goals
    go_ret
    exact ⟨rfl, rfl⟩

set_option maxHeartbeats 1600000 in
set_option maxRecDepth 100000 in
theorem after_walk (a0 a1 : Option Addr) (n0 n1 c0 c1 : Nat) (l0 l1 : List UInt8) (w : World) (s0 : Sees w a0 n0 c0 l0) (s1 : Sees w a1 n1 c1 l1) :
    Calls Try.prog 6 #[.slice a0 n0 c0, .slice a1 n1 c1] w fun e w' => e = .returned (.bool true) ∧ Below w.heap.size w w' := by
  by_cases hsum : n0 + n1 ≤ 1048576
  · have H0 := s0.1
    have H1 := s1.1
    have u1 := Lib.uvarint_pos n1
    have u1' := Lib.uvarint_length64 (x := n1) (by omega)
    go_enter Try.func6, Try.ntmps6
    go_wp2_with fail
    refine (bytes2_yes a0 a1 n0 n1 c0 c1 _ hsum).mono ?_
    rintro e w' ⟨rfl, rfl⟩
    go_wp2_with fail
    refine (clone_own a0 n0 c0 l0 w s0 (by omega)).mono ?_
    rintro e w1 ⟨b0, d0, rfl, o0, g1⟩
    have z1 := g1.size
    have s1 := s1.kept g1
    clear s0
    go_wp2_with fail
    refine (clone_own a1 n1 c1 l1 w1 s1 (by omega)).mono ?_
    rintro e w2 ⟨b1, d1, rfl, o1, g2⟩
    have z2 := g2.size
    have o0 := o0.kept g2 (by simp)
    clear s1
    go_wp2_with fail
    refine (clone_own b0 n0 d0 l0 w2 o0.sees (by omega)).mono ?_
    rintro e w3 ⟨b2, d2, rfl, o2, g3⟩
    have z3 := g3.size
    have o0 := o0.kept g3 (by simp)
    have o1 := o1.kept g3 (by simp)
    go_wp2_with fail
    refine (clone_own b1 n1 d1 l1 w3 o1.sees (by omega)).mono ?_
    rintro e w4 ⟨b3, d3, rfl, o3, g4⟩
    have z4 := g4.size
    have o0 := o0.kept g4 (by simp)
    have o1 := o1.kept g4 (by simp)
    have o2 := o2.kept g4 (by simp)
    go_wp2_with fail
    refine (zzpart_own n0 n1 d3 d2 b2 b3 l0 l1 w4 (ownsRow_base o2.row (Nat.zero_le _)) o3.sees (by omega) (by omega) (blocks_apart o3 o2 (Nat.le_refl _))).mono ?_
    rintro e w5 ⟨g, cg, rfl, og, g5, hg5, hgc, hgm⟩
    have z5 := g5.size
    have o0 := o0.kept g5 (row_apart o2 (by omega))
    have o1 := o1.kept g5 (row_apart o2 (by omega))
    have hgl : w2.heap.size ≤ g ∧ g < w5.heap.size := ⟨first_lo o2 hg5 (by omega), (og.lt g rfl).2⟩
    have HR : Hid (∀ k, b2.map (·.block) = some k → w2.heap.size ≤ k) := fun k hk => by have := row_apart o2 (lo' := 0) (Nat.le_refl _) k hk; omega
    clear o2 o3 hg5
    go_wp2_with fail
    refine (clone_own b1 n1 d1 l1 w5 o1.sees (by omega)).mono ?_
    rintro e w6 ⟨b4, d4, rfl, o4, g6⟩
    have z6 := g6.size
    have o0 := o0.kept g6 (by simp)
    have o1 := o1.kept g6 (by simp)
    have og := og.kept g6 (by simp [Value.ownBlock])
    go_wp2_with fail
    refine (zzpart_own 0 n1 d4 0 none b4 [] l1 w6 (World.ownsRow_nil _ _ _ _) o4.sees (by omega) (by omega) (by simp)).mono ?_
    rintro e w7 ⟨gg, cc, rfl, oo, g7, hg7, hcc, hcm⟩
    have z7 := g7.size
    have o0 := o0.kept g7 (by simp)
    have o1 := o1.kept g7 (by simp)
    have og := og.kept g7 (by simp [Value.ownBlock])
    have bel : Below w.heap.size w w7 := by
      have q1 := (Below.refl w.heap.size w).grown g1 (by omega) (by simp)
      have q2 := q1.grown g2 (by omega) (by simp)
      have q3 := q2.grown g3 (by omega) (by simp)
      have q4 := q3.grown g4 (by omega) (by simp)
      have q5 := q4.grown g5 (by omega) (fun k hk => by have := HR.out k hk; omega)
      have q6 := q5.grown g6 (by omega) (by simp)
      exact q6.grown g7 (by omega) (by simp)
    simp only [Nat.zero_add, List.nil_append] at oo hcc ⊢
    clear o4 hg7 hgl g1 g2 g3 g4 g5 g6 g7 z1 z2 z3 z4 z5 z6 z7
    have e0 := o0.lies
    have e1 := o1.lies
    clear o0 o1
    go_wp2_with fail
    refine (equal_yes _ b0 n0 cg d0 l0 w7 H0 (by omega) (lies_cut og (a := []) (b := l0) (c := Lib.uvarint n1 ++ l1) (by simp) rfl (fun _ => rfl)) e0).mono ?_
    rintro e w9 ⟨rfl, q1, rfl⟩
    go_wp2_with fail
    have em : n0 + (Lib.uvarint n1).length + n1 - n0 = (Lib.uvarint n1).length + n1 := by omega
    rw [em]
    clear em
    refine (equal_yes _ _ ((Lib.uvarint n1).length + n1) _ cc (Lib.uvarint n1 ++ l1) (w7.drewN q1) (by simp; omega) (by omega) (lies_cut og (a := l0) (b := Lib.uvarint n1 ++ l1) (c := []) (p := n0) (by simp) H0 (fun _ => rfl)) (lies_cut oo (a := []) (b := Lib.uvarint n1 ++ l1) (c := []) (by simp) rfl (fun _ => rfl))).mono ?_
    rintro e w9 ⟨rfl, q2, rfl⟩
    go_wp2_with fail
    refine (read_any gg 0 _ cc 0 n1 _ l1 (w7.drewN (q1 + q2)) (by simp; omega) (by omega) (by omega) (cell_at oo) rfl (by omega)).mono ?_
    rintro e w9 ⟨rfl, rfl⟩
    go_wp2_with fail
    · refine (equal_yes _ b1 n1 _ d1 l1 (w7.drewN (q1 + q2)) H1 (by omega) (lies_cut oo (a := Lib.uvarint n1) (b := l1) (c := []) (by simp) rfl (fun h => absurd h (by omega))) e1).mono ?_
      rintro e w9 ⟨rfl, q3, rfl⟩
      go_wp2
      go_ret
      exact ⟨rfl, below_drewN bel _⟩
    · refine (equal_yes _ b1 n1 _ d1 l1 (w7.drewN (q1 + q2)) H1 (by omega) (lies_cut oo (a := Lib.uvarint n1) (b := l1) (c := []) (p := (Lib.uvarint n1).length) (by simp) rfl (fun _ => rfl)) e1).mono ?_
      rintro e w9 ⟨rfl, q3, rfl⟩
      go_wp2
      go_ret
      exact ⟨rfl, below_drewN bel _⟩
  · go_enter Try.func6, Try.ntmps6
    go_wp2_with fail
    refine (bytes2_no a0 a1 n0 n1 c0 c1 _ (by omega) (Nat.le_trans s0.2.1 s0.2.2.1) (Nat.le_trans s1.2.1 s1.2.2.1)).mono ?_
    rintro e w' ⟨rfl, rfl⟩
    go_wp2
    go_ret
    exact ⟨rfl, Below.refl _ _⟩

end Go.Proofs.Qxb6613717a
