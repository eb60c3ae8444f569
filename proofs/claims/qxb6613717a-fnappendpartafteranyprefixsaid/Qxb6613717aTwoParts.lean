/- The walk of FnAppendPartTwoPartsReadBack. -/
import Derived.Test.Qxb6613717aBytes
namespace Go.Proofs.Qxb6613717a
open Go.RowKit

set_option maxHeartbeats 400000 in
theorem bytes3_yes (a0 a1 a2 : Option Addr) (n0 n1 n2 c0 c1 c2 : Nat) (w : World) (h : n0 + n1 + n2 ≤ 1048576) :
    Calls Try.prog 28 #[.slice a0 n0 c0, .slice a1 n1 c1, .slice a2 n2 c2] w fun e w' => e = .returned (.bool true) ∧ w = w' := by
  go_enter Try.func28, Try.ntmps28
  go_wp2
  go_ret
  exact ⟨rfl, rfl⟩

set_option maxHeartbeats 400000 in
theorem bytes3_no (a0 a1 a2 : Option Addr) (n0 n1 n2 c0 c1 c2 : Nat) (w : World) (h : 1048576 < n0 + n1 + n2) (h0 : n0 ≤ maxLen) (h1 : n1 ≤ maxLen) (h2 : n2 ≤ maxLen) :
    Calls Try.prog 28 #[.slice a0 n0 c0, .slice a1 n1 c1, .slice a2 n2 c2] w fun e w' => e = .returned (.bool false) ∧ w = w' := by
  unfold maxLen at h0 h1 h2
  go_enter Try.func28, Try.ntmps28
  go_wp2
  all_goals
    go_ret
    exact ⟨rfl, rfl⟩

theorem drop_three {α : Type} (a b c d e : List α) {n : Nat} (h : (a ++ b ++ c).length = n) : (a ++ b ++ c ++ d ++ e).drop n = d ++ e := by
  subst h
  rw [List.append_assoc (a ++ b ++ c) d e]
  exact List.drop_left

theorem blocks_apart {w w' : World} {lo hi lo' hi' n cap n' cap' : Nat} {ao bo : Option Addr} {l l' : List UInt8} (h : Own w lo hi ao n cap l) (h' : Own w' lo' hi' bo n' cap' l') (hlt : hi' ≤ lo) : ∀ a, ao = some a → some a.block ≠ bo.map (·.block) := by
  rintro a rfl
  rcases h.shape with ⟨h1, _⟩ | ⟨g, h1, h2, _⟩
  · simp at h1
  · obtain rfl := Option.some.inj h1
    rcases h'.shape with ⟨rfl, _⟩ | ⟨g', rfl, h3, h4⟩
    · simp
    · simp; omega

theorem row_apart {w : World} {lo hi n cap lo' hi' : Nat} {ao : Option Addr} {l : List UInt8} (h : Own w lo hi ao n cap l) (hlt : hi' ≤ lo) : ∀ k, ao.map (·.block) = some k → k < lo' ∨ hi' ≤ k := by
  intro k hk
  rcases h.shape with ⟨rfl, _⟩ | ⟨g, rfl, h2, _⟩
  · simp at hk
  · simp at hk; omega

theorem first_lo {w : World} {lo hi n cap g N : Nat} {ao : Option Addr} {l : List UInt8} (h : Own w lo hi ao n cap l) (hg : some g = ao.map (·.block) ∨ N ≤ g) (hN : lo ≤ N) : lo ≤ g := by
  rcases h.shape with ⟨rfl, _⟩ | ⟨g', rfl, h2, _⟩
  · simp at hg; omega
  · simp at hg; omega

set_option maxHeartbeats 1600000 in
set_option maxRecDepth 100000 in
theorem two_walk (a0 a1 a2 : Option Addr) (n0 n1 n2 c0 c1 c2 : Nat) (l0 l1 l2 : List UInt8) (w : World) (s0 : Sees w a0 n0 c0 l0) (s1 : Sees w a1 n1 c1 l1) (s2 : Sees w a2 n2 c2 l2) :
    Calls Try.prog 5 #[.slice a0 n0 c0, .slice a1 n1 c1, .slice a2 n2 c2] w fun e w' => e = .returned (.bool true) ∧ Below w.heap.size w w' := by
  by_cases hsum : n0 + n1 + n2 ≤ 1048576
  · have H0 := s0.1
    have H1 := s1.1
    have H2 := s2.1
    have u1 := Lib.uvarint_pos n1
    have u1' := Lib.uvarint_length64 (x := n1) (by omega)
    have u2 := Lib.uvarint_pos n2
    have u2' := Lib.uvarint_length64 (x := n2) (by omega)
    go_enter Try.func5, Try.ntmps5
    go_wp2_with fail
    refine (bytes3_yes a0 a1 a2 n0 n1 n2 c0 c1 c2 _ hsum).mono ?_
    rintro e w' ⟨rfl, rfl⟩
    go_wp2_with fail
    refine (clone_own a0 n0 c0 l0 w s0 (by omega)).mono ?_
    rintro e w1 ⟨b0, d0, rfl, o0, g1⟩
    have z1 := g1.size
    have s1 := s1.kept g1
    have s2 := s2.kept g1
    clear s0
    go_wp2_with fail
    refine (clone_own a1 n1 c1 l1 w1 s1 (by omega)).mono ?_
    rintro e w2 ⟨b1, d1, rfl, o1, g2⟩
    have z2 := g2.size
    have o0 := o0.kept g2 (by simp)
    have s2 := s2.kept g2
    clear s1
    go_wp2_with fail
    refine (clone_own a2 n2 c2 l2 w2 s2 (by omega)).mono ?_
    rintro e w3 ⟨b2, d2, rfl, o2, g3⟩
    have z3 := g3.size
    have o0 := o0.kept g3 (by simp)
    have o1 := o1.kept g3 (by simp)
    clear s2
    go_wp2_with fail
    refine (clone_own b0 n0 d0 l0 w3 o0.sees (by omega)).mono ?_
    rintro e w4 ⟨b3, d3, rfl, o3, g4⟩
    have z4 := g4.size
    have o0 := o0.kept g4 (by simp)
    have o1 := o1.kept g4 (by simp)
    have o2 := o2.kept g4 (by simp)
    go_wp2_with fail
    refine (clone_own b1 n1 d1 l1 w4 o1.sees (by omega)).mono ?_
    rintro e w5 ⟨b4, d4, rfl, o4, g5⟩
    have z5 := g5.size
    have o0 := o0.kept g5 (by simp)
    have o1 := o1.kept g5 (by simp)
    have o2 := o2.kept g5 (by simp)
    have o3 := o3.kept g5 (by simp)
    go_wp2_with fail
    refine (zzpart_own n0 n1 d4 d3 b3 b4 l0 l1 w5 (ownsRow_base o3.row (Nat.zero_le _)) o4.sees (by omega) (by omega) (blocks_apart o4 o3 (Nat.le_refl _))).mono ?_
    rintro e w6 ⟨g, cg, rfl, og, g6, hg6, hgc, hgm⟩
    have z6 := g6.size
    have o0 := o0.kept g6 (row_apart o3 (by omega))
    have o1 := o1.kept g6 (row_apart o3 (by omega))
    have o2 := o2.kept g6 (row_apart o3 (by omega))
    have hgl : w3.heap.size ≤ g ∧ g < w6.heap.size := ⟨first_lo o3 hg6 (by omega), (og.lt g rfl).2⟩
    have HR : Hid (∀ k, b3.map (·.block) = some k → w3.heap.size ≤ k) := fun k hk => by have := row_apart o3 (lo' := 0) (Nat.le_refl _) k hk; omega
    clear o3 o4 hg6
    go_wp2_with fail
    refine (clone_own b2 n2 d2 l2 w6 o2.sees (by omega)).mono ?_
    rintro e w7 ⟨b5, d5, rfl, o5, g7⟩
    have z7 := g7.size
    have o0 := o0.kept g7 (by simp)
    have o1 := o1.kept g7 (by simp)
    have o2 := o2.kept g7 (by simp)
    have og := og.kept g7 (by simp [Value.ownBlock])
    go_wp2_with fail
    refine (zzpart_own (n0 + (Lib.uvarint n1).length + n1) n2 d5 cg (some ⟨g, 0, none⟩) b5 (l0 ++ Lib.uvarint n1 ++ l1) l2 w7 og o5.sees (by omega) (by omega) (fun a ha => by have := o5.shape; rcases this with ⟨h, _⟩ | ⟨k, h, h1, h2⟩ <;> rw [ha] at h <;> simp at h; subst h; simp; omega)).mono ?_
    rintro e w8 ⟨gg, cc, rfl, oo, g8, hg8, hcc, hcm⟩
    have z8 := g8.size
    have o0 := o0.kept g8 (by intro k hk; simp at hk; omega)
    have o1 := o1.kept g8 (by intro k hk; simp at hk; omega)
    have o2 := o2.kept g8 (by intro k hk; simp at hk; omega)
    have bel : Below w.heap.size w w8 := by
      have q1 := (Below.refl w.heap.size w).grown g1 (by omega) (by simp)
      have q2 := q1.grown g2 (by omega) (by simp)
      have q3 := q2.grown g3 (by omega) (by simp)
      have q4 := q3.grown g4 (by omega) (by simp)
      have q5 := q4.grown g5 (by omega) (by simp)
      have q6 := q5.grown g6 (by omega) (fun k hk => by have := HR.out k hk; omega)
      have q7 := q6.grown g7 (by omega) (by simp)
      exact q7.grown g8 (by omega) (fun k hk => by simp at hk; omega)
    clear og o5 hg8 hgl g1 g2 g3 g4 g5 g6 g7 g8 z1 z2 z3 z4 z5 z6 z7 z8 hgc hgm
    have e0 := o0.lies
    have e1 := o1.lies
    have e2 := o2.lies
    clear o0 o1 o2
    go_wp2_with fail
    refine (equal_yes _ b0 n0 cc d0 l0 w8 H0 (by omega) (lies_cut oo (a := []) (b := l0) (c := Lib.uvarint n1 ++ l1 ++ Lib.uvarint n2 ++ l2) (by simp) rfl (fun _ => rfl)) e0).mono ?_
    rintro e w9 ⟨rfl, q1, rfl⟩
    go_wp2_with fail
    refine (read_any gg 0 _ cc n0 n1 _ (l1 ++ Lib.uvarint n2 ++ l2) (w8.drewN q1) (by simp; omega) (by omega) (by omega) (cell_at oo) (by simp [H0]) (by omega)).mono ?_
    rintro e w9 ⟨rfl, rfl⟩
    go_wp2_with fail
    refine (equal_yes _ b1 n1 _ d1 l1 (w8.drewN q1) H1 (by omega) (lies_cut oo (a := l0 ++ Lib.uvarint n1) (b := l1) (c := Lib.uvarint n2 ++ l2) (by simp) (by simp [H0]) (fun _ => rfl)) e1).mono ?_
    rintro e w9 ⟨rfl, q2, rfl⟩
    go_wp2_with fail
    have em : ((n0 : Int) + ((Lib.uvarint n1).length : Int) + (n1 : Int)) = ((n0 + (Lib.uvarint n1).length + n1 : Nat) : Int) := by omega
    rw [em]
    refine (read_any gg 0 _ cc (n0 + (Lib.uvarint n1).length + n1) n2 _ l2 (w8.drewN (q1 + q2)) (by simp; omega) (by omega) (by omega) (cell_at oo) (drop_three _ _ _ _ _ (by simp; omega)) (by omega)).mono ?_
    rintro e w9 ⟨rfl, rfl⟩
    clear em
    go_wp2_with fail
    · refine (equal_yes _ b2 n2 _ d2 l2 (w8.drewN (q1 + q2)) H2 (by omega) (lies_cut oo (a := l0 ++ Lib.uvarint n1 ++ l1 ++ Lib.uvarint n2) (b := l2) (c := []) (by simp) rfl (fun h => absurd h (by omega))) e2).mono ?_
      rintro e w9 ⟨rfl, q3, rfl⟩
      go_wp2
      go_ret
      exact ⟨rfl, below_drewN bel _⟩
    · refine (equal_yes _ b2 n2 _ d2 l2 (w8.drewN (q1 + q2)) H2 (by omega) (lies_cut oo (a := l0 ++ Lib.uvarint n1 ++ l1 ++ Lib.uvarint n2) (b := l2) (c := []) (p := n0 + (Lib.uvarint n1).length + n1 + (Lib.uvarint n2).length) (by simp) (by simp; omega) (fun _ => rfl)) e2).mono ?_
      rintro e w9 ⟨rfl, q3, rfl⟩
      go_wp2
      go_ret
      exact ⟨rfl, below_drewN bel _⟩
  · go_enter Try.func5, Try.ntmps5
    go_wp2_with fail
    refine (bytes3_no a0 a1 a2 n0 n1 n2 c0 c1 c2 _ (by omega) (Nat.le_trans s0.2.1 s0.2.2.1) (Nat.le_trans s1.2.1 s1.2.2.1) (Nat.le_trans s2.2.1 s2.2.2.1)).mono ?_
    rintro e w' ⟨rfl, rfl⟩
    go_wp2
    go_ret
    exact ⟨rfl, Below.refl _ _⟩

end Go.Proofs.Qxb6613717a
