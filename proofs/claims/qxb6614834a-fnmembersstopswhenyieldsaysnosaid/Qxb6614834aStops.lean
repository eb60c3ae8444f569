/- FnMembersStopsWhenYieldSaysNo: the walk. -/
import Derived.Test.Qxb6614834aFacts
namespace Go.Proofs.Qxb6614834a
open Go.RowKit
set_option linter.unusedVariables false

theorem stops_size2 : (Try.prog.info? 2).map (·.size) = some 1 := by kernel_rfl
theorem stops_size21 : (Try.prog.info? 21).map (·.size) = some 1 := by kernel_rfl

set_option maxHeartbeats 3200000 in
set_option maxRecDepth 100000 in
theorem stops_any (a0 a1 a2 a3 a4 a5 a6 : Option Addr) (n n1 n2 n3 n4 n5 n6 c0 c1 c2 c3 c4 c5 c6 : Nat) (zb zm zd zw zl : List Int) (ss os : List Nat) (stop : Int) (w : World)
    (s0 : SeesV w a0 n c0 (ints .i64 zb)) (s1 : SeesV w a1 n1 c1 (ints .i32 zm)) (s2 : SeesV w a2 n2 c2 (ints .i32 zd)) (s3 : SeesV w a3 n3 c3 (ints .i32 zw)) (s4 : SeesV w a4 n4 c4 (ints .i32 zl))
    (s5 : SeesV w a5 n5 c5 (u32s ss)) (s6 : SeesV w a6 n6 c6 (u32s os)) (hss : Small ss) (hos : Small os) :
    Calls Try.prog 4 #[.slice a0 n c0, .slice a1 n1 c1, .slice a2 n2 c2, .slice a3 n3 c3, .slice a4 n4 c4, .slice a5 n5 c5, .slice a6 n6 c6, .int .i64 stop] w fun e w' => e = .returned (.bool true) ∧ Below w.heap.size w w' := by
  have mx : ∀ {n c : Nat} {a : Option Addr} {xs : List Value}, SeesV w a n c xs → n ≤ maxLen := fun h => Nat.le_trans h.2.1 h.2.2.1
  have HS : Hid (Small ss ∧ Small os) := ⟨hss, hos⟩
  clear hss hos
  have hl5 : ss.length = n5 := by have := s5.1; simpa [u32s] using this
  have hl6 : os.length = n6 := by have := s6.1; simpa [u32s] using this
  go_enter Try.func4, Try.ntmps4
  go_wp2_with fail
  refine (bytes11_any a0 a1 a2 a3 a4 a5 a6 n n1 n2 n3 n4 n5 n6 c0 c1 c2 c3 c4 c5 c6 _ w (mx s0) (mx s1) (mx s2) (mx s3) (mx s4) (mx s5) (mx s6)).mono ?_
  rintro e w' ⟨⟨r, rfl, -⟩, rfl⟩
  cases r with
  | false =>
    go_wp2_with fail
    go_ret
    exact ⟨rfl, Below.refl _ _⟩
  | true =>
    rcases Nat.lt_or_ge 32768 n with h0 | h0
    · go_wp2_with fail
      go_ret
      exact ⟨rfl, Below.refl _ _⟩
    · skip
      rcases Nat.lt_or_ge 32768 n1 with h1 | h1
      · go_wp2_with fail
        go_ret
        exact ⟨rfl, Below.refl _ _⟩
      · skip
        rcases Nat.lt_or_ge 32768 n2 with h2 | h2
        · go_wp2_with fail
          go_ret
          exact ⟨rfl, Below.refl _ _⟩
        · skip
          rcases Nat.lt_or_ge 32768 n3 with h3 | h3
          · go_wp2_with fail
            go_ret
            exact ⟨rfl, Below.refl _ _⟩
          · skip
            rcases Nat.lt_or_ge 32768 n4 with h4 | h4
            · go_wp2_with fail
              go_ret
              exact ⟨rfl, Below.refl _ _⟩
            · skip
              rcases Nat.lt_or_ge 32768 n5 with h5 | h5
              · go_wp2_with fail
                go_ret
                exact ⟨rfl, Below.refl _ _⟩
              · skip
                rcases Nat.lt_or_ge 32768 n6 with h6 | h6
                · go_wp2_with fail
                  go_ret
                  exact ⟨rfl, Below.refl _ _⟩
                · skip
                  go_wp2_with fail
                  refine (prem_any a0 a1 a2 a3 a4 a5 a6 n n1 n2 n3 n4 n5 n6 c0 c1 c2 c3 c4 c5 c6 ss os w h0 h1 h2 h3 h4 h5 h6 s5 s6 HS.out.1 HS.out.2).mono ?_
                  rintro e w' ⟨⟨r, rfl, hG⟩, q, rfl⟩
                  have Hw : Hid (World.grownBy w (w.drewN q) none) := grownBy_drewN w q none
                  have s0 := s0.drewN q
                  have s1 := s1.drewN q
                  have s2 := s2.drewN q
                  have s3 := s3.drewN q
                  have s4 := s4.drewN q
                  have s5 := s5.drewN q
                  have s6 := s6.drewN q
                  have hbq : Below w.heap.size w (w.drewN q) := ⟨rfl, rfl, rfl, Nat.le_refl _, fun _ _ => rfl⟩
                  cases r with
                  | false =>
                    go_wp2_with fail
                    go_ret
                    exact ⟨rfl, hbq⟩
                  | true =>
                    have HG := hG rfl
                    clear hG hbq mx
                    have e1 := HG.e1.symm
                    have e2 := HG.e2.symm
                    have e3 := HG.e3.symm
                    have e4 := HG.e4.symm
                    subst e1 e2 e3 e4
                    obtain ⟨m, hm⟩ : ∃ m, n5 = m + 1 := ⟨n5 - 1, by have := HG.pos; omega⟩
                    subst hm
                    have HG : Hid (Good n n n n n ss os) := HG
                    have HL5 : Hid (ss.length = m + 1) := hl5
                    have HL6 : Hid (os.length = n6) := hl6
                    clear hl5 hl6 h1 h2 h3 h4
                    generalize w.drewN q = wc at Hw s0 s1 s2 s3 s4 s5 s6 ⊢
                    obtain ⟨B, hB⟩ : ∃ B, (!a0.isNone) = B := ⟨_, rfl⟩
                    have HQ : ∀ (l c : Nat) (wx : World), (binOp .neq 22 (.slice a0 l c) (.slice none 0 0)).run Try.prog wx = .ok (.bool B) wx := fun l c wx => by rw [run_neq_slice_nil (P := Try.prog) wx 22 2 a0 l c Try.underlying22, hB]
                    have HB : Hid ((!a0.isNone) = B) := hB
                    clear hB
                    go_upto_region 7 with fail
                    go_cut [81] from 28 to 79 (fun v wx => wx = wc ∧ v = .bool B)
                    case first =>
                      go_wp2_with fail
                      go_meet
                      exact ⟨rfl, rfl⟩
                    case rest =>
                    obtain ⟨rfl, rfl⟩ := hcut
                    go_upto_if 81 with fail
                    clear HQ
                    go_cut [0, 17] from 80 to 88 (fun v vz wx => ∃ a' c', v = .slice a' n c' ∧ SeesV wx a' n c' (ints .i64 zb) ∧ World.grownBy wc wx none)
                    case first =>
                      clear HG Hw s1 s2 s3 s4 s5 s6
                      cases B with
                      | false =>
                        clear HB
                        go_wp2_with fail
                        go_meet
                        exact ⟨_, _, rfl, s0, World.grownBy.refl _ _⟩
                      | true =>
                        obtain ⟨a, ha⟩ : ∃ a, a0 = some a := by
                          have := HB.out
                          cases a0 with
                          | none => simp at this
                          | some a => exact ⟨a, rfl⟩
                        subst ha
                        clear HB
                        obtain ⟨hl, hnc, hcm, hnil, hcell⟩ := s0
                        obtain ⟨i0, hi, hz0, hz1, hz2⟩ := info_parts info2
                        go_wp2_with (first
                          | (at_make; refine wpList_make_full _ rfl _ _ 22 rfl wc.heap.size 2 i0 (.int .i64 0) 1 Try.underlying22 hi hz0 hz1 _ _ _ _ n rfl rfl rfl rfl (by rw [hz2]; omega) (by unfold maxLen; omega) (Nat.le_refl _) ?_; intro w1 hown hgrow; have hh : Hid _ := full_heap hown)
                          | (refine wpList_copy_splice rfl (.tmp 85) (.tmp 86) 22 22 rfl 2 Try.underlying22 stops_size2 _ _ _ _ _ _ rfl rfl wc.heap.size 0 _ 2 hh.out (ints .i64 zb) ?c1 ?c2 ?c3 (ints_one _ _) wc.heap.size wc ?c4 (Nat.le_refl _) ?_)
                          | fail)
                        case c1 => rw [hl]; exact (Nat.min_self n).symm
                        case c2 => intro _ j u hu; exact hgrow.cell (hcell a rfl j u hu) (by simp)
                        case c3 => rw [hl]; simp [size_madeCells]
                        case c4 => exact (Below.refl _ _).grown hgrow (Nat.le_refl _) (by simp)
                        intro w2 hh2 hb2
                        go_wp2_with fail
                        go_meet
                        have hsp : splice (madeCells #[Value.int .i64 0] n).toList 0 (ints .i64 zb) = ints .i64 zb := splice_all _ _ (by rw [hl]; simp [size_madeCells])
                        have hh3 := hh2.out
                        rw [hsp] at hh3
                        exact ⟨_, _, rfl, own_seesV (full_own (base := 0) hh3 hl (Nat.zero_le _) (by unfold maxLen; omega)), ⟨hb2.os, hb2.tape, hb2.output, hb2.size, fun k hk _ => hb2.block k hk⟩⟩
                    case rest =>
                      clear s0 HB
                      obtain ⟨a0, c0, rfl, s0, gx⟩ := hcut
                      have s1 := s1.kept gx
                      have s2 := s2.kept gx
                      have s3 := s3.kept gx
                      have s4 := s4.kept gx
                      have s5 := s5.kept gx
                      have s6 := s6.kept gx
                      have Hw : Hid (World.grownBy w wc none) := grownBy_none_trans Hw.out gx
                      clear gx
                      obtain ⟨B, hB⟩ : ∃ B, (!a1.isNone) = B := ⟨_, rfl⟩
                      have HQ : ∀ (l c : Nat) (wx : World), (binOp .neq 23 (.slice a1 l c) (.slice none 0 0)).run Try.prog wx = .ok (.bool B) wx := fun l c wx => by rw [run_neq_slice_nil (P := Try.prog) wx 23 21 a1 l c Try.underlying23, hB]
                      have HB : Hid ((!a1.isNone) = B) := hB
                      clear hB
                      go_upto_if 90 with fail
                      clear HQ
                      go_cut [1, 18] from 89 to 97 (fun v vz wx => ∃ a' c', v = .slice a' n c' ∧ SeesV wx a' n c' (ints .i32 zm) ∧ World.grownBy wc wx none)
                      case first =>
                        clear HG Hw s0 s2 s3 s4 s5 s6
                        cases B with
                        | false =>
                          clear HB
                          go_wp2_with fail
                          go_meet
                          exact ⟨_, _, rfl, s1, World.grownBy.refl _ _⟩
                        | true =>
                          obtain ⟨a, ha⟩ : ∃ a, a1 = some a := by
                            have := HB.out
                            cases a1 with
                            | none => simp at this
                            | some a => exact ⟨a, rfl⟩
                          subst ha
                          clear HB
                          obtain ⟨hl, hnc, hcm, hnil, hcell⟩ := s1
                          obtain ⟨i0, hi, hz0, hz1, hz2⟩ := info_parts info21
                          go_wp2_with (first
                            | (at_make; refine wpList_make_full _ rfl _ _ 23 rfl wc.heap.size 21 i0 (.int .i32 0) 1 Try.underlying23 hi hz0 hz1 _ _ _ _ n rfl rfl rfl rfl (by rw [hz2]; omega) (by unfold maxLen; omega) (Nat.le_refl _) ?_; intro w1 hown hgrow; have hh : Hid _ := full_heap hown)
                            | (refine wpList_copy_splice rfl (.tmp 94) (.tmp 95) 23 23 rfl 21 Try.underlying23 stops_size21 _ _ _ _ _ _ rfl rfl wc.heap.size 0 _ 21 hh.out (ints .i32 zm) ?c1 ?c2 ?c3 (ints_one _ _) wc.heap.size wc ?c4 (Nat.le_refl _) ?_)
                            | fail)
                          case c1 => rw [hl]; exact (Nat.min_self n).symm
                          case c2 => intro _ j u hu; exact hgrow.cell (hcell a rfl j u hu) (by simp)
                          case c3 => rw [hl]; simp [size_madeCells]
                          case c4 => exact (Below.refl _ _).grown hgrow (Nat.le_refl _) (by simp)
                          intro w2 hh2 hb2
                          go_wp2_with fail
                          go_meet
                          have hsp : splice (madeCells #[Value.int .i32 0] n).toList 0 (ints .i32 zm) = ints .i32 zm := splice_all _ _ (by rw [hl]; simp [size_madeCells])
                          have hh3 := hh2.out
                          rw [hsp] at hh3
                          exact ⟨_, _, rfl, own_seesV (full_own (base := 0) hh3 hl (Nat.zero_le _) (by unfold maxLen; omega)), ⟨hb2.os, hb2.tape, hb2.output, hb2.size, fun k hk _ => hb2.block k hk⟩⟩
                      case rest =>
                        clear s1 HB
                        obtain ⟨a1, c1, rfl, s1, gx⟩ := hcut
                        have s0 := s0.kept gx
                        have s2 := s2.kept gx
                        have s3 := s3.kept gx
                        have s4 := s4.kept gx
                        have s5 := s5.kept gx
                        have s6 := s6.kept gx
                        have Hw : Hid (World.grownBy w wc none) := grownBy_none_trans Hw.out gx
                        clear gx
                        obtain ⟨B, hB⟩ : ∃ B, (!a2.isNone) = B := ⟨_, rfl⟩
                        have HQ : ∀ (l c : Nat) (wx : World), (binOp .neq 23 (.slice a2 l c) (.slice none 0 0)).run Try.prog wx = .ok (.bool B) wx := fun l c wx => by rw [run_neq_slice_nil (P := Try.prog) wx 23 21 a2 l c Try.underlying23, hB]
                        have HB : Hid ((!a2.isNone) = B) := hB
                        clear hB
                        go_upto_if 99 with fail
                        clear HQ
                        go_cut [2, 19] from 98 to 106 (fun v vz wx => ∃ a' c', v = .slice a' n c' ∧ SeesV wx a' n c' (ints .i32 zd) ∧ World.grownBy wc wx none)
                        case first =>
                          clear HG Hw s0 s1 s3 s4 s5 s6
                          cases B with
                          | false =>
                            clear HB
                            go_wp2_with fail
                            go_meet
                            exact ⟨_, _, rfl, s2, World.grownBy.refl _ _⟩
                          | true =>
                            obtain ⟨a, ha⟩ : ∃ a, a2 = some a := by
                              have := HB.out
                              cases a2 with
                              | none => simp at this
                              | some a => exact ⟨a, rfl⟩
                            subst ha
                            clear HB
                            obtain ⟨hl, hnc, hcm, hnil, hcell⟩ := s2
                            obtain ⟨i0, hi, hz0, hz1, hz2⟩ := info_parts info21
                            go_wp2_with (first
                              | (at_make; refine wpList_make_full _ rfl _ _ 23 rfl wc.heap.size 21 i0 (.int .i32 0) 1 Try.underlying23 hi hz0 hz1 _ _ _ _ n rfl rfl rfl rfl (by rw [hz2]; omega) (by unfold maxLen; omega) (Nat.le_refl _) ?_; intro w1 hown hgrow; have hh : Hid _ := full_heap hown)
                              | (refine wpList_copy_splice rfl (.tmp 103) (.tmp 104) 23 23 rfl 21 Try.underlying23 stops_size21 _ _ _ _ _ _ rfl rfl wc.heap.size 0 _ 21 hh.out (ints .i32 zd) ?c1 ?c2 ?c3 (ints_one _ _) wc.heap.size wc ?c4 (Nat.le_refl _) ?_)
                              | fail)
                            case c1 => rw [hl]; exact (Nat.min_self n).symm
                            case c2 => intro _ j u hu; exact hgrow.cell (hcell a rfl j u hu) (by simp)
                            case c3 => rw [hl]; simp [size_madeCells]
                            case c4 => exact (Below.refl _ _).grown hgrow (Nat.le_refl _) (by simp)
                            intro w2 hh2 hb2
                            go_wp2_with fail
                            go_meet
                            have hsp : splice (madeCells #[Value.int .i32 0] n).toList 0 (ints .i32 zd) = ints .i32 zd := splice_all _ _ (by rw [hl]; simp [size_madeCells])
                            have hh3 := hh2.out
                            rw [hsp] at hh3
                            exact ⟨_, _, rfl, own_seesV (full_own (base := 0) hh3 hl (Nat.zero_le _) (by unfold maxLen; omega)), ⟨hb2.os, hb2.tape, hb2.output, hb2.size, fun k hk _ => hb2.block k hk⟩⟩
                        case rest =>
                          clear s2 HB
                          obtain ⟨a2, c2, rfl, s2, gx⟩ := hcut
                          have s0 := s0.kept gx
                          have s1 := s1.kept gx
                          have s3 := s3.kept gx
                          have s4 := s4.kept gx
                          have s5 := s5.kept gx
                          have s6 := s6.kept gx
                          have Hw : Hid (World.grownBy w wc none) := grownBy_none_trans Hw.out gx
                          clear gx
                          obtain ⟨B, hB⟩ : ∃ B, (!a3.isNone) = B := ⟨_, rfl⟩
                          have HQ : ∀ (l c : Nat) (wx : World), (binOp .neq 23 (.slice a3 l c) (.slice none 0 0)).run Try.prog wx = .ok (.bool B) wx := fun l c wx => by rw [run_neq_slice_nil (P := Try.prog) wx 23 21 a3 l c Try.underlying23, hB]
                          have HB : Hid ((!a3.isNone) = B) := hB
                          clear hB
                          go_upto_if 108 with fail
                          clear HQ
                          go_cut [3, 20] from 107 to 115 (fun v vz wx => ∃ a' c', v = .slice a' n c' ∧ SeesV wx a' n c' (ints .i32 zw) ∧ World.grownBy wc wx none)
                          case first =>
                            clear HG Hw s0 s1 s2 s4 s5 s6
                            cases B with
                            | false =>
                              clear HB
                              go_wp2_with fail
                              go_meet
                              exact ⟨_, _, rfl, s3, World.grownBy.refl _ _⟩
                            | true =>
                              obtain ⟨a, ha⟩ : ∃ a, a3 = some a := by
                                have := HB.out
                                cases a3 with
                                | none => simp at this
                                | some a => exact ⟨a, rfl⟩
                              subst ha
                              clear HB
                              obtain ⟨hl, hnc, hcm, hnil, hcell⟩ := s3
                              obtain ⟨i0, hi, hz0, hz1, hz2⟩ := info_parts info21
                              go_wp2_with (first
                                | (at_make; refine wpList_make_full _ rfl _ _ 23 rfl wc.heap.size 21 i0 (.int .i32 0) 1 Try.underlying23 hi hz0 hz1 _ _ _ _ n rfl rfl rfl rfl (by rw [hz2]; omega) (by unfold maxLen; omega) (Nat.le_refl _) ?_; intro w1 hown hgrow; have hh : Hid _ := full_heap hown)
                                | (refine wpList_copy_splice rfl (.tmp 112) (.tmp 113) 23 23 rfl 21 Try.underlying23 stops_size21 _ _ _ _ _ _ rfl rfl wc.heap.size 0 _ 21 hh.out (ints .i32 zw) ?c1 ?c2 ?c3 (ints_one _ _) wc.heap.size wc ?c4 (Nat.le_refl _) ?_)
                                | fail)
                              case c1 => rw [hl]; exact (Nat.min_self n).symm
                              case c2 => intro _ j u hu; exact hgrow.cell (hcell a rfl j u hu) (by simp)
                              case c3 => rw [hl]; simp [size_madeCells]
                              case c4 => exact (Below.refl _ _).grown hgrow (Nat.le_refl _) (by simp)
                              intro w2 hh2 hb2
                              go_wp2_with fail
                              go_meet
                              have hsp : splice (madeCells #[Value.int .i32 0] n).toList 0 (ints .i32 zw) = ints .i32 zw := splice_all _ _ (by rw [hl]; simp [size_madeCells])
                              have hh3 := hh2.out
                              rw [hsp] at hh3
                              exact ⟨_, _, rfl, own_seesV (full_own (base := 0) hh3 hl (Nat.zero_le _) (by unfold maxLen; omega)), ⟨hb2.os, hb2.tape, hb2.output, hb2.size, fun k hk _ => hb2.block k hk⟩⟩
                          case rest =>
                            clear s3 HB
                            obtain ⟨a3, c3, rfl, s3, gx⟩ := hcut
                            have s0 := s0.kept gx
                            have s1 := s1.kept gx
                            have s2 := s2.kept gx
                            have s4 := s4.kept gx
                            have s5 := s5.kept gx
                            have s6 := s6.kept gx
                            have Hw : Hid (World.grownBy w wc none) := grownBy_none_trans Hw.out gx
                            clear gx
                            obtain ⟨B, hB⟩ : ∃ B, (!a4.isNone) = B := ⟨_, rfl⟩
                            have HQ : ∀ (l c : Nat) (wx : World), (binOp .neq 23 (.slice a4 l c) (.slice none 0 0)).run Try.prog wx = .ok (.bool B) wx := fun l c wx => by rw [run_neq_slice_nil (P := Try.prog) wx 23 21 a4 l c Try.underlying23, hB]
                            have HB : Hid ((!a4.isNone) = B) := hB
                            clear hB
                            go_upto_if 117 with fail
                            clear HQ
                            go_cut [4, 21] from 116 to 124 (fun v vz wx => ∃ a' c', v = .slice a' n c' ∧ SeesV wx a' n c' (ints .i32 zl) ∧ World.grownBy wc wx none)
                            case first =>
                              clear HG Hw s0 s1 s2 s3 s5 s6
                              cases B with
                              | false =>
                                clear HB
                                go_wp2_with fail
                                go_meet
                                exact ⟨_, _, rfl, s4, World.grownBy.refl _ _⟩
                              | true =>
                                obtain ⟨a, ha⟩ : ∃ a, a4 = some a := by
                                  have := HB.out
                                  cases a4 with
                                  | none => simp at this
                                  | some a => exact ⟨a, rfl⟩
                                subst ha
                                clear HB
                                obtain ⟨hl, hnc, hcm, hnil, hcell⟩ := s4
                                obtain ⟨i0, hi, hz0, hz1, hz2⟩ := info_parts info21
                                go_wp2_with (first
                                  | (at_make; refine wpList_make_full _ rfl _ _ 23 rfl wc.heap.size 21 i0 (.int .i32 0) 1 Try.underlying23 hi hz0 hz1 _ _ _ _ n rfl rfl rfl rfl (by rw [hz2]; omega) (by unfold maxLen; omega) (Nat.le_refl _) ?_; intro w1 hown hgrow; have hh : Hid _ := full_heap hown)
                                  | (refine wpList_copy_splice rfl (.tmp 121) (.tmp 122) 23 23 rfl 21 Try.underlying23 stops_size21 _ _ _ _ _ _ rfl rfl wc.heap.size 0 _ 21 hh.out (ints .i32 zl) ?c1 ?c2 ?c3 (ints_one _ _) wc.heap.size wc ?c4 (Nat.le_refl _) ?_)
                                  | fail)
                                case c1 => rw [hl]; exact (Nat.min_self n).symm
                                case c2 => intro _ j u hu; exact hgrow.cell (hcell a rfl j u hu) (by simp)
                                case c3 => rw [hl]; simp [size_madeCells]
                                case c4 => exact (Below.refl _ _).grown hgrow (Nat.le_refl _) (by simp)
                                intro w2 hh2 hb2
                                go_wp2_with fail
                                go_meet
                                have hsp : splice (madeCells #[Value.int .i32 0] n).toList 0 (ints .i32 zl) = ints .i32 zl := splice_all _ _ (by rw [hl]; simp [size_madeCells])
                                have hh3 := hh2.out
                                rw [hsp] at hh3
                                exact ⟨_, _, rfl, own_seesV (full_own (base := 0) hh3 hl (Nat.zero_le _) (by unfold maxLen; omega)), ⟨hb2.os, hb2.tape, hb2.output, hb2.size, fun k hk _ => hb2.block k hk⟩⟩
                            case rest =>
                              clear s4 HB
                              obtain ⟨a4, c4, rfl, s4, gx⟩ := hcut
                              have s0 := s0.kept gx
                              have s1 := s1.kept gx
                              have s2 := s2.kept gx
                              have s3 := s3.kept gx
                              have s5 := s5.kept gx
                              have s6 := s6.kept gx
                              have Hw : Hid (World.grownBy w wc none) := grownBy_none_trans Hw.out gx
                              clear gx
                              have HN : Hid (True) := trivial
                              go_upto_if 130 with fail
                              generalize hB : decide (stop < 1) = B
                              go_cut [23] from 125 to 130 (fun v wx => wx = wc ∧ ∃ u : Int, v = .int .i64 u ∧ 1 ≤ u ∧ stop ≤ u ∧ (1 < u → u = stop))
                              case first =>
                                cases B with
                                | true =>
                                  have hs1 : stop < 1 := of_decide_eq_true hB
                                  go_wp2_with fail
                                  go_meet
                                  exact ⟨rfl, 1, rfl, by omega, by omega, by omega⟩
                                | false =>
                                  have hs1 : ¬ stop < 1 := of_decide_eq_false hB
                                  go_wp2_with fail
                                  go_meet
                                  exact ⟨rfl, stop, rfl, by omega, by omega, by omega⟩
                              case rest =>
                                obtain ⟨rfl, u, rfl, hu1, hu2, hu3⟩ := hcut
                                clear hB
                                go_upto_if 133 with fail
                                generalize hB : decide ((m : Int) < u) = B
                                go_cut [23] from 131 to 134 (fun v wx => wx = wc ∧ ∃ c : Nat, v = .int .i64 (c : Int) ∧ c ≤ m ∧ (c = m ∨ (0 < c ∧ stop ≤ (c : Int))) ∧ ∀ i : Nat, 0 < i → i < c → (i : Int) < stop)
                                case first =>
                                  cases B with
                                  | true =>
                                    have hs1 : (m : Int) < u := of_decide_eq_true hB
                                    go_wp2_with fail
                                    go_meet
                                    exact ⟨rfl, m, rfl, Nat.le_refl _, .inl rfl, fun i h1 h2 => by have := hu3 (by omega); omega⟩
                                  | false =>
                                    have hs1 : ¬ (m : Int) < u := of_decide_eq_false hB
                                    go_wp2_with fail
                                    go_meet
                                    exact ⟨rfl, u.toNat, by rw [Int.toNat_of_nonneg (by omega)], by omega, .inr ⟨by omega, by omega⟩, fun i h1 h2 => by have := hu3 (by omega); omega⟩
                                case rest =>
                                  obtain ⟨rfl, c, rfl, hcm, hc1, hc2⟩ := hcut
                                  have HC : Hid (c ≤ m ∧ (c = m ∨ (0 < c ∧ stop ≤ (c : Int))) ∧ ∀ i : Nat, 0 < i → i < c → (i : Int) < stop) := ⟨hcm, hc1, hc2⟩
                                  clear hu1 hu2 hu3 hc1 hc2 hB
                                  go_wp2_with fail
                                  refine (clone_any a5 (m + 1) c5 ss _ s5 (by omega)).mono ?_
                                  rintro e w1 ⟨b5, d5, rfl, o5, gx⟩
                                  have s0 := s0.kept gx
                                  have s1 := s1.kept gx
                                  have s2 := s2.kept gx
                                  have s3 := s3.kept gx
                                  have s4 := s4.kept gx
                                  have s5 := s5.kept gx
                                  have s6 := s6.kept gx
                                  have p5 := own_seesV o5
                                  have Hw : Hid (World.grownBy w w1 none) := grownBy_none_trans Hw.out gx
                                  clear o5 gx
                                  go_wp2_with fail
                                  refine (clone_any a6 n6 c6 os _ s6 (by omega)).mono ?_
                                  rintro e w2 ⟨b6, d6, rfl, o6, gx⟩
                                  have s0 := s0.kept gx
                                  have s1 := s1.kept gx
                                  have s2 := s2.kept gx
                                  have s3 := s3.kept gx
                                  have s4 := s4.kept gx
                                  have s5 := s5.kept gx
                                  have s6 := s6.kept gx
                                  have p5 := p5.kept gx
                                  have p6 := own_seesV o6
                                  have hsp : Hid (∀ a, b6 = some a → a.spot = none) := own_spot o6
                                  have Hw : Hid (World.grownBy w w2 none) := grownBy_none_trans Hw.out gx
                                  clear o6 gx
                                  go_wp2_with fail
                                  refine (new_any a0 a1 a2 a3 a4 b5 b6 n c0 c1 c2 c3 c4 d5 d6 m n6 zb zm zd zw zl ss os _ h0 (by omega) (by omega) s0 s1 s2 s3 s4 p5 p6 hsp.out).mono ?_
                                  rintro e w3 ⟨L, rfl, hE, gx⟩
                                  clear p5 p6 hsp
                                  have s0 := s0.kept gx
                                  have s1 := s1.kept gx
                                  have s2 := s2.kept gx
                                  have s3 := s3.kept gx
                                  have s4 := s4.kept gx
                                  have s5 := s5.kept gx
                                  have s6 := s6.kept gx
                                  have Hw : Hid (World.grownBy w w3 none) := grownBy_none_trans Hw.out gx
                                  clear gx
                                  have hlast : ss.getD m 0 = os.length := by have := HG.out.last; rwa [HL5.out, Nat.add_sub_cancel] at this
                                  have hrows : ∀ i, i < os.length → os.getD i 0 < (rowsOf n zb zm zd zw zl).length := by intro i hi; rw [rowsOf_len]; exact HG.out.rows i hi
                                  have C := muntil_any stop L m (rowsOf n zb zm zd zw zl) ss os w3 hE HG.out.first HL5.out (by omega) (by rw [HL6.out]; omega) (by rw [rowsOf_len]; omega) HS.out.1 HS.out.2 (mono_of HG.out.mono HL5.out) hlast hrows
                                  clear hlast hrows hE
                                  go_upto_region 36 with fail
                                  go_wp2_with (go_at_call 12; refine C.mono ?_)
                                  rintro e w4 ⟨⟨c', k1, k2, k3, hGot⟩, hb4⟩
                                  obtain rfl : c = c' := want_one HC.out.1 HC.out.2.1 HC.out.2.2 k1 k2 k3
                                  clear k1 k2 k3
                                  obtain ⟨x0, x1, x2, x3, x4, x5, x6, k0, k1, k2, k3, k4, k5, k6, t, ht, rfl, y0, y1, y2, y3, y4, y5, y6⟩ := hGot
                                  have HT : Hid (ss.getD c 0 = t) := by
                                    show _ = _
                                    rw [ht, rsOf_len]
                                    have := mono_of HG.out.mono HL5.out c m (by omega) (Nat.le_refl _)
                                    have h2 := HG.out.last
                                    rw [HL5.out, Nat.add_sub_cancel] at h2
                                    omega
                                  have s0 := s0.below hb4
                                  have s1 := s1.below hb4
                                  have s2 := s2.below hb4
                                  have s3 := s3.below hb4
                                  have s4 := s4.below hb4
                                  have s5 := s5.below hb4
                                  have s6 := s6.below hb4
                                  have HB : Hid (Below w.heap.size w w4) := ((Below.refl _ _).grown Hw.out (Nat.le_refl _) (by simp)).trans (hb4.mono Hw.out.size)
                                  clear ht hb4 Hw
                                  go_wp2_with fail
                                  have gz : World.grownBy w4 (w4.alloc (.cells #[.slice x0 c k0, .slice x1 c k1, .slice x2 t k2, .slice x3 t k3, .slice x4 t k4, .slice x5 t k5, .slice x6 t k6] 31)) none := World.grownBy_alloc _ _ _
                                  have s0 := s0.kept gz
                                  have s1 := s1.kept gz
                                  have s2 := s2.kept gz
                                  have s3 := s3.kept gz
                                  have s4 := s4.kept gz
                                  have s5 := s5.kept gz
                                  have s6 := s6.kept gz
                                  have y0 := y0.kept gz
                                  have y1 := y1.kept gz
                                  have y2 := y2.kept gz
                                  have y3 := y3.kept gz
                                  have y4 := y4.kept gz
                                  have y5 := y5.kept gz
                                  have y6 := y6.kept gz
                                  have HB2 : Hid (Below w.heap.size w _) := HB.out.grown gz HB.out.size (by simp)
                                  clear gz
                                  generalize w4.alloc _ = V at s0 s1 s2 s3 s4 s5 s6 y0 y1 y2 y3 y4 y5 y6 HB2 ⊢
                                  have F := facts_of (zb := zb) (zm := zm) (zd := zd) (zw := zw) (zl := zl) h0 (by rw [HL6.out]; omega) (by rw [HL5.out]; omega) HL5.out (show c ≤ m by omega) HG.out
                                  rw [HT.out] at F y2 y3 y4 y5 y6
                                  have C2 := matches_any ⟨x0, x1, x2, x3, x4, x5, x6, k0, k1, k2, k3, k4, k5, k6, a0, a1, a2, a3, a4, a5, a6, c0, c1, c2, c3, c4, c5, c6⟩ c t n os.length _ _ _ _ _ _ _ zb zm zd zw zl ss os V ⟨y0, y1, y2, y3, y4, y5, y6, s0, s1, s2, s3, s4, by rw [HL5.out]; exact s5, by rw [HL6.out]; exact s6⟩ F
                                  rw [HL5.out, HL6.out] at C2
                                  refine C2.mono ?_
                                  rintro e w5 ⟨rfl, hb5⟩
                                  have HB3 : Hid (Below w.heap.size w w5) := HB2.out.trans (hb5.mono HB2.out.size)
                                  clear hb5 HB2 C2 F
                                  go_wp2_with fail
                                  go_ret
                                  exact ⟨rfl, HB3.out⟩

end Go.Proofs.Qxb6614834a
