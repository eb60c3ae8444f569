/- The walk of FnPutBackSortsByPublicationOrder. -/
import Derived.Test.Qxb6613717aSt
namespace Go.Proofs.Qxb6613717a
open Go.RowKit

set_option maxHeartbeats 4000000 in
set_option maxRecDepth 100000 in
theorem sorts_walk (a0 a1 : Option Addr) (n0 n1 c0 c1 : Nat) (ss : List Nat) (bs : List Body) (w : World) (s0 : SeesV w a0 n0 c0 (u64s ss)) (s1 : SeesBs w a1 n1 c1 bs) :
    Calls Try.prog 4 #[.slice a0 n0 c0, .slice a1 n1 c1] w fun e w' => e = .returned (.bool true) ∧ Below w.heap.size w w' := by
  have hl0 : ss.length = n0 := by have := s0.1; simpa [u64s] using this
  have hl1 := s1.len
  have hm0 : n0 ≤ maxLen := Nat.le_trans s0.2.1 s0.2.2.1
  have hm1 : n1 ≤ maxLen := Nat.le_trans s1.row.2.1 s1.row.2.2.1
  have hbm : ∀ b ∈ bs, b.n ≤ maxLen := fun b hb => Nat.le_trans (s1.each b hb).2.1 (s1.each b hb).2.2.1
  have hm0' := hm0
  have hm1' := hm1
  unfold maxLen at hm0' hm1'
  go_enter Try.func4, Try.ntmps4
  go_wp2_with fail
  refine (bytes18_any a0 a1 n0 n1 c0 c1 bs w hm0 s1.row hbm).mono ?_
  rintro e w' ⟨⟨r, rfl, hr⟩, rfl⟩
  cases r with
  | false =>
    go_wp2
    go_ret
    exact ⟨rfl, Below.refl _ _⟩
  | true =>
    have hsum := hr rfl
    clear hr
    by_cases hbig : 4096 < n0 ∨ 4096 < n1
    · go_wp2
      all_goals
        go_ret
        exact ⟨rfl, Below.refl _ _⟩
    · have hn0 : n0 ≤ 4096 := by omega
      have hn1 : n1 ≤ 4096 := by omega
      clear hbig
      go_wp2_with fail
      refine (spend_any a1 n1 c1 _ bs w s1.row hbm ?_ ?_).mono ?_
      · omega
      · omega
      · rintro e w' ⟨⟨r, ok, rfl, hr0, hr1⟩, rfl⟩
        cases ok with
        | false =>
          go_wp2
          go_ret
          exact ⟨rfl, Below.refl _ _⟩
        | true =>
          by_cases heq : n1 = n0
          · subst heq
            go_wp2_with fail
            go_loopw [7] (fun vi wr => ∃ k q : Nat, k ≤ n1 ∧ vi = .int .i64 k ∧ wr = w.drewN q ∧ (∀ i j (hi : i < ss.length) (hj : j < ss.length), i < j → j < k → ss[i] ≠ ss[j])) (fun vi _ => n1 - (intOf vi).toNat)
            case atStart => exact ⟨0, 0, Nat.zero_le _, rfl, rfl, fun i j _ _ _ h => absurd h (by omega)⟩
            case round =>
              obtain ⟨k, q, hk, rfl, rfl, hnd⟩ := hrel
              have HND : Hid (∀ i j (hi : i < ss.length) (hj : j < ss.length), i < j → j < k → ss[i] ≠ ss[j]) := hnd
              clear hnd
              by_cases hlt : k < n1
              · obtain ⟨b, o, rfl, hc⟩ := s0.at (by omega)
                have hck := hc k _ (u64s_at (by omega))
                obtain ⟨s, hs⟩ : ∃ s, ss[k]'(by omega) = s := ⟨_, rfl⟩
                rw [hs] at hck
                have HS : Hid (ss[k]'(by omega) = s) := hs
                clear hs
                go_wp2_with fail
                go_loopw [8] (fun vj wr => ∃ m q' : Nat, m ≤ k ∧ vj = .int .i64 m ∧ wr = w.drewN q' ∧ (∀ i (hi : i < ss.length), i < m → ss[i] ≠ s)) (fun vj _ => k - (intOf vj).toNat)
                case atStart => exact ⟨0, q, Nat.zero_le _, rfl, rfl, fun i _ h => absurd h (by omega)⟩
                case round =>
                  obtain ⟨m, q', hmk, rfl, rfl, hne⟩ := hrel
                  have HNE : Hid (∀ i (hi : i < ss.length), i < m → ss[i] ≠ s) := hne
                  clear hne
                  by_cases hlm : m < k
                  · have hcm := hc m _ (u64s_at (by omega))
                    obtain ⟨t, ht⟩ : ∃ t, ss[m]'(by omega) = t := ⟨_, rfl⟩
                    rw [ht] at hcm
                    have HT : Hid (ss[m]'(by omega) = t) := ht
                    clear ht
                    go_wp2_with fail
                    go_quiet (fail)
                    by_cases hst : s = t
                    · subst hst
                      go_wp2
                      go_ret
                      exact ⟨rfl, below_drewN (below_drewN (Below.refl _ _) _) _⟩
                    · have hst' : ((s : Int) == (t : Int)) = false := by simp; omega
                      go_wp2
                      refine ⟨⟨m + 1, q' + nq, by omega, by go_num, rfl, fun i hi him => ?_⟩, by simp [intOf]; omega⟩
                      by_cases e : i = m
                      · subst e; rw [HT.out]; omega
                      · exact HNE.out i hi (by omega)
                  · go_wp2
                    refine ⟨⟨k + 1, q', by omega, by go_num, rfl, fun i j hi hj hij hjk => ?_⟩, by simp [intOf]; omega⟩
                    by_cases e : j = k
                    · subst e; rw [HS.out]; exact HNE.out i hi (by omega)
                    · exact HND.out i j hi hj hij (by omega)
              · have HD : Hid (∀ i j (hi : i < ss.length) (hj : j < ss.length), i < j → ss[i] ≠ ss[j]) := fun i j hi hj hij => HND.out i j hi hj hij (by omega)
                clear HND
                have hbn : ∀ b ∈ bs, b.n ≤ 1048576 := fun b hb => by have := sizes_mem bs b hb; omega
                go_wp2_with fail
                refine (cloneU_any a0 n1 c0 ss (w.drewN q) (s0.drewN q) (by omega)).mono ?_
                rintro e w1 ⟨b0, d0, rfl, o0, g1⟩
                have g1 : w.grownBy w1 none := ⟨g1.os, g1.tape, g1.output, g1.size, g1.block⟩
                have o0 := ownsRow_base o0 (Nat.zero_le _)
                go_wp2_with fail
                refine (cloneBs_any a1 n1 c1 bs w1 (s1.kept g1) (by omega) hbn).mono ?_
                rintro e w2 ⟨b1, d1, bs', rfl, o1, hal, g2⟩
                have o0 := kept_none o0 g2
                have g2 := grownBy_none_trans g1 g2
                go_wp2_with fail
                refine (newList_any 0 w2).mono ?_
                rintro e w3 ⟨rfl, hrd, g3⟩
                have o0 := kept_none o0 g3
                have o1 := o1.kept g3
                have z2 := g2.size
                have g3 := grownBy_none_trans g2 g3
                generalize w2.heap.size = L at hrd z2 ⊢
                have st0 : St w w3 L n1 b0 b1 d0 d1 ss bs' 0 none 0 [] [] := ⟨hrd, List.Pairwise.nil, List.Perm.refl _, FiledAll.nil _, o1, o0, (Below.refl _ _).grown g3 (Nat.le_refl _) (by simp), z2, by simp⟩
                have hlb : bs'.length = n1 := by have := o1.row.1; simpa [bodyVals] using this
                have hsz' : sizes bs' ≤ 1048576 := by
                  have e := alikes_sizes s1 o1.sees hal
                  unfold sizes at hsum ⊢
                  rw [e]
                  omega
                have hbn' : ∀ b ∈ bs', b.n ≤ 1048576 := fun b hb => Nat.le_trans (sizes_mem bs' b hb) hsz'
                clear hrd o0 o1 g1 g2 g3 z2
                go_wp2_with fail
                go_loopw [10] (fun vi wr => ∃ (k : Nat) (ao : Option Addr) (cap : Nat) (es hist : List Ent), k ≤ n1 ∧ vi = .int .i64 k ∧ St w wr L n1 b0 b1 d0 d1 ss bs' k ao cap es hist) (fun vi _ => n1 - (intOf vi).toNat)
                case atStart => exact ⟨0, none, 0, [], [], Nat.zero_le _, rfl, st0⟩
                case round =>
                  obtain ⟨k3, ao, cap, es, hist, hk3, rfl, st⟩ := hrel
                  by_cases hlt3 : k3 < n1
                  · obtain ⟨g0, p0, rfl, hc0⟩ := (own_seesV st.seqs).at (by omega)
                    obtain ⟨gb, pb, rfl, hcb⟩ := (own_seesV st.bodies.row).at (by omega)
                    have q0 := hc0 k3 _ (u64s_at (by omega))
                    have q1 := hcb k3 (bs'[k3]'(by omega)).val (by simp [bodyVals, hlb, hlt3])
                    have hob := st.bodies.each (bs'[k3]'(by omega)) (List.getElem_mem _)
                    have hbx := hbn' (bs'[k3]'(by omega)) (List.getElem_mem _)
                    obtain ⟨x, hx⟩ : ∃ x, bs'[k3]'(by omega) = x := ⟨_, rfl⟩
                    obtain ⟨s, hs⟩ : ∃ s, ss[k3]'(by omega) = s := ⟨_, rfl⟩
                    rw [hx] at q1 hob hbx
                    rw [hs] at q0
                    have HX : Hid (bs'[k3]'(by omega) = x) := hx
                    have HS3 : Hid (ss[k3]'(by omega) = s) := hs
                    have hse := hob.sees
                    have hrd := st.ready
                    have hso := st.sorted
                    have hB : sizes (bs'.take k3) ≤ 1048576 := by have := sizes_le bs' k3; omega
                    unfold Body.val at q1
                    have U0 : Hid ((u64s ss)[k3]? = some (.int .u64 (s : Int))) := by show _ = _; rw [u64s_at (by omega), hs]
                    have U1 : Hid ((bodyVals bs')[k3]? = some (.slice x.ao x.n x.cap)) := by show _ = _; rw [← hx]; simp [bodyVals, hlb, hlt3, Body.val]
                    clear hx hs hc0 hcb
                    go_wp2_with fail
                    go_region_held3 (fun w' => w'.cell? ⟨g0, p0 + k3, none⟩ = some (.int .u64 s) ∧ w'.cell? ⟨gb, pb + k3, none⟩ = some (.slice x.ao x.n x.cap)) (first | assumption | exact ⟨q0, q1⟩)
                      ((first
                        | (go_at_call 13; refine (clone_own x.ao x.n x.cap x.l _ ?_ hbx).mono ?_; exact hse; rintro e w4 ⟨ao4, cap4, rfl, o4, g4⟩; have g4 : wr.grownBy w4 none := ⟨g4.os, g4.tape, g4.output, g4.size, g4.block⟩; have hS4 : w4.cell? ⟨g0, p0 + k3, none⟩ = some (.int .u64 s) ∧ w4.cell? ⟨gb, pb + k3, none⟩ = some (.slice x.ao x.n x.cap) := ⟨g4.cell q0 (by simp), g4.cell q1 (by simp)⟩; have hr4 : Ready w4 L ao k3 cap (.slice none 0 0) ((sizes (bs'.take k3) : Nat) : Int) es := ⟨heap_kept g4 hrd.head (by simp), kept_none hrd.row g4⟩)
                        | (go_at_call 16; refine (zzput_filed L k3 cap ao _ _ 0 true s ⟨ao4, x.n, cap4, x.l⟩ es w4 hr4 (by omega) hso (by omega) (by omega) hbx (ownsRow_base o4.row (Nat.zero_le _))).mono ?_; rintro e w5 ⟨rfl, ao5, cap5, y, hr5, hp5, hf5⟩; have st5 := st.step (b := ⟨ao4, x.n, cap4, x.l⟩) (by omega) (by omega) HD.out g4 hr5 hp5 (by rw [HS3.out]; exact hf5) (by rw [HX.out]) (by rw [HX.out]); have hS5 : w5.cell? ⟨g0, p0 + k3, none⟩ = some (.int .u64 s) ∧ w5.cell? ⟨gb, pb + k3, none⟩ = some (.slice x.ao x.n x.cap) := ⟨(own_seesV st5.seqs).cell U0.out, (own_seesV st5.bodies.row).cell U1.out⟩)))
                    go_wp2
                    go_roundw
                    case rel => exact ⟨k3 + 1, ao5, cap5, _, _, by omega, by go_num, st5⟩
                    case measure => simp [intOf]; omega
                  · obtain rfl : k3 = n1 := by omega
                    have hrd := st.ready
                    have hfull : bs'.take k3 = bs' := List.take_of_length_le (by omega)
                    have hbel := st.below
                    have HAT : Hid (∀ k (hk : k < k3), ∃ y, es[ss.countP (fun s => decide (s < ss[k]'(by omega)))]? = some y ∧ Filed wr y ⟨ss[k]'(by omega), true, 0, (bs'[k]'(by omega)).l⟩) := fun k hk => st.at hl0 hlb k hk
                    rw [hfull] at hrd
                    clear hfull
                    go_wp2_with fail
                    refine (retLen_any L k3 cap ao _ _ es wr hrd).mono ?_
                    rintro e w' ⟨rfl, rfl⟩
                    go_wp2_with fail
                    go_loopw [11, 12] (fun vt vi wq => ∃ k q : Nat, k ≤ k3 ∧ vi = .int .i64 k ∧ vt = .int .i64 ((sizes (bs'.take k) : Nat) : Int) ∧ wq = wr.drewN q) (fun _ vi _ => k3 - (intOf vi).toNat)
                    case atStart => exact ⟨0, 0, Nat.zero_le _, rfl, rfl, rfl⟩
                    case round =>
                      obtain ⟨k4, q4, hk4, rfl, rfl, rfl⟩ := hrel
                      by_cases hlt4 : k4 < k3
                      · obtain ⟨g0, p0, rfl, hc0⟩ := (own_seesV st.seqs).at (by omega)
                        obtain ⟨gb, pb, rfl, hcb⟩ := (own_seesV st.bodies.row).at (by omega)
                        have q0 := hc0 k4 _ (u64s_at (by omega))
                        have q1 := hcb k4 (bs'[k4]'(by omega)).val (by simp [bodyVals, hlb, hlt4])
                        have hob := st.bodies.each (bs'[k4]'(by omega)) (List.getElem_mem _)
                        have hbx := hbn' (bs'[k4]'(by omega)) (List.getElem_mem _)
                        have hat := HAT.out k4 hlt4
                        have HSZ : Hid (sizes (bs'.take (k4 + 1)) = sizes (bs'.take k4) + (bs'[k4]'(by omega)).n) := sizes_take bs' k4 (by omega)
                        have hszk := sizes_le bs' k4
                        obtain ⟨x, hx⟩ : ∃ x, bs'[k4]'(by omega) = x := ⟨_, rfl⟩
                        obtain ⟨s, hs⟩ : ∃ s, ss[k4]'(by omega) = s := ⟨_, rfl⟩
                        rw [hx] at q1 hob hbx hat HSZ
                        rw [hs] at q0 hat
                        unfold Body.val at q1
                        obtain ⟨y, hy, e1, e2, e3, ⟨bao, bn, bcap, bl⟩, hmy, hoy, e4⟩ := hat
                        simp only at e1 e2 e3 e4 hmy
                        have hlx : x.l.length = x.n := hob.sees.1
                        have hly : bl.length = bn := hoy.sees.1
                        subst e4
                        have hbn2 : bn = x.n := by omega
                        subst hbn2
                        have hey := hoy.lies
                        have hex := hob.lies
                        have HY : Hid (es[ss.countP (fun t => decide (t < s))]? = some y) := hy
                        clear hx hs hy
                        go_wp2_with fail
                        go_loopw [13, 14] (fun vr vj wq => ∃ m q' : Nat, m ≤ k3 ∧ vj = .int .i64 m ∧ vr = .int .i64 (((ss.take m).countP (fun t => decide (t < s)) : Nat) : Int) ∧ wq = wr.drewN q') (fun _ vj _ => k3 - (intOf vj).toNat)
                        case atStart => exact ⟨0, q4, Nat.zero_le _, rfl, rfl, rfl⟩
                        case round =>
                          obtain ⟨m, q5, hm5, rfl, rfl, rfl⟩ := hrel
                          have hcle : (ss.take m).countP (fun t => decide (t < s)) ≤ m := Nat.le_trans List.countP_le_length (List.length_take_le _ _)
                          by_cases hlt5 : m < k3
                          · have q2 := hc0 m _ (u64s_at (by omega))
                            have HC : Hid ((ss.take (m + 1)).countP (fun t => decide (t < s)) = (ss.take m).countP (fun t => decide (t < s)) + if ss[m]'(by omega) < s then 1 else 0) := count_snoc ss m s (by omega)
                            obtain ⟨t, ht⟩ : ∃ t, ss[m]'(by omega) = t := ⟨_, rfl⟩
                            rw [ht] at q2 HC
                            clear ht
                            generalize (ss.take m).countP (fun t => decide (t < s)) = R at hcle HC ⊢
                            by_cases hts : t < s
                            · rw [if_pos hts] at HC
                              go_wp2_with fail
                              go_quiet (fail)
                              go_wp2
                              exact ⟨⟨m + 1, q5 + nq, by omega, by go_num, val_i64 (by rw [HC.out]; omega), rfl⟩, by simp [intOf]; omega⟩
                            · rw [if_neg hts] at HC
                              go_wp2_with fail
                              go_quiet (fail)
                              go_wp2
                              exact ⟨⟨m + 1, q5 + nq, by omega, by go_num, val_i64 (by rw [HC.out]; omega), rfl⟩, by simp [intOf]; omega⟩
                          · have e5 : ss.take m = ss := List.take_of_length_le (by omega)
                            rw [e5] at hcle ⊢
                            generalize ss.countP (fun t => decide (t < s)) = R at hcle HY ⊢
                            clear e5
                            have hrdW := hrd.drewN q5
                            have hmW : (wr.drewN q5).heap[y.msg]? = some (.cells (msgCells bao x.n bcap) 63 (0, 0)) := hmy
                            have heyW : Lies (wr.drewN q5) bao x.l := hey
                            have hexW : Lies (wr.drewN q5) x.ao x.l := hex
                            have q0W : (wr.drewN q5).cell? ⟨g0, p0 + k4, none⟩ = some (.int .u64 s) := q0
                            have q1W : (wr.drewN q5).cell? ⟨gb, pb + k4, none⟩ = some (.slice x.ao x.n x.cap) := q1
                            have HQ : Hid (∃ q, wr.drewN q5 = wr.drewN q) := ⟨q5, rfl⟩
                            generalize wr.drewN q5 = W at hrdW hmW heyW hexW q0W q1W HQ ⊢
                            have C21 : Hid (∀ nq, Calls Try.prog 21 #[.pointer (some ⟨L, 0, none⟩), .int .i64 R] (W.drewN nq) fun e w' => e = .returned (.int .u64 s) ∧ ∃ m, w' = W.drewN m) := fun nq => by rw [← e1]; exact quiet_same (retSeq_any L k3 cap R ao _ _ es y _ (hrdW.drewN nq) HY.out (by omega))
                            have C23 : Hid (∀ nq, Calls Try.prog 23 #[.pointer (some ⟨L, 0, none⟩), .int .i64 R] (W.drewN nq) fun e w' => e = .returned (.slice bao x.n bcap) ∧ ∃ m, w' = W.drewN m) := fun nq => quiet_same (retBody_any L k3 cap R x.n bcap ao bao _ _ es y _ (hrdW.drewN nq) HY.out (by omega) hmW)
                            have C24 : Hid (∀ nq, Calls Try.prog 24 #[.pointer (some ⟨L, 0, none⟩), .int .i64 R] (W.drewN nq) fun e w' => e = .returned (.bool true) ∧ ∃ m, w' = W.drewN m) := fun nq => by rw [← e2]; exact quiet_same (retRed_any L k3 cap R ao _ _ es y _ (hrdW.drewN nq) HY.out (by omega))
                            have C25 : Hid (∀ nq, Calls Try.prog 25 #[.pointer (some ⟨L, 0, none⟩), .int .i64 R] (W.drewN nq) fun e w' => e = .returned (.int .i64 0) ∧ ∃ m, w' = W.drewN m) := fun nq => by rw [← e3]; exact quiet_same (retExp_any L k3 cap R ao _ _ es y _ (hrdW.drewN nq) HY.out (by omega))
                            have C22 : Hid (∀ nq, Calls Try.prog 22 #[.slice bao x.n bcap, .slice x.ao x.n x.cap] (W.drewN nq) fun e w' => e = .returned (.bool true) ∧ ∃ m, w' = W.drewN m) := fun nq => Calls.quiet_of (equal_yes bao x.ao x.n bcap x.cap x.l (W.drewN nq) hlx (by omega) heyW hexW)
                            clear e1 e2 e3 hc0 hcb q0 q1
                            have hq1 : ((s : Int) != (s : Int)) = false := by simp
                            go_wp2_with fail
                            go_quiet ((first | (go_at_call 21; exact C21.out _) | (go_at_call 23; exact C23.out _) | (go_at_call 24; exact C24.out _) | (go_at_call 25; exact C25.out _) | (go_at_call 22; exact C22.out _)))
                            go_wp2
                            obtain ⟨q6, hq6⟩ := HQ.out
                            exact ⟨⟨k4 + 1, q6 + nq, by omega, by go_num, val_i64 (by rw [HSZ.out]; omega), by rw [hq6, World.drewN_drewN]⟩, by simp [intOf]; omega⟩
                      · have e6 : bs'.take k4 = bs' := List.take_of_length_le (by omega)
                        rw [e6]
                        clear e6
                        go_wp2_with fail
                        refine (freshLen_any L k3 cap 0 0 ao none _ es _ (hrd.drewN q4)).mono ?_
                        rintro e w' ⟨rfl, rfl⟩
                        go_wp2_with fail
                        refine (bytes_any L k3 cap ao _ _ es _ (hrd.drewN q4)).mono ?_
                        rintro e w' ⟨rfl, rfl⟩
                        go_wp2
                        go_ret
                        exact ⟨by simp, below_drewN hbel _⟩
          · have hne : ((n1 : Int) != (n0 : Int)) = true := by simp; omega
            go_wp2
            go_ret
            exact ⟨rfl, Below.refl _ _⟩

end Go.Proofs.Qxb6613717a
