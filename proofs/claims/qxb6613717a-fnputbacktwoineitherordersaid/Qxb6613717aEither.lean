/- The walk of FnPutBackTwoInEitherOrder. -/
import Derived.Test.Qxb6613717aCheck
import Derived.Deep.DeepCutAuto
namespace Go.Proofs.Qxb6613717a
open Go.RowKit

/-- ZZputBack on a list under way. -/
theorem Bd.put {w w1 w' : World} {L : Nat} {ao ao' : Option Addr} {k cap cap' : Nat} {es : List Ent} {fo : Option Addr} {m fc : Nat} {fs : List Ent} {B : Int} {sps sqs : List Spec} {x : Ent} {sp : Spec} {bn : Nat} (h : Bd w w1 L ao k cap es fo m fc fs B sps sqs)
    (hr : Ready w' L ao' (k + 1) cap' (.slice fo m fc) (B + bn) (Qxb6613717a.put es x)) (hp : Put w1 L ao w' ao') (hf : Filed w' x sp) : Bd w w' L ao' (k + 1) cap' (Qxb6613717a.put es x) fo m fc fs (B + bn) (putS sps sp) sqs := by
  have hk : Kind w1 w' := Kind.put hp h.rl.ready.head h.rl.ready.row
  exact ⟨⟨hr, hp.row h.rl.ready.head h.rl.fresh (fun j hj e => h.rl.apart j e hj), fun j hj e => put_ne hp (row_lt' h.rl.fresh j e) (fun e2 => h.rl.apart j e2 e) hj⟩,
    filedAll_putS (hk.filedAll h.f1) hf, hk.filedAll h.f2, grown_put h.gr hp h.loL h.loA, h.loL, lo_put h.gr hp h.loA, h.loF⟩

theorem put_sorted' {w : World} {es : List Ent} {sps : List Spec} {x : Ent} {s : Nat} (h : FiledAll w es sps) (hs : Sorted es) (hx : x.seq = s) (hne : ∀ q ∈ sps, q.seq ≠ s) : Sorted (put es x) := by
  refine put_sorted es x hs fun y hy => ?_
  have h1 : y.seq ∈ sps.map (·.seq) := by rw [← filed_seqs h]; exact List.mem_map_of_mem hy
  obtain ⟨q, hq, e⟩ := List.mem_map.1 h1
  rw [hx, ← e]
  exact hne q hq

theorem specsF_seq {rs : List Nat} {rb : List Body} {q : Spec} (h : q ∈ specsF rs rb) : q.seq ∈ rs := by
  obtain ⟨i, hi, e⟩ := List.getElem_of_mem h
  have := specsF_at (sp := q) (c := i) (by rw [← e]; exact List.getElem?_eq_getElem _)
  exact List.mem_of_getElem? this.1

theorem specsF_sorted {rs : List Nat} {rb : List Body} (h : Incr rs) : (specsF rs rb).Pairwise (fun a b => a.seq < b.seq) := by
  have hmono : ∀ (j i : Nat) (hij : i < j) (hj : j < rs.length), rs[i]'(by omega) < rs[j] := by
    intro j
    induction j with
    | zero => intro i hij; omega
    | succ j ih =>
      intro i hij hj
      by_cases e : i = j
      · subst e; exact h i hj
      · have := ih i (by omega) (by omega)
        have := h j hj
        omega
  rw [List.pairwise_iff_getElem]
  intro i j hi hj hij
  have e1 := (specsF_at (List.getElem?_eq_getElem hi)).1
  have e2 := (specsF_at (List.getElem?_eq_getElem hj)).1
  obtain ⟨h1, e1⟩ := List.getElem?_eq_some_iff.1 e1
  obtain ⟨h2, e2⟩ := List.getElem?_eq_some_iff.1 e2
  rw [← e1, ← e2]
  exact hmono j i hij h2

theorem notin_seq {rs : List Nat} {rb : List Body} {q : Spec} {a : Nat} (h : a ∉ rs) (hq : q ∈ specsF rs rb) (e : q.seq = a) : False := h (e ▸ specsF_seq hq)

theorem Chk.drewN {w : World} {L : Nat} {ao : Option Addr} {n cap : Nat} {es : List Ent} {fo : Option Addr} {n2 fc : Nat} {fs : List Ent} {B : Int} {sps : List Spec} {n0 : Nat} {rs : List Nat} {rb : List Body} {fss : List Nat} {fb : List Body} {a b : Nat} {spA spB : Spec} (h : Chk w L ao n cap es fo n2 fc fs B sps n0 rs rb fss fb a b spA spB) (q : Nat) : Chk (w.drewN q) L ao n cap es fo n2 fc fs B sps n0 rs rb fss fb a b spA spB :=
  ⟨h.rl.drewN q, h.f1, h.f2, h.sorted, h.hn, h.memA, h.memB, h.seqA, h.seqB, h.ne, h.fil, h.lr, h.lb⟩

/-- The list behind both, for the check. -/
theorem chk_of {w w' : World} {L : Nat} {ao : Option Addr} {n0 cap : Nat} {es : List Ent} {fo : Option Addr} {n2 fc : Nat} {fs : List Ent} {B : Int} {rs fss : List Nat} {rb fb : List Body} {a b : Nat} {spA spB p q : Spec} (h : Bd w w' L ao (n0 + 1 + 1) cap es fo n2 fc fs B (putS (putS (specsF rs rb) p) q) (specsF fss fb)) (hs : Sorted es)
    (hpq : (p = spA ∧ q = spB) ∨ (p = spB ∧ q = spA)) (ha : spA.seq = a) (hb : spB.seq = b) (hne : a ≠ b) (hra : a ∉ rs) (hrb : b ∉ rs) (lr : rs.length = n0) (lb : rb.length = n0) :
    Chk w' L ao (n0 + 2) cap es fo n2 fc fs B (putS (putS (specsF rs rb) p) q) n0 rs rb fss fb a b spA spB := by
  have hA : nonab a b spA = false := by simp [nonab, ha]
  have hB : nonab a b spB = false := by simp [nonab, hb]
  have hp : nonab a b p = false := by rcases hpq with ⟨rfl, _⟩ | ⟨rfl, _⟩ <;> assumption
  have hq : nonab a b q = false := by rcases hpq with ⟨_, rfl⟩ | ⟨_, rfl⟩ <;> assumption
  refine ⟨h.rl, h.f1, h.f2, hs, rfl, ?_, ?_, ha, hb, hne, ?_, lr, lb⟩
  · rw [putS_mem, putS_mem]; rcases hpq with ⟨rfl, _⟩ | ⟨_, rfl⟩ <;> simp
  · rw [putS_mem, putS_mem]; rcases hpq with ⟨_, rfl⟩ | ⟨rfl, _⟩ <;> simp
  · rw [putS_filter _ _ _ hq, putS_filter _ _ _ hp, List.filter_eq_self]
    intro s hs
    have := specsF_seq hs
    have h1 : s.seq ≠ a := fun e => hra (e ▸ this)
    have h2 : s.seq ≠ b := fun e => hrb (e ▸ this)
    simp [nonab, h1, h2]

/-- The check on a list behind both, as the walk takes it. -/
theorem check_bd {w F : World} {L : Nat} {ao : Option Addr} {n0 cap n : Nat} {es : List Ent} {fo : Option Addr} {n2 fc : Nat} {fs : List Ent} {B' : Int} {rs fss : List Nat} {rb fb : List Body} {a b c1 c2 c3 c4 na nb ca cb : Nat} {a1 a2 a3 a4 aa ab : Option Addr} {aR bR : Bool} {aE bE : Int} {la lb : List UInt8} {p q : Spec}
    (h : Bd w F L ao n cap es fo n2 fc fs B' (putS (putS (specsF rs rb) p) q) (specsF fss fb)) (hs : Sorted es) (hn : n = n0 + 1 + 1)
    (hpq : (p = ⟨a, aR, aE, la⟩ ∧ q = ⟨b, bR, bE, lb⟩) ∨ (p = ⟨b, bR, bE, lb⟩ ∧ q = ⟨a, aR, aE, la⟩)) (hne : a ≠ b) (hra : a ∉ rs) (hrb : b ∉ rs) (lr : rs.length = n0) (lb' : rb.length = n0)
    (s1 : SeesV F a1 n0 c1 (u64s rs)) (s2 : SeesBs F a2 n0 c2 rb) (s3 : SeesV F a3 n2 c3 (u64s fss)) (s4 : SeesBs F a4 n2 c4 fb) (sa : Sees F aa na ca la) (sb : Sees F ab nb cb lb)
    (hn0 : n0 ≤ 1048000) (hn2 : n2 ≤ 1048576) (hna : na ≤ 1048576) (hnb : nb ≤ 1048576) (hrbn : ∀ x ∈ rb, x.n ≤ 1048576) (hfbn : ∀ x ∈ fb, x.n ≤ 1048576) (B : Int) (hB : B' = B) (q0 : Nat) :
    Calls Try.prog 17 #[.pointer (some ⟨L, 0, none⟩), .slice a1 n0 c1, .slice a2 n0 c2, .slice a3 n2 c3, .slice a4 n2 c4, .int .u64 a, .bool aR, .int .i64 aE, .slice aa na ca, .int .u64 b, .bool bR, .int .i64 bE, .slice ab nb cb, .int .i64 B] (F.drewN q0) fun e w' => e = .returned (.bool true) ∧ ∃ q, w' = F.drewN q := by
  subst hB
  subst hn
  have ch := (chk_of h hs hpq rfl rfl hne hra hrb lr lb').drewN q0
  have k2 : SeesBs (F.drewN q0) a2 n0 c2 rb := ⟨s2.row, s2.each⟩
  have k4 : SeesBs (F.drewN q0) a4 n2 c4 fb := ⟨s4.row, s4.each⟩
  have ka : Sees (F.drewN q0) aa na ca la := sa
  have kb : Sees (F.drewN q0) ab nb cb lb := sb
  refine (check_any L (n0 + 2) cap n0 n2 fc c1 c2 c3 c4 a b na nb ca cb ao fo a1 a2 a3 a4 aa ab es fs B' aE bE aR bR la lb _ rs fss rb fb (F.drewN q0) ch (s1.drewN q0) k2 (s3.drewN q0) k4 ka kb hn0 hn2 hna hnb hrbn hfbn).mono ?_
  rintro e w' ⟨rfl, q1, rfl⟩
  exact ⟨rfl, q0 + q1, by rw [World.drewN_drewN]⟩

set_option maxHeartbeats 8000000 in
set_option maxRecDepth 100000 in
theorem either_walk (a0 a1 a2 a3 a7 a11 : Option Addr) (n0 n1 n2 n3 n7 n11 c0 c1 c2 c3 c7 c11 a b : Nat) (aR bR : Bool) (aE bE : Int) (rs fss : List Nat) (rb fb : List Body) (la lb : List UInt8) (w : World)
    (s0 : SeesV w a0 n0 c0 (u64s rs)) (s1 : SeesBs w a1 n1 c1 rb) (s2 : SeesV w a2 n2 c2 (u64s fss)) (s3 : SeesBs w a3 n3 c3 fb) (s7 : Sees w a7 n7 c7 la) (s11 : Sees w a11 n11 c11 lb) :
    Calls Try.prog 3 #[.slice a0 n0 c0, .slice a1 n1 c1, .slice a2 n2 c2, .slice a3 n3 c3, .int .u64 a, .bool aR, .int .i64 aE, .slice a7 n7 c7, .int .u64 b, .bool bR, .int .i64 bE, .slice a11 n11 c11] w fun e w' => e = .returned (.bool true) ∧ Below w.heap.size w w' := by
  have hl0 : rs.length = n0 := by have := s0.1; simpa [u64s] using this
  have hl2 : fss.length = n2 := by have := s2.1; simpa [u64s] using this
  have hl1 := s1.len
  have hl3 := s3.len
  have hm0 : n0 ≤ maxLen := Nat.le_trans s0.2.1 s0.2.2.1
  have hm2 : n2 ≤ maxLen := Nat.le_trans s2.2.1 s2.2.2.1
  have hm7 : n7 ≤ maxLen := Nat.le_trans s7.2.1 s7.2.2.1
  have hm11 : n11 ≤ maxLen := Nat.le_trans s11.2.1 s11.2.2.1
  have hb1 : ∀ b ∈ rb, b.n ≤ maxLen := fun b hb => Nat.le_trans (s1.each b hb).2.1 (s1.each b hb).2.2.1
  have hb3 : ∀ b ∈ fb, b.n ≤ maxLen := fun b hb => Nat.le_trans (s3.each b hb).2.1 (s3.each b hb).2.2.1
  go_enter Try.func3, Try.ntmps3
  go_wp2_with fail
  refine (bytes7_any a0 a1 a2 a3 a7 a11 n0 n1 n2 n3 n7 n11 c0 c1 c2 c3 c7 c11 _ _ _ _ _ _ rb fb w hm0 s1.row hb1 hm2 s3.row hb3 hm7 hm11).mono ?_
  rintro e w' ⟨⟨r, rfl, hr⟩, rfl⟩
  cases r with
  | false =>
    go_wp2
    go_ret
    exact ⟨rfl, Below.refl _ _⟩
  | true =>
    have hsum := hr rfl
    clear hr hm0 hm2 hm7 hm11
    by_cases hbud : 1048576 < 8 * n0 + 8 * n2 + n7 + n11
    · go_wp2
      all_goals
        go_ret
        exact ⟨rfl, Below.refl _ _⟩
    · go_wp2_with fail
      refine (spend_any a1 n1 c1 _ rb w s1.row hb1 ?_ ?_).mono ?_
      · omega
      · omega
      · rintro e w' ⟨⟨r1, ok, rfl, hr0, hr1⟩, rfl⟩
        cases ok with
        | false =>
          go_wp2
          go_ret
          exact ⟨rfl, Below.refl _ _⟩
        | true =>
          go_wp2_with fail
          refine (spend_any a3 n3 c3 _ fb w s3.row hb3 hr0 ?_).mono ?_
          · omega
          · rintro e w' ⟨⟨r2, ok, rfl, hr0', hr1'⟩, rfl⟩
            cases ok with
            | false =>
              go_wp2
              go_ret
              exact ⟨rfl, Below.refl _ _⟩
            | true =>
              clear hb1 hb3 hr0' hr1'
              by_cases he1 : n0 = n1
              · by_cases he3 : n2 = n3
                · subst he1
                  subst he3
                  go_wp2_with fail
                  refine (inc_any a0 n0 c0 rs w s0 (by omega)).mono ?_
                  rintro e w' ⟨⟨ri, rfl, hinc⟩, q1, rfl⟩
                  cases ri with
                  | false =>
                    go_wp2
                    go_ret
                    exact ⟨rfl, below_drewN (Below.refl _ _) _⟩
                  | true =>
                    have HI : Hid (Incr rs) := hinc rfl
                    clear hinc
                    go_wp2_with fail
                    refine (inc_any a2 n2 c2 fss (w.drewN q1) (s2.drewN q1) (by omega)).mono ?_
                    rintro e w' ⟨⟨ri, rfl, hinc⟩, q2, rfl⟩
                    clear hinc
                    cases ri with
                    | false =>
                      go_wp2
                      go_ret
                      exact ⟨rfl, below_drewN (Below.refl _ _) _⟩
                    | true =>
                      have s0 := (s0.drewN q1).drewN q2
                      have s2 := (s2.drewN q1).drewN q2
                      have s1 : SeesBs ((w.drewN q1).drewN q2) a1 n0 c1 rb := ⟨s1.row, s1.each⟩
                      have s3 : SeesBs ((w.drewN q1).drewN q2) a3 n2 c3 fb := ⟨s3.row, s3.each⟩
                      have s7 : Sees ((w.drewN q1).drewN q2) a7 n7 c7 la := s7
                      have s11 : Sees ((w.drewN q1).drewN q2) a11 n11 c11 lb := s11
                      have HB : Hid (Below w.heap.size w ((w.drewN q1).drewN q2) ∧ w.heap.size ≤ ((w.drewN q1).drewN q2).heap.size) := ⟨below_drewN (below_drewN (Below.refl _ _) _) _, Nat.le_refl _⟩
                      generalize (w.drewN q1).drewN q2 = W at s0 s2 s1 s3 s7 s11 HB ⊢
                      go_wp2_with fail
                      go_cut [138] (fun v wx => ∃ (r : Bool) (q : Nat), v = .bool r ∧ wx = W.drewN q)
                      case first =>
                        as_aux_lemma =>
                          by_cases hz0 : n0 = 0
                          · have hd0 : decide ((0 : Int) < (n0 : Int)) = false := by simp; omega
                            go_quiet (fail)
                            go_wp2_with fail
                            go_meet
                            case rel => exact ⟨_, _, rfl, rfl⟩
                          · have hd0 : (0 : Int) < (n0 : Int) := by omega
                            have hd0' : 0 < n0 := by omega
                            by_cases hz2 : n2 = 0
                            · have hd2 : decide ((0 : Int) < (n2 : Int)) = false := by simp; omega
                              go_quiet (fail)
                              go_wp2_with fail
                              go_meet
                              case rel => exact ⟨_, _, rfl, rfl⟩
                            · have hd2 : (0 : Int) < (n2 : Int) := by omega
                              have hd2' : 0 < n2 := by omega
                              obtain ⟨m0, rfl⟩ : ∃ m, n0 = m + 1 := ⟨n0 - 1, by omega⟩
                              obtain ⟨g0, p0, rfl, hc0⟩ := s0.at (by omega)
                              obtain ⟨g2, p2, rfl, hc2⟩ := s2.at (by omega)
                              have d0 := hc0 m0 _ (u64s_at (by omega))
                              have d2 := hc2 0 _ (u64s_at (by omega))
                              generalize rs[m0]'(by omega) = x at d0
                              generalize fss[0]'(by omega) = y at d2
                              have d2' : W.cell? ⟨g2, p2, none⟩ = some (.int .u64 (y : Int)) := d2
                              have hi1 : IntKind.i64.wrap (((m0 + 1 : Nat) : Int) - 1) = (m0 : Int) := by rw [IntKind.wrap_i64]; omega
                              have hi2 : IntKind.i64.wrap ((m0 : Int) + 1 - 1) = (m0 : Int) := by rw [IntKind.wrap_i64]; omega
                              have hi3 : IntKind.i64.wrap ((m0 : Int)) = (m0 : Int) := by rw [IntKind.wrap_i64]; omega
                              have hlm : (m0 : Int) < (m0 : Int) + 1 := by omega
                              clear hc0 hc2 d2
                              go_quiet (fail)
                              go_wp2_with fail
                              go_meet
                              case rel => exact ⟨_, _, rfl, rfl⟩
                      case rest =>
                        obtain ⟨r, q, rfl, rfl⟩ := hcut
                        cases r with
                        | true =>
                          go_wp2
                          go_ret
                          exact ⟨rfl, below_drewN HB.out.1 _⟩
                        | false =>
                          have s0 := s0.drewN q
                          have s2 := s2.drewN q
                          have s1 : SeesBs (W.drewN q) a1 n0 c1 rb := ⟨s1.row, s1.each⟩
                          have s3 : SeesBs (W.drewN q) a3 n2 c3 fb := ⟨s3.row, s3.each⟩
                          have s7 : Sees (W.drewN q) a7 n7 c7 la := s7
                          have s11 : Sees (W.drewN q) a11 n11 c11 lb := s11
                          have HB : Hid (Below w.heap.size w (W.drewN q) ∧ w.heap.size ≤ (W.drewN q).heap.size) := ⟨below_drewN HB.out.1 _, HB.out.2⟩
                          generalize W.drewN q = V at s0 s2 s1 s3 s7 s11 HB ⊢
                          by_cases hab : a = b
                          · subst hab
                            have hab' : ((a : Int) == (a : Int)) = true := by simp
                            go_wp2
                            go_ret
                            exact ⟨rfl, HB.out.1⟩
                          · have hab' : ((a : Int) == (b : Int)) = false := by simp; omega
                            go_wp2_with fail
                            refine (has_any a0 n0 c0 a rs V s0 (by omega)).mono ?_
                            rintro e w' ⟨⟨r, rfl, h1⟩, rfl⟩
                            cases r with
                            | true =>
                              go_wp2
                              go_ret
                              exact ⟨rfl, HB.out.1⟩
                            | false =>
                              have HA : Hid (a ∉ rs) := h1 rfl
                              clear h1
                              go_wp2_with fail
                              refine (has_any a0 n0 c0 b rs V s0 (by omega)).mono ?_
                              rintro e w' ⟨⟨r, rfl, h1⟩, rfl⟩
                              cases r with
                              | true =>
                                go_wp2
                                go_ret
                                exact ⟨rfl, HB.out.1⟩
                              | false =>
                                have HBB : Hid (b ∉ rs) := h1 rfl
                                clear h1
                                go_wp2_with fail
                                refine (has_any a2 n2 c2 a fss V s2 (by omega)).mono ?_
                                rintro e w' ⟨⟨r, rfl, h1⟩, rfl⟩
                                clear h1
                                cases r with
                                | true =>
                                  go_wp2
                                  go_ret
                                  exact ⟨rfl, HB.out.1⟩
                                | false =>
                                  go_wp2_with fail
                                  refine (has_any a2 n2 c2 b fss V s2 (by omega)).mono ?_
                                  rintro e w' ⟨⟨r, rfl, h1⟩, rfl⟩
                                  clear h1
                                  cases r with
                                  | true =>
                                    go_wp2
                                    go_ret
                                    exact ⟨rfl, HB.out.1⟩
                                  | false =>
                                    go_upto_region 32 with fail
                                    go_cut [176] (fun v wx => ∃ (r : Bool), v = .bool r ∧ V = wx)
                                    case first =>
                                      as_aux_lemma =>
                                        by_cases hz2 : n2 = 0
                                        · have hd2 : decide ((0 : Int) < (n2 : Int)) = false := by simp; omega
                                          go_wp2_with fail
                                          all_goals (go_meet; exact ⟨_, rfl, rfl⟩)
                                        · obtain ⟨g2, p2, rfl, hc2⟩ := s2.at (by omega)
                                          have d2 := hc2 0 _ (u64s_at (by omega))
                                          generalize fss[0]'(by omega) = y at d2
                                          have d2' : V.cell? ⟨g2, p2, none⟩ = some (.int .u64 (y : Int)) := d2
                                          clear hc2 d2
                                          have hlt2 : 0 < n2 := by omega
                                          go_wp2_with fail
                                          all_goals (go_meet; exact ⟨_, rfl, rfl⟩)
                                    case rest =>
                                      obtain ⟨r, rfl, rfl⟩ := hcut
                                      cases r with
                                      | true =>
                                        go_wp2
                                        go_ret
                                        exact ⟨rfl, HB.out.1⟩
                                      | false =>
                                        as_aux_lemma =>
                                          have hsr : sizes rb ≤ 1048576 := by omega
                                          have hsf : sizes fb ≤ 1048576 := by omega
                                          have hbr : ∀ b ∈ rb, b.n ≤ 1048576 := fun b hb => Nat.le_trans (sizes_mem rb b hb) hsr
                                          have hbf : ∀ b ∈ fb, b.n ≤ 1048576 := fun b hb => Nat.le_trans (sizes_mem fb b hb) hsf
                                          go_wp2_with fail
                                          refine (cloneU_any a0 n0 c0 rs V s0 (by omega)).mono ?_
                                          rintro e v1 ⟨b0, d0, rfl, o0, g1⟩
                                          have o0 := ownsRow_base o0 (Nat.zero_le _)
                                          have s1 := s1.kept g1
                                          have s2 := s2.kept g1
                                          have s3 := s3.kept g1
                                          have s7 := s7.kept g1
                                          have s11 := s11.kept g1
                                          go_wp2_with fail
                                          refine (cloneBs_any a1 n0 c1 rb v1 s1 (by omega) hbr).mono ?_
                                          rintro e v2 ⟨b1, d1, rb', rfl, o1, hal1, g2⟩
                                          have hz1 := alikes_sizes s1 o1.sees hal1
                                          have o0 := kept_none o0 g2
                                          have s2 := s2.kept g2
                                          have s3 := s3.kept g2
                                          have s7 := s7.kept g2
                                          have s11 := s11.kept g2
                                          have g2 := grownBy_none_trans g1 g2
                                          go_wp2_with fail
                                          refine (cloneU_any a2 n2 c2 fss v2 s2 (by omega)).mono ?_
                                          rintro e v3 ⟨b2, d2, rfl, o2, g3⟩
                                          have o2 := ownsRow_base o2 (Nat.zero_le _)
                                          have o0 := kept_none o0 g3
                                          have o1 := o1.kept g3
                                          have s3 := s3.kept g3
                                          have s7 := s7.kept g3
                                          have s11 := s11.kept g3
                                          have g3 := grownBy_none_trans g2 g3
                                          go_wp2_with fail
                                          refine (cloneBs_any a3 n2 c3 fb v3 s3 (by omega) hbf).mono ?_
                                          rintro e v4 ⟨b3, d3, fb', rfl, o3, hal3, g4⟩
                                          have hz3 := alikes_sizes s3 o3.sees hal3
                                          have o0 := kept_none o0 g4
                                          have o1 := o1.kept g4
                                          have o2 := kept_none o2 g4
                                          have s7 := s7.kept g4
                                          have s11 := s11.kept g4
                                          have g4 := grownBy_none_trans g3 g4
                                          go_wp2_with fail
                                          refine (clone_own a7 n7 c7 la v4 s7 (by omega)).mono ?_
                                          rintro e v5 ⟨b7, d7, rfl, o7, g5⟩
                                          have o0 := kept_none o0 g5
                                          have o1 := o1.kept g5
                                          have o2 := kept_none o2 g5
                                          have o3 := o3.kept g5
                                          have s11 := s11.kept g5
                                          have g5 := grownBy_none_trans g4 g5
                                          go_wp2_with fail
                                          refine (clone_own a11 n11 c11 lb v5 s11 (by omega)).mono ?_
                                          rintro e C ⟨b11, d11, rfl, o11, g6⟩
                                          have p0 := own_seesV (kept_none o0 g6)
                                          have p1 := (o1.kept g6).sees
                                          have p2 := own_seesV (kept_none o2 g6)
                                          have p3 := (o3.kept g6).sees
                                          have p7 := o7.sees.kept g6
                                          have p11 := o11.sees
                                          have gC := grownBy_none_trans g5 g6
                                          have hsr' : sizes rb' ≤ 1048576 := by unfold sizes at hsr ⊢; rw [hz1]; exact hsr
                                          have hsf' : sizes fb' ≤ 1048576 := by unfold sizes at hsf ⊢; rw [hz3]; exact hsf
                                          have hbr' : ∀ b ∈ rb', b.n ≤ 1048576 := fun b hb => Nat.le_trans (sizes_mem rb' b hb) hsr'
                                          have hbf' : ∀ b ∈ fb', b.n ≤ 1048576 := fun b hb => Nat.le_trans (sizes_mem fb' b hb) hsf'
                                          have hlr' := p1.len
                                          have hlf' := p3.len
                                          have HBC : Hid (Below w.heap.size w C) := HB.out.1.grown gC HB.out.2 (by simp)
                                          clear o0 o1 o2 o3 o7 o11 s0 s1 s2 s3 s7 s11 g1 g2 g3 g4 g5 g6 gC hal1 hal3 hz1 hz3 HB
                                          go_wp2_with fail
                                          refine (sum_any b1 n0 d1 rb' C p1.row (by omega) hsr').mono ?_
                                          rintro e w' ⟨rfl, rfl⟩
                                          go_wp2_with fail
                                          refine (sum_any b3 n2 d3 fb' C p3.row (by omega) hsf').mono ?_
                                          rintro e w' ⟨rfl, rfl⟩
                                          go_wp2_with fail
                                          obtain ⟨B, hB⟩ : ∃ B : Int, ((sizes rb' : Nat) : Int) + ((sizes fb' : Nat) : Int) = B := ⟨_, rfl⟩
                                          have hB0 : 0 ≤ B ∧ B ≤ 2097152 := by omega
                                          refine (build_any b0 b1 b2 b3 n0 n2 d0 d1 d2 d3 rs fss rb' fb' C p0 p1 p2 p3 (by omega) (by omega) hsr' hsf').mono ?_
                                          rw [hB]
                                          have HBE : Hid (((sizes rb' : Nat) : Int) + ((sizes fb' : Nat) : Int) = B) := hB
                                          clear hB
                                          rintro e w1 ⟨L1, e1, f1, es1, fo1, fc1, fs1, rfl, bd1⟩
                                          have so1 := sorted_of bd1.f1 (specsF_sorted HI.out)
                                          go_wp2_with fail
                                          refine (clone_own b7 n7 d7 la w1 (p7.kept bd1.gr) (by omega)).mono ?_
                                          rintro e w2 ⟨ca, da, rfl, oa, ga⟩
                                          have bd2 := bd1.grown ga
                                          go_wp2_with fail
                                          refine (zzput_filed L1 n0 f1 e1 (.slice fo1 n2 fc1) B aE aR a ⟨ca, n7, da, la⟩ es1 w2 bd2.rl.ready (by omega) so1 (by omega) (by omega) (by show n7 ≤ _; omega) (ownsRow_base oa.row (Nat.zero_le _))).mono ?_
                                          rintro e w3 ⟨rfl, e3, f3, x3, hr3, hp3, hf3⟩
                                          have bd3 := bd2.put hr3 hp3 hf3
                                          have so3 := put_sorted' bd2.f1 so1 hf3.1 (fun q hq e => notin_seq HA.out hq e)
                                          clear hr3 hp3 oa ga bd1 bd2
                                          go_wp2_with fail
                                          refine (clone_own b11 n11 d11 lb w3 (p11.kept bd3.gr) (by omega)).mono ?_
                                          rintro e w4 ⟨cb, db, rfl, ob, gb⟩
                                          have bd4 := bd3.grown gb
                                          go_wp2_with fail
                                          refine (zzput_filed L1 (n0 + 1) f3 e3 (.slice fo1 n2 fc1) (B + (n7 : Int)) bE bR b ⟨cb, n11, db, lb⟩ _ w4 bd4.rl.ready (by omega) so3 (by omega) (by omega) (by show n11 ≤ _; omega) (ownsRow_base ob.row (Nat.zero_le _))).mono ?_
                                          rintro e N ⟨rfl, e5, f5, x5, hr5, hp5, hf5⟩
                                          have bd5 := bd4.put hr5 hp5 hf5
                                          have so5 := put_sorted' bd4.f1 so3 hf5.1 (fun q hq e => by rcases (putS_mem _ _ _).1 hq with rfl | hq; exact hab e; exact notin_seq HBB.out hq e)
                                          clear hr5 hp5 ob gb bd3 bd4 so1 so3 hf3 hf5
                                          go_wp2_with fail
                                          refine (build_any b0 b1 b2 b3 n0 n2 d0 d1 d2 d3 rs fss rb' fb' N (p0.kept bd5.gr) (p1.kept bd5.gr) (p2.kept bd5.gr) (p3.kept bd5.gr) (by omega) (by omega) hsr' hsf').mono ?_
                                          rw [HBE.out]
                                          rintro e w6 ⟨L2, e6, f6, es6, fo6, fc6, fs6, rfl, bd6⟩
                                          have so6 := sorted_of bd6.f1 (specsF_sorted HI.out)
                                          go_wp2_with fail
                                          refine (clone_own b11 n11 d11 lb w6 ((p11.kept bd5.gr).kept bd6.gr) (by omega)).mono ?_
                                          rintro e w7 ⟨cb, db, rfl, ob, gb⟩
                                          have bd7 := bd6.grown gb
                                          go_wp2_with fail
                                          refine (zzput_filed L2 n0 f6 e6 (.slice fo6 n2 fc6) B bE bR b ⟨cb, n11, db, lb⟩ es6 w7 bd7.rl.ready (by omega) so6 (by omega) (by omega) (by show n11 ≤ _; omega) (ownsRow_base ob.row (Nat.zero_le _))).mono ?_
                                          rintro e w8 ⟨rfl, e8, f8, x8, hr8, hp8, hf8⟩
                                          have bd8 := bd7.put hr8 hp8 hf8
                                          have so8 := put_sorted' bd7.f1 so6 hf8.1 (fun q hq e => notin_seq HBB.out hq e)
                                          clear hr8 hp8 ob gb bd6 bd7
                                          go_wp2_with fail
                                          refine (clone_own b7 n7 d7 la w8 ((p7.kept bd5.gr).kept bd8.gr) (by omega)).mono ?_
                                          rintro e w9 ⟨ca, da, rfl, oa, ga⟩
                                          have bd9 := bd8.grown ga
                                          go_wp2_with fail
                                          refine (zzput_filed L2 (n0 + 1) f8 e8 (.slice fo6 n2 fc6) (B + (n11 : Int)) aE aR a ⟨ca, n7, da, la⟩ _ w9 bd9.rl.ready (by omega) so8 (by omega) (by omega) (by show n7 ≤ _; omega) (ownsRow_base oa.row (Nat.zero_le _))).mono ?_
                                          rintro e F ⟨rfl, e10, f10, x10, hr10, hp10, hf10⟩
                                          have bdT := bd9.put hr10 hp10 hf10
                                          have soT := put_sorted' bd9.f1 so8 hf10.1 (fun q hq e => by rcases (putS_mem _ _ _).1 hq with rfl | hq; exact hab e.symm; exact notin_seq HA.out hq e)
                                          clear hr10 hp10 oa ga bd8 bd9 so6 so8 hf8 hf10
                                          have bdO := bd5.grown bdT.gr
                                          have gCF := bdO.gr
                                          have HBF : Hid (Below w.heap.size w F) := HBC.out.grown gCF HBC.out.size (by simp)
                                          have C1 : Hid _ := check_bd bdO so5 rfl (.inl ⟨rfl, rfl⟩) hab HA.out HBB.out hl0 hlr' (p0.kept gCF) (p1.kept gCF) (p2.kept gCF) (p3.kept gCF) (p7.kept gCF) (p11.kept gCF) (by omega) (by omega) (by omega) (by omega) hbr' hbf' (B + (n7 : Int) + (n11 : Int)) rfl 0
                                          have C2 : Hid (∀ q, _) := fun q => check_bd bdT soT rfl (.inr ⟨rfl, rfl⟩) hab HA.out HBB.out hl0 hlr' (p0.kept gCF) (p1.kept gCF) (p2.kept gCF) (p3.kept gCF) (p7.kept gCF) (p11.kept gCF) (by omega) (by omega) (by omega) (by omega) hbr' hbf' (B + (n7 : Int) + (n11 : Int)) (by show B + (n11 : Int) + (n7 : Int) = _; omega) q
                                          clear bdO bdT bd5 so5 soT p0 p1 p2 p3 p7 p11 HI HA HBB hbr' hbf' gCF
                                          go_wp2_with fail
                                          refine Calls.mono C1.out ?_
                                          rintro e w' ⟨rfl, q9, rfl⟩
                                          go_wp2_with fail
                                          refine Calls.mono (C2.out q9) ?_
                                          rintro e w' ⟨rfl, q10, rfl⟩
                                          go_wp2
                                          go_ret
                                          exact ⟨rfl, below_drewN HBF.out _⟩
                · have hne : ((n2 : Int) != (n3 : Int)) = true := by simp; omega
                  have hne0 : ((n0 : Int) != (n1 : Int)) = false := by simp; omega
                  go_wp2
                  go_ret
                  exact ⟨rfl, Below.refl _ _⟩
              · have hne : ((n0 : Int) != (n1 : Int)) = true := by simp; omega
                go_wp2
                go_ret
                exact ⟨rfl, Below.refl _ _⟩

end Go.Proofs.Qxb6613717a
