/- The premises' helpers: zzB1SumBodies, zzB1StrictlyIncreasing, zzB1HasU64, zzBytes of the law of two. -/
import Derived.Test.Qxb6613717aSt
namespace Go.Proofs.Qxb6613717a
open Go.RowKit

set_option maxHeartbeats 1600000 in
set_option maxRecDepth 100000 in
theorem sum_any (a1 : Option Addr) (n1 c1 : Nat) (bs : List Body) (w : World) (s1 : SeesV w a1 n1 c1 (bodyVals bs)) (hn : n1 ≤ 1048576) (hsz : sizes bs ≤ 1048576) :
    Calls Try.prog 14 #[.slice a1 n1 c1] w fun e w' => e = .returned (.int .i64 ((sizes bs : Nat) : Int)) ∧ w = w' := by
  have hl : bs.length = n1 := by have := s1.1; simpa [bodyVals] using this
  by_cases hz : n1 = 0
  · subst hz
    obtain rfl : bs = [] := List.eq_nil_of_length_eq_zero hl
    go_enter Try.func14, Try.ntmps14
    go_wp2
    refine wp_loop_rounds 1 ?_
    rw [rounds_succ]
    go_wp2
    go_ret
    exact ⟨rfl, rfl⟩
  · obtain ⟨b, o, rfl, hc⟩ := s1.at (by omega)
    go_enter Try.func14, Try.ntmps14
    go_wp2
    go_loop [3, 4] (fun vt vi => ∃ k : Nat, k ≤ n1 ∧ vi = .int .i64 k ∧ vt = .int .i64 ((sizes (bs.take k) : Nat) : Int)) (fun _ vi => n1 - (intOf vi).toNat)
    case atStart => exact ⟨0, Nat.zero_le _, rfl, rfl⟩
    case round =>
      obtain ⟨k, hk, rfl, rfl⟩ := hrel
      have hle := sizes_le bs k
      by_cases hlt : k < n1
      · have hck := hc k (bs[k]'(by omega)).val (by simp [bodyVals, hl, hlt])
        have HS : Hid (sizes (bs.take (k + 1)) = sizes (bs.take k) + (bs[k]'(by omega)).n) := sizes_take bs k (by omega)
        have hle1 := sizes_mem bs (bs[k]'(by omega)) (List.getElem_mem _)
        unfold Body.val at hck
        generalize bs[k]'(by omega) = x at hck HS hle1
        generalize sizes (bs.take k) = S at HS hle ⊢
        clear hc s1
        go_wp2
        exact ⟨⟨k + 1, by omega, by go_num, val_i64 (by rw [HS.out]; omega)⟩, by simp [intOf]; omega⟩
      · have e : bs.take k = bs := List.take_of_length_le (by omega)
        rw [e]
        clear e
        go_wp2
        go_ret
        exact ⟨rfl, rfl⟩

/-- Strictly increasing. -/
def Incr (ss : List Nat) : Prop := ∀ i (hi : i + 1 < ss.length), ss[i] < ss[i + 1]

set_option maxHeartbeats 1600000 in
set_option maxRecDepth 100000 in
theorem inc_any (a0 : Option Addr) (n0 c0 : Nat) (ss : List Nat) (w : World) (s0 : SeesV w a0 n0 c0 (u64s ss)) (hn : n0 ≤ 1048576) :
    Calls Try.prog 9 #[.slice a0 n0 c0] w fun e w' => YesIf e (Incr ss) ∧ ∃ q, w' = w.drewN q := by
  have hl : ss.length = n0 := by have := s0.1; simpa [u64s] using this
  by_cases hz : n0 ≤ 1
  · go_enter Try.func9, Try.ntmps9
    go_wp2
    refine wp_loop_rounds 1 ?_
    rw [rounds_succ]
    go_wp2
    go_ret
    exact ⟨YesIf.yes (fun i hi => by omega), 0, rfl⟩
  · obtain ⟨b, o, rfl, hc⟩ := s0.at (by omega)
    go_enter Try.func9, Try.ntmps9
    go_wp2
    go_loopw [3] (fun vi wr => ∃ k q : Nat, 1 ≤ k ∧ k ≤ n0 ∧ vi = .int .i64 k ∧ wr = w.drewN q ∧ Hid (∀ i (hi : i + 1 < ss.length), i + 1 < k → ss[i] < ss[i + 1])) (fun vi _ => n0 - (intOf vi).toNat)
    case atStart => exact ⟨1, 0, by omega, by omega, rfl, rfl, fun i hi h => absurd h (by omega)⟩
    case round =>
      obtain ⟨k, q, hk1, hk, rfl, rfl, HI⟩ := hrel
      by_cases hlt : k < n0
      · obtain ⟨j, rfl⟩ : ∃ j, k = j + 1 := ⟨k - 1, by omega⟩
        have d0 := hc j _ (u64s_at (by omega))
        have d1 := hc (j + 1) _ (u64s_at (by omega))
        obtain ⟨x, hx⟩ : ∃ x, ss[j]'(by omega) = x := ⟨_, rfl⟩
        obtain ⟨y, hy⟩ : ∃ y, ss[j + 1]'(by omega) = y := ⟨_, rfl⟩
        rw [hx] at d0
        rw [hy] at d1
        have HX : Hid (ss[j]'(by omega) = x) := hx
        have HY : Hid (ss[j + 1]'(by omega) = y) := hy
        clear hx hy hc
        have hsub : IntKind.i64.wrap ((j : Int) + 1 - 1) = (j : Int) := by rw [IntKind.wrap_i64]; omega
        have hidx : ((j : Int) + 1 - 1) = (j : Int) := by omega
        by_cases hxy : x < y
        · go_wp2_with fail
          go_quiet (fail)
          go_wp2
          refine ⟨⟨j + 1 + 1, q + nq, by omega, by omega, by go_num, rfl, fun i hi him => ?_⟩, by simp [intOf]; omega⟩
          by_cases e : i = j
          · subst e; rw [HX.out, HY.out]; exact hxy
          · exact HI.out i hi (by omega)
        · go_wp2_with fail
          go_quiet (fail)
          go_wp2
          go_ret
          exact ⟨YesIf.no, q + nq, by rw [World.drewN_drewN]⟩
      · go_wp2
        go_ret
        exact ⟨YesIf.yes (fun i hi => HI.out i hi (by omega)), q, rfl⟩

/-- A call that answers a bool; where it says no, p holds. -/
def NoIf (e : Ending) (p : Prop) : Prop := ∃ r, e = .returned (.bool r) ∧ (r = false → p)
theorem NoIf.yes {p : Prop} : NoIf (.returned (.bool true)) p := ⟨true, rfl, fun h => by simp at h⟩
theorem NoIf.no {p : Prop} (h : p) : NoIf (.returned (.bool false)) p := ⟨false, rfl, fun _ => h⟩

set_option maxHeartbeats 1600000 in
set_option maxRecDepth 100000 in
theorem has_any (a0 : Option Addr) (n0 c0 x : Nat) (ss : List Nat) (w : World) (s0 : SeesV w a0 n0 c0 (u64s ss)) (hn : n0 ≤ 1048576) :
    Calls Try.prog 10 #[.slice a0 n0 c0, .int .u64 x] w fun e w' => NoIf e (x ∉ ss) ∧ w = w' := by
  have hl : ss.length = n0 := by have := s0.1; simpa [u64s] using this
  by_cases hz : n0 = 0
  · subst hz
    obtain rfl : ss = [] := List.eq_nil_of_length_eq_zero hl
    go_enter Try.func10, Try.ntmps10
    go_wp2
    refine wp_loop_rounds 1 ?_
    rw [rounds_succ]
    go_wp2
    go_ret
    exact ⟨NoIf.no (by simp), rfl⟩
  · obtain ⟨b, o, rfl, hc⟩ := s0.at (by omega)
    go_enter Try.func10, Try.ntmps10
    go_wp2
    go_loop [5] (fun vi => ∃ k : Nat, k ≤ n0 ∧ vi = .int .i64 k ∧ Hid (∀ i (hi : i < ss.length), i < k → ss[i] ≠ x)) (fun vi => n0 - (intOf vi).toNat)
    case atStart => exact ⟨0, Nat.zero_le _, rfl, fun i hi h => absurd h (by omega)⟩
    case round =>
      obtain ⟨k, hk, rfl, HI⟩ := hrel
      by_cases hlt : k < n0
      · have d0 := hc k _ (u64s_at (by omega))
        obtain ⟨y, hy⟩ : ∃ y, ss[k]'(by omega) = y := ⟨_, rfl⟩
        rw [hy] at d0
        have HY : Hid (ss[k]'(by omega) = y) := hy
        clear hy hc
        by_cases hxy : y = x
        · subst hxy
          go_wp2
          go_ret
          exact ⟨NoIf.yes, rfl⟩
        · have hne : ((y : Int) == (x : Int)) = false := by simp; omega
          go_wp2
          refine ⟨⟨k + 1, by omega, by go_num, fun i hi him => ?_⟩, by simp [intOf]; omega⟩
          by_cases e : i = k
          · subst e; rw [HY.out]; exact hxy
          · exact HI.out i hi (by omega)
      · go_wp2
        go_ret
        refine ⟨NoIf.no (fun hm => ?_), rfl⟩
        obtain ⟨i, hi, e⟩ := List.getElem_of_mem hm
        exact HI.out i hi (by omega) e

set_option maxHeartbeats 3200000 in
set_option maxRecDepth 100000 in
theorem bytes7_any (a0 a1 a2 a3 a7 a11 : Option Addr) (n0 n1 n2 n3 n7 n11 c0 c1 c2 c3 c7 c11 : Nat) (v4 v5 v6 v8 v9 v10 : Value) (rb fb : List Body) (w : World) (h0 : n0 ≤ maxLen) (s1 : SeesV w a1 n1 c1 (bodyVals rb)) (hb : ∀ b ∈ rb, b.n ≤ maxLen) (h2 : n2 ≤ maxLen) (s3 : SeesV w a3 n3 c3 (bodyVals fb)) (hb3 : ∀ b ∈ fb, b.n ≤ maxLen) (h7 : n7 ≤ maxLen) (h11 : n11 ≤ maxLen) :
    Calls Try.prog 7 #[.slice a0 n0 c0, .slice a1 n1 c1, .slice a2 n2 c2, .slice a3 n3 c3, v4, v5, v6, .slice a7 n7 c7, v8, v9, v10, .slice a11 n11 c11] w fun e w' => YesIf e (n0 + n1 + sizes rb + n2 + n3 + sizes fb + n7 + n11 ≤ 1048576) ∧ w = w' := by
  have hl : rb.length = n1 := by have := s1.1; simpa [bodyVals] using this
  have hl3 : fb.length = n3 := by have := s3.1; simpa [bodyVals] using this
  have h1 : n1 ≤ maxLen := Nat.le_trans s1.2.1 s1.2.2.1
  have h3 : n3 ≤ maxLen := Nat.le_trans s3.2.1 s3.2.2.1
  unfold maxLen at h0 h1 h2 h3 h7 h11 hb hb3
  by_cases hbig : 1048576 < n0 + n1
  · go_enter Try.func7, Try.ntmps7
    go_wp2
    all_goals
      go_ret
      exact ⟨YesIf.no, rfl⟩
  · go_enter Try.func7, Try.ntmps7
    go_wp2
    go_loop [25, 26] (fun vz vi => ∃ k : Nat, k ≤ n1 ∧ vi = .int .i64 k ∧ vz = .int .i64 ((n0 + n1 + sizes (rb.take k) : Nat) : Int) ∧ n0 + n1 + sizes (rb.take k) ≤ 1048576) (fun _ vi => n1 - (intOf vi).toNat)
    case atStart => exact ⟨0, Nat.zero_le _, rfl, by simp [sizes], by simp [sizes]; omega⟩
    case round =>
      obtain ⟨k, hk, rfl, rfl, hsum⟩ := hrel
      by_cases hlt : k < n1
      · obtain ⟨b, o, rfl, hc⟩ := s1.at (by omega)
        have hck := hc k (rb[k]'(by omega)).val (by simp [bodyVals, hl, hlt])
        have HS : Hid (sizes (rb.take (k + 1)) = sizes (rb.take k) + (rb[k]'(by omega)).n) := sizes_take rb k (by omega)
        have hbk := hb (rb[k]'(by omega)) (List.getElem_mem _)
        unfold Body.val at hck
        generalize rb[k]'(by omega) = x at hck HS hbk
        generalize sizes (rb.take k) = S at HS hsum ⊢
        clear hc
        go_wp2
        · go_ret
          exact ⟨YesIf.no, rfl⟩
        · go_ret
          exact ⟨YesIf.no, rfl⟩
        · exact ⟨⟨k + 1, by omega, by go_num, val_i64 (by rw [HS.out]; omega), by rw [HS.out]; omega⟩, by simp [intOf]; omega⟩
      · have e : rb.take k = rb := List.take_of_length_le (by omega)
        rw [e] at hsum ⊢
        clear e
        have HR : Hid (∃ S, sizes rb = S) := ⟨_, rfl⟩
        obtain ⟨S, hS⟩ := HR
        rw [hS] at hsum ⊢
        have HS : Hid (sizes rb = S) := hS
        clear hS
        by_cases hbig2 : 1048576 < n0 + n1 + S + n2 + n3
        · go_wp2
          all_goals
            go_ret
            exact ⟨YesIf.no, rfl⟩
        · go_wp2
          go_loop [25, 27] (fun vz vi => ∃ m : Nat, m ≤ n3 ∧ vi = .int .i64 m ∧ vz = .int .i64 ((n0 + n1 + S + n2 + n3 + sizes (fb.take m) : Nat) : Int) ∧ n0 + n1 + S + n2 + n3 + sizes (fb.take m) ≤ 1048576) (fun _ vi => n3 - (intOf vi).toNat)
          case atStart => exact ⟨0, Nat.zero_le _, rfl, by simp [sizes], by simp [sizes]; omega⟩
          case round =>
            obtain ⟨m, hm, rfl, rfl, hsum2⟩ := hrel
            by_cases hlt2 : m < n3
            · obtain ⟨b, o, rfl, hc⟩ := s3.at (by omega)
              have hck := hc m (fb[m]'(by omega)).val (by simp [bodyVals, hl3, hlt2])
              have HT : Hid (sizes (fb.take (m + 1)) = sizes (fb.take m) + (fb[m]'(by omega)).n) := sizes_take fb m (by omega)
              have hbk := hb3 (fb[m]'(by omega)) (List.getElem_mem _)
              unfold Body.val at hck
              generalize fb[m]'(by omega) = x at hck HT hbk
              generalize sizes (fb.take m) = T at HT hsum2 ⊢
              clear hc
              go_wp2
              · go_ret
                exact ⟨YesIf.no, rfl⟩
              · go_ret
                exact ⟨YesIf.no, rfl⟩
              · exact ⟨⟨m + 1, by omega, by go_num, val_i64 (by rw [HT.out]; omega), by rw [HT.out]; omega⟩, by simp [intOf]; omega⟩
            · have e : fb.take m = fb := List.take_of_length_le (by omega)
              rw [e] at hsum2 ⊢
              clear e
              have HR : Hid (∃ T, sizes fb = T) := ⟨_, rfl⟩
              obtain ⟨T, hT⟩ := HR
              rw [hT] at hsum2 ⊢
              have HT : Hid (sizes fb = T) := hT
              clear hT
              by_cases hbig3 : 1048576 < n0 + n1 + S + n2 + n3 + T + n7 + n11
              · go_wp2
                all_goals
                  go_ret
                  exact ⟨YesIf.no, rfl⟩
              · have HF : Hid (n0 + n1 + sizes rb + n2 + n3 + sizes fb + n7 + n11 ≤ 1048576) := by show _ ≤ _; rw [HS.out, HT.out]; omega
                go_wp2
                go_ret
                exact ⟨YesIf.yes HF.out, rfl⟩

end Go.Proofs.Qxb6613717a
