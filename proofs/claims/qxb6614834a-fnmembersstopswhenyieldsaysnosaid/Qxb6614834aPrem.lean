/- zzBytes of both laws; zzExportPremise; zzCloneU32. -/
import Derived.Test.Qxb6614834aBase
namespace Go.Proofs.Qxb6614834a
open Go.RowKit
set_option linter.unusedVariables false

set_option maxHeartbeats 1600000 in
set_option maxRecDepth 100000 in
theorem bytes5_any (a0 a1 a2 a3 a4 a5 a6 : Option Addr) (n0 n1 n2 n3 n4 n5 n6 c0 c1 c2 c3 c4 c5 c6 : Nat) (w : World) (h0 : n0 ≤ maxLen) (h1 : n1 ≤ maxLen) (h2 : n2 ≤ maxLen) (h3 : n3 ≤ maxLen) (h4 : n4 ≤ maxLen) (h5 : n5 ≤ maxLen) (h6 : n6 ≤ maxLen) :
    Calls Try.prog 5 #[.slice a0 n0 c0, .slice a1 n1 c1, .slice a2 n2 c2, .slice a3 n3 c3, .slice a4 n4 c4, .slice a5 n5 c5, .slice a6 n6 c6] w fun e w' => YesIf e True ∧ w = w' := by
  unfold maxLen at h0 h1 h2 h3 h4 h5 h6
  go_enter Try.func5, Try.ntmps5
  go_wp2
  all_goals
    go_ret
    first | exact ⟨YesIf.no, rfl⟩ | exact ⟨YesIf.yes trivial, rfl⟩

set_option maxHeartbeats 1600000 in
set_option maxRecDepth 100000 in
theorem bytes11_any (a0 a1 a2 a3 a4 a5 a6 : Option Addr) (n0 n1 n2 n3 n4 n5 n6 c0 c1 c2 c3 c4 c5 c6 : Nat) (v : Value) (w : World) (h0 : n0 ≤ maxLen) (h1 : n1 ≤ maxLen) (h2 : n2 ≤ maxLen) (h3 : n3 ≤ maxLen) (h4 : n4 ≤ maxLen) (h5 : n5 ≤ maxLen) (h6 : n6 ≤ maxLen) :
    Calls Try.prog 11 #[.slice a0 n0 c0, .slice a1 n1 c1, .slice a2 n2 c2, .slice a3 n3 c3, .slice a4 n4 c4, .slice a5 n5 c5, .slice a6 n6 c6, v] w fun e w' => YesIf e True ∧ w = w' := by
  unfold maxLen at h0 h1 h2 h3 h4 h5 h6
  go_enter Try.func11, Try.ntmps11
  go_wp2
  all_goals
    go_ret
    first | exact ⟨YesIf.no, rfl⟩ | exact ⟨YesIf.yes trivial, rfl⟩

/-- What the premise asks of the lengths and the index. -/
structure Good (n n1 n2 n3 n4 : Nat) (ss os : List Nat) : Prop where
  e1 : n1 = n
  e2 : n2 = n
  e3 : n3 = n
  e4 : n4 = n
  pos : 0 < ss.length
  first : ss.getD 0 0 = 0
  last : ss.getD (ss.length - 1) 0 = os.length
  mono : ∀ i, i + 1 < ss.length → ss.getD i 0 ≤ ss.getD (i + 1) 0
  rows : ∀ i, i < os.length → os.getD i 0 < n

theorem u32s_get {ss : List Nat} {j : Nat} (h : j < ss.length) : (u32s ss)[j]? = some (.int .u32 ((ss.getD j 0 : Nat) : Int)) := by
  simp [u32s, h, List.getD_eq_getElem?_getD]

/-- What a slice of uint32 reads as. -/
def Small (ss : List Nat) : Prop := ∀ i, ss.getD i 0 < 4294967296

set_option maxHeartbeats 3200000 in
set_option maxRecDepth 100000 in
theorem prem_any (a0 a1 a2 a3 a4 a5 a6 : Option Addr) (n0 n1 n2 n3 n4 n5 n6 c0 c1 c2 c3 c4 c5 c6 : Nat) (ss os : List Nat) (w : World) (h0 : n0 ≤ 32768) (h1 : n1 ≤ 32768) (h2 : n2 ≤ 32768) (h3 : n3 ≤ 32768) (h4 : n4 ≤ 32768) (h5 : n5 ≤ 32768) (h6 : n6 ≤ 32768)
    (s5 : SeesV w a5 n5 c5 (u32s ss)) (s6 : SeesV w a6 n6 c6 (u32s os)) (hss : Small ss) (hos : Small os) :
    Calls Try.prog 6 #[.slice a0 n0 c0, .slice a1 n1 c1, .slice a2 n2 c2, .slice a3 n3 c3, .slice a4 n4 c4, .slice a5 n5 c5, .slice a6 n6 c6] w fun e w' => YesIf e (Good n0 n1 n2 n3 n4 ss os) ∧ ∃ q, w' = w.drewN q := by
  have hl5 : ss.length = n5 := by have := s5.1; simpa [u32s] using this
  have hl6 : os.length = n6 := by have := s6.1; simpa [u32s] using this
  by_cases e1 : n1 = n0
  · by_cases e2 : n2 = n0
    · by_cases e3 : n3 = n0
      · by_cases e4 : n4 = n0
        · subst e1 e2 e3
          by_cases hp : n5 = 0
          · subst hp
            go_enter Try.func6, Try.ntmps6
            go_wp2
            go_ret
            exact ⟨YesIf.no, 0, rfl⟩
          · obtain ⟨m, rfl⟩ : ∃ m, n5 = m + 1 := ⟨n5 - 1, by omega⟩
            obtain ⟨b5, o5, rfl, hc5⟩ := s5.at (by omega)
            have d0 := hc5 0 _ (u32s_get (by omega))
            have d0' : w.cell? ⟨b5, o5, none⟩ = some (.int .u32 ((ss.getD 0 0 : Nat) : Int)) := d0
            have dl := hc5 m _ (u32s_get (by omega))
            have hx0 := hss 0
            have hxl := hss m
            have H0 : Hid (∃ x, ss.getD 0 0 = x) := ⟨_, rfl⟩
            have HL : Hid (∃ x, ss.getD m 0 = x) := ⟨_, rfl⟩
            obtain ⟨x0, H0⟩ := H0
            obtain ⟨xl, HL⟩ := HL
            rw [H0] at d0' hx0
            rw [HL] at dl hxl
            have H0 : Hid (ss.getD 0 0 = x0) := H0
            have HL : Hid (ss.getD m 0 = xl) := HL
            clear d0
            have hi1 : IntKind.i64.wrap (((m + 1 : Nat) : Int) - 1) = (m : Int) := by rw [IntKind.wrap_i64]; omega
            have hi2 : IntKind.i64.wrap ((m : Int) + 1 - 1) = (m : Int) := by rw [IntKind.wrap_i64]; omega
            have hw1 : IntKind.u64.wrap (xl : Int) = (xl : Int) := by rw [IntKind.wrap_u64]; omega
            have hw2 : IntKind.u64.wrap (n6 : Int) = (n6 : Int) := by rw [IntKind.wrap_u64]; omega
            have hw3 : IntKind.u64.wrap (n4 : Int) = (n4 : Int) := by rw [IntKind.wrap_u64]; omega
            by_cases hf : x0 = 0
            · subst hf
              by_cases hlast : xl = n6
              · subst hlast
                have HM : Hid (∀ i, ss.getD i 0 < 4294967296) := hss
                have HO : Hid (∀ i, os.getD i 0 < 4294967296) := hos
                have hm : m ≤ 32767 := by omega
                clear hxl hss hos dl d0'
                go_enter Try.func6, Try.ntmps6
                have d0 : w.cell? ⟨b5, o5, none⟩ = some (.int .u32 0) := by have := hc5 0 _ (u32s_get (by omega)); rw [H0.out] at this; exact this
                have dl : w.cell? ⟨b5, o5 + m, none⟩ = some (.int .u32 (xl : Int)) := by have := hc5 m _ (u32s_get (by omega)); rw [HL.out] at this; exact this
                go_wp2
                clear d0 dl
                go_loopw [16] (fun vi wr => ∃ k q : Nat, 1 ≤ k ∧ k ≤ m + 1 ∧ vi = .int .i64 k ∧ wr = w.drewN q ∧ Hid (∀ i, i + 1 < k → ss.getD i 0 ≤ ss.getD (i + 1) 0)) (fun vi _ => m + 1 - (intOf vi).toNat)
                case atStart => exact ⟨1, 0, by omega, by omega, rfl, rfl, fun i h => absurd h (by omega)⟩
                case round =>
                  obtain ⟨k, q, hk1, hk, rfl, rfl, HI⟩ := hrel
                  by_cases hlt : k < m + 1
                  · obtain ⟨j, rfl⟩ : ∃ j, k = j + 1 := ⟨k - 1, by omega⟩
                    have d0 := hc5 j _ (u32s_get (by omega))
                    have d1 := hc5 (j + 1) _ (u32s_get (by omega))
                    obtain ⟨x, hx⟩ : ∃ x, ss.getD j 0 = x := ⟨_, rfl⟩
                    obtain ⟨y, hy⟩ : ∃ y, ss.getD (j + 1) 0 = y := ⟨_, rfl⟩
                    rw [hx] at d0
                    rw [hy] at d1
                    have HX : Hid (ss.getD j 0 = x) := hx
                    have HY : Hid (ss.getD (j + 1) 0 = y) := hy
                    clear hx hy hc5
                    have hsub : IntKind.i64.wrap ((j : Int) + 1 - 1) = (j : Int) := by rw [IntKind.wrap_i64]; omega
                    have hidx : ((j : Int) + 1 - 1) = (j : Int) := by omega
                    by_cases hxy : y < x
                    · go_wp2_with fail
                      go_quiet (fail)
                      go_wp2
                      go_ret
                      exact ⟨YesIf.no, q + nq, by rw [World.drewN_drewN]⟩
                    · go_wp2_with fail
                      go_quiet (fail)
                      go_wp2
                      refine ⟨⟨j + 1 + 1, q + nq, by omega, by omega, by go_num, rfl, fun i him => ?_⟩, by simp [intOf]; omega⟩
                      by_cases e : i = j
                      · subst e; rw [HX.out, HY.out]; omega
                      · exact HI.out i (by omega)
                  · obtain rfl : k = m + 1 := by omega
                    clear hc5
                    go_wp2
                    go_loop [17] (fun vi => ∃ k : Nat, k ≤ xl ∧ vi = .int .i64 k ∧ Hid (∀ i, i < k → os.getD i 0 < n4)) (fun vi => xl - (intOf vi).toNat)
                    case atStart => exact ⟨0, by omega, rfl, fun i h => absurd h (by omega)⟩
                    case round =>
                      obtain ⟨k, hk2, rfl, HJ⟩ := hrel
                      by_cases hlt2 : k < xl
                      · obtain ⟨b6, o6, rfl, hc6⟩ := s6.at (by omega)
                        have d0 := hc6 k _ (u32s_get (by omega))
                        have hxs := HO.out k
                        obtain ⟨x, hx⟩ : ∃ x, os.getD k 0 = x := ⟨_, rfl⟩
                        rw [hx] at d0 hxs
                        have HX : Hid (os.getD k 0 = x) := hx
                        clear hx hc6
                        have hw4 : IntKind.u64.wrap (x : Int) = (x : Int) := by rw [IntKind.wrap_u64]; omega
                        by_cases hxn : x < n4
                        · go_wp2
                          refine ⟨⟨k + 1, by omega, by go_num, fun i him => ?_⟩, by simp [intOf]; omega⟩
                          by_cases e : i = k
                          · subst e; rw [HX.out]; exact hxn
                          · exact HJ.out i (by omega)
                        · go_wp2
                          go_ret
                          exact ⟨YesIf.no, q, rfl⟩
                      · go_wp2
                        go_ret
                        refine ⟨YesIf.yes ⟨by omega, by omega, by omega, by omega, by omega, H0.out, ?_, fun i hi => HI.out i (by omega), fun i hi => by have := HJ.out i (by omega); omega⟩, q, rfl⟩
                        have : ss.length - 1 = m := by omega
                        rw [this, HL.out, hl6]
              · have hne : ((xl : Int) == (n6 : Int)) = false := by simp; omega
                go_enter Try.func6, Try.ntmps6
                go_wp2
                go_ret
                exact ⟨YesIf.no, 0, rfl⟩
            · have hne : ((x0 : Int) == 0) = false := by simp; omega
              go_enter Try.func6, Try.ntmps6
              go_wp2
              go_ret
              exact ⟨YesIf.no, 0, rfl⟩
        · have hne : ((n4 : Int) == (n0 : Int)) = false := by simp; omega
          subst e1 e2 e3
          go_enter Try.func6, Try.ntmps6
          go_wp2
          go_ret
          exact ⟨YesIf.no, 0, rfl⟩
      · have hne : ((n3 : Int) == (n0 : Int)) = false := by simp; omega
        subst e1 e2
        go_enter Try.func6, Try.ntmps6
        go_wp2
        go_ret
        exact ⟨YesIf.no, 0, rfl⟩
    · have hne : ((n2 : Int) == (n0 : Int)) = false := by simp; omega
      subst e1
      go_enter Try.func6, Try.ntmps6
      go_wp2
      go_ret
      exact ⟨YesIf.no, 0, rfl⟩
  · have hne : ((n1 : Int) == (n0 : Int)) = false := by simp; omega
    go_enter Try.func6, Try.ntmps6
    go_wp2
    go_ret
    exact ⟨YesIf.no, 0, rfl⟩

theorem info36 : (Try.prog.info? 36).map (fun i => (i.zero, i.size, i.bytes)) = some (some (.int .u32 0), 1, 4) := by kernel_rfl

theorem set_at {w : World} {R e k : Nat} {cs : List Value} (h : w.heap[R]? = some (.cells cs.toArray e (0, 0))) (v : Value) : (w.setCell ⟨R, k, none⟩ v).heap[R]? = some (.cells (cs.set k v).toArray e (0, 0)) := by
  simp [World.setCell, Array.getElem?_modify, h]

theorem set_snoc (bs : List Value) (m : Nat) (z v : Value) : (bs ++ List.replicate (m + 1) z).set bs.length v = bs ++ [v] ++ List.replicate m z := by
  rw [List.set_append_right _ _ (Nat.le_refl _)]
  simp [List.replicate_succ]

theorem cell_mid {w : World} {R e k : Nat} {cs : List Value} {v : Value} (h : w.heap[R]? = some (.cells cs.toArray e (0, 0))) (hv : cs[k]? = some v) : w.cell? ⟨R, k, none⟩ = some v ∧ w.frozen? ⟨R, k, none⟩ = false := by
  refine ⟨?_, by simp [World.frozen?, h]⟩
  simp only [World.cell?, h]
  simpa using hv

theorem list_mid (bs : List Value) (m k : Nat) (z : Value) (hk : bs.length = k) (hm : 0 < m) : (bs ++ List.replicate m z)[k]? = some z := by
  subst hk
  rw [List.getElem?_append_right (Nat.le_refl _), Nat.sub_self]
  cases m with
  | zero => omega
  | succ m => rfl

theorem made_one (z : Value) (n : Nat) (hz : z.cells = #[z]) : (madeCells z.cells (n * 1)).toList = List.replicate n z := by
  apply List.ext_getElem
  · simp [size_madeCells]
  · intro i h1 h2
    simp [madeCells, hz, Nat.mod_one]

theorem grownBy_setCell (w : World) (a : Addr) (v : Value) : w.grownBy (w.setCell a v) (some a.block) :=
  ⟨rfl, rfl, rfl, by simp [World.setCell], fun k _ hk => Below.heap_setCell _ _ _ _ (fun e => hk (by rw [e]))⟩

theorem u32s_take {ss : List Nat} {k : Nat} (h : k < ss.length) : u32s (ss.take (k + 1)) = u32s (ss.take k) ++ [.int .u32 ((ss.getD k 0 : Nat) : Int)] := by
  rw [List.take_succ_eq_append_getElem h]
  have e : ss.getD k 0 = ss[k] := by simp [List.getD_eq_getElem?_getD, h]
  rw [e]
  simp only [u32s, List.map_append, List.map_cons, List.map_nil]

set_option maxHeartbeats 1600000 in
set_option maxRecDepth 100000 in
theorem clone_any (ao : Option Addr) (n cap : Nat) (ss : List Nat) (w : World) (hs : SeesV w ao n cap (u32s ss)) (hn : n ≤ 32768) :
    Calls Try.prog 7 #[.slice ao n cap] w fun e w' => ∃ ao' cap', e = .returned (.slice ao' n cap') ∧ w'.ownsRow w.heap.size 36 1 (.slice ao' n cap') n (u32s ss) ∧ w.grownBy w' none := by
  have hl : ss.length = n := by have := hs.1; simpa [u32s] using this
  have hat := hs.at
  obtain ⟨hl0, hnc, hcm, hnil, hcell⟩ := hs
  have he := fun wx => Lib.run_eql_slice_nil (P := Try.prog) wx 24 36 ao n cap 0 0 Try.underlying24
  obtain ⟨i0, hi, hz0, hz1, hz2⟩ := info_parts info36
  cases ao with
  | none =>
    obtain ⟨rfl, rfl⟩ := hnil rfl
    obtain rfl : ss = [] := List.eq_nil_of_length_eq_zero hl
    go_enter Try.func7, Try.ntmps7
    go_wp2
    go_ret
    exact ⟨none, 0, rfl, World.ownsRow_nil _ _ _ _, World.grownBy.refl _ _⟩
  | some a =>
    have he2 : ∀ wx, (binOp .eql 24 (.slice (some a) n cap) (.slice none 0 0)).run Try.prog wx = .ok (.bool false) wx := fun wx => he wx
    clear he
    go_enter Try.func7, Try.ntmps7
    go_wp2_with (first
      | (at_make; refine wpList_make_full _ rfl _ _ 24 rfl w.heap.size 36 i0 (.int .u32 0) 1 Try.underlying24 hi hz0 hz1 _ _ _ _ n rfl rfl rfl rfl (by rw [hz2]; omega) (by unfold maxLen; omega) (Nat.le_refl _) ?_; intro w1 hown hgrow)
      | fail)
    have hh := full_heap hown
    rw [made_one _ _ rfl] at hh
    clear hown he2
    go_loopw [4] (fun vi wr => ∃ k : Nat, k ≤ n ∧ vi = .int .i64 k ∧ wr.heap[w.heap.size]? = some (.cells (u32s (ss.take k) ++ List.replicate (n - k) (Value.int .u32 0)).toArray 36 (0, 0)) ∧ w.grownBy wr none) (fun vi _ => n - (intOf vi).toNat)
    case atStart => exact ⟨0, by omega, rfl, by simpa [u32s] using hh, hgrow⟩
    case round =>
      obtain ⟨k, hk, rfl, hh2, hg2⟩ := hrel
      by_cases hlt : k < n
      · obtain ⟨b, o, hb, hc⟩ := hat (by omega)
        obtain rfl := Option.some.inj hb
        have d0 := hg2.cell (hc k _ (u32s_get (by omega))) (by simp)
        have hlk : (u32s (ss.take k)).length = k := by simp [u32s]; omega
        obtain ⟨x, hx⟩ : ∃ x, ss.getD k 0 = x := ⟨_, rfl⟩
        rw [hx] at d0
        have HX : Hid (ss.getD k 0 = x) := hx
        clear hx
        obtain ⟨d1, d2⟩ := cell_mid hh2 (list_mid _ _ k _ hlk (by omega))
        have hne : b ≠ w.heap.size := by
          intro e
          have : b < w.heap.size := World.block_lt_of_cell? w _ (hc k _ (u32s_get (by omega)))
          omega
        go_wp2
        refine ⟨⟨k + 1, by omega, by go_num, ?_, ?_⟩, by simp [intOf]; omega⟩
        · have := set_at (k := k) hh2 (.int .u32 (x : Int))
          rw [this, u32s_take (by omega), HX.out]
          obtain ⟨m, hm⟩ : ∃ m, n - k = m + 1 := ⟨n - k - 1, by omega⟩
          have hm' : n - (k + 1) = m := by omega
          rw [hm, hm']
          have := set_snoc (u32s (ss.take k)) m (.int .u32 0) (.int .u32 (x : Int))
          rw [hlk] at this
          rw [this]
        · refine ⟨hg2.os, hg2.tape, hg2.output, by have := hg2.size; simp [World.setCell]; exact this, fun i hi _ => (Below.heap_setCell _ _ _ _ (by show i ≠ w.heap.size; omega)).trans (hg2.block i hi (by simp))⟩
      · obtain rfl : k = n := by omega
        go_wp2
        go_ret
        refine ⟨_, _, rfl, full_own (xs := u32s ss) ?_ (by simp [u32s]; exact hl) (Nat.le_refl _) (by unfold maxLen; omega), hg2⟩
        rw [hh2]
        simp [← hl]

end Go.Proofs.Qxb6614834a
