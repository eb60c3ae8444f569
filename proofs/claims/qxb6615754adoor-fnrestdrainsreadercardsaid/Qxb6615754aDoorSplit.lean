/- FnRestCompletesRawSplit: the walk. -/
import Derived.Test.Qxb6615754aDoorRaw
namespace Go.Proofs.Qxb6615754aDoor
open Go.RowKit
set_option linter.unusedVariables false

theorem Row.sees {lo n : Nat} {w : World} {ao : Option Addr} {zs : List Int} (h : Row lo w ao zs) (hl : zs.length = n) (hn : n ≤ 1048576) : SeesV w ao n n (ints .u8 zs) := by
  rcases h with ⟨rfl, rfl⟩ | ⟨g, rfl, _, hh⟩
  · subst hl; exact seesV_nil w
  · refine ⟨by simpa [ints] using hl, Nat.le_refl _, by unfold maxLen; omega, fun e => by simp at e, fun a ha j u hu => ?_⟩
    obtain rfl := Option.some.inj ha
    rw [Addr.add_lit, Nat.zero_add]
    exact (cell_mid hh hu).1

theorem Row.kept {lo : Nat} {w w' : World} {ao : Option Addr} {zs : List Int} (h : Row lo w ao zs) (hg : w.grownBy w' none) : Row lo w' ao zs := by
  rcases h with ⟨rfl, rfl⟩ | ⟨g, rfl, hb, hh⟩
  · exact .inl ⟨rfl, rfl⟩
  · exact .inr ⟨g, rfl, hb, heap_kept hg hh (by simp)⟩

theorem Row.mono {lo lo' : Nat} {w : World} {ao : Option Addr} {zs : List Int} (h : Row lo w ao zs) (hl : lo' ≤ lo) : Row lo' w ao zs := by
  rcases h with ⟨rfl, rfl⟩ | ⟨g, rfl, hb, hh⟩
  · exact .inl ⟨rfl, rfl⟩
  · exact .inr ⟨g, rfl, by omega, hh⟩

/-- The row does not lie in block B. -/
theorem Row.ne {lo B : Nat} {w : World} {ao : Option Addr} {zs : List Int} (h : Row lo w ao zs) (hB : w.heap.size ≤ B) : ao ≠ some ⟨B, 0, none⟩ := by
  rcases h with ⟨rfl, rfl⟩ | ⟨g, rfl, hb, hh⟩
  · simp
  · have := (Array.getElem?_eq_some_iff.1 hh).1
    intro e
    simp only [Option.some.injEq, Addr.mk.injEq, and_true] at e
    omega

theorem Row.only {lo R B : Nat} {w w' : World} {ao : Option Addr} {zs : List Int} (h : Row lo w ao zs) (ho : Only R B w w') (hR : ao ≠ some ⟨R, 0, none⟩) (hB : ao ≠ some ⟨B, 0, none⟩) : Row lo w' ao zs := by
  rcases h with ⟨rfl, rfl⟩ | ⟨g, rfl, hb, hh⟩
  · exact .inl ⟨rfl, rfl⟩
  · exact .inr ⟨g, rfl, hb, ho.heap hh (fun e => hR (by rw [e])) (fun e => hB (by rw [e]))⟩

theorem Row.neR {lo R n off : Nat} {w : World} {ao da : Option Addr} {f err : Value} {zs : List Int} (h : Row lo w ao zs) (hr : Rd w R da n off f err) : ao ≠ some ⟨R, 0, none⟩ := by
  rcases h with ⟨rfl, rfl⟩ | ⟨g, rfl, hb, hh⟩
  · simp
  · have := ne_kind hr hh (by decide)
    intro e
    simp only [Option.some.injEq, Addr.mk.injEq, and_true] at e
    exact this e

theorem below_drewN {B : Nat} {a w : World} (h : Below B a w) (q : Nat) : Below B a (w.drewN q) := ⟨h.os, h.tape, h.output, h.size, h.block⟩

theorem Only.below {lo R B : Nat} {a w w' : World} (hb : Below lo a w) (h : Only R B w w') (h1 : lo ≤ R) (h2 : lo ≤ B) (h3 : lo ≤ w.heap.size) : Below lo a w' :=
  hb.trans ⟨h.os, h.tape, h.output, h.size, fun k hk => h.block k (by omega) (by omega) (by omega)⟩

theorem Row.get {lo j : Nat} {w : World} {ao : Option Addr} {zs : List Int} (h : Row lo w ao zs) (hj : j < zs.length) : ∃ g, ao = some ⟨g, 0, none⟩ ∧ w.cell? ⟨g, j, none⟩ = some (.int .u8 (zs.getD j 0)) := by
  rcases h with ⟨_, rfl⟩ | ⟨g, rfl, _, hh⟩
  · simp at hj
  · exact ⟨g, rfl, (cell_mid hh (ints_get hj)).1⟩

theorem Row.form {lo n : Nat} {w : World} {ao : Option Addr} {zs : List Int} (h : Row lo w ao zs) (hl : zs.length = n) : (ao = none ∧ n = 0) ∨ ∃ g, ao = some ⟨g, 0, none⟩ := by
  rcases h with ⟨rfl, rfl⟩ | ⟨g, rfl, _⟩
  · exact .inl ⟨rfl, by simpa using hl.symm⟩
  · exact .inr ⟨g, rfl⟩

theorem part_get {w : World} {B off k j : Nat} {zs : List Int} (h : w.heap[B]? = some (.cells (ints .u8 ((zs.drop off).take k)).toArray 5 (0, 0))) (hj : j < k) (hl : off + k ≤ zs.length) : w.cell? ⟨B, j, none⟩ = some (.int .u8 (zs.getD (off + j) 0)) := by
  have e : ((zs.drop off).take k).getD j 0 = zs.getD (off + j) 0 := by
    simp only [List.getD_eq_getElem?_getD, List.getElem?_take, List.getElem?_drop]
    rw [if_pos hj]
  rw [← e]
  exact (cell_mid h (ints_get (by simp; omega))).1

set_option maxHeartbeats 3200000 in
set_option maxRecDepth 100000 in
theorem split_any (a0 : Option Addr) (n c0 te : Nat) (k1 k2 fm : Int) (zs : List Int) (pa : Addr) (w : World) (s0 : SeesV w a0 n c0 (ints .u8 zs)) (hg : w.cell? ⟨0, 0, none⟩ = some (.iface te (.pointer (some pa)))) :
    Calls Tryd.prog 3 #[.slice a0 n c0, .int .i64 k1, .int .i64 k2, .int .u8 fm] w fun e w' => e = .returned (.bool true) ∧ Below w.heap.size w w' := by
  have hl : zs.length = n := by have := s0.1; simpa [ints] using this
  have hpos : 0 < w.heap.size := Nat.lt_of_le_of_lt (Nat.zero_le _) (World.block_lt_of_cell? w _ hg)
  go_enter Tryd.func3, Tryd.ntmps3
  go_wp2_with fail
  refine (bytes5_any a0 n c0 _ _ _ w (Nat.le_trans s0.2.1 s0.2.2.1)).mono ?_
  rintro e w' ⟨⟨r, rfl, -⟩, rfl⟩
  cases r with
  | false =>
    go_wp2_with fail
    go_ret
    exact ⟨rfl, Below.refl _ _⟩
  | true =>
    rcases Nat.lt_or_ge 1048576 n with hn | hn
    · go_wp2_with fail
      go_ret
      exact ⟨rfl, Below.refl _ _⟩
    rcases Int.lt_or_le k1 0 with h1 | h1
    · go_wp2_with fail
      go_ret
      exact ⟨rfl, Below.refl _ _⟩
    rcases Int.lt_or_le 65536 k1 with h2 | h2
    · go_wp2_with fail
      go_ret
      exact ⟨rfl, Below.refl _ _⟩
    rcases Int.lt_or_le k2 0 with h3 | h3
    · go_wp2_with fail
      go_ret
      exact ⟨rfl, Below.refl _ _⟩
    rcases Int.lt_or_le 65536 k2 with h4 | h4
    · go_wp2_with fail
      go_ret
      exact ⟨rfl, Below.refl _ _⟩
    obtain ⟨k1, rfl⟩ := Int.eq_ofNat_of_zero_le h1
    obtain ⟨k2, rfl⟩ := Int.eq_ofNat_of_zero_le h3
    go_wp2_with fail
    refine (clone_any a0 n c0 zs w s0 hn).mono ?_
    rintro e w1 ⟨da, rfl, rD, g1⟩
    go_wp2_with fail
    refine (clone_any da n n zs w1 (rD.sees hl hn) hn).mono ?_
    rintro e w2 ⟨wa, rfl, rW, g2⟩
    have rD := rD.kept g2
    have hgb := grownBy_none_trans g1 g2
    have rW := rW.mono g1.size
    clear g1 g2
    go_upto_region 9 with fail
    go_cut [10] from 18 to 46 (fun v wx => w2 = wx ∧ v = .int .i64 n)
    case first =>
      go_wp2_with fail
      go_meet
      exact ⟨rfl, rfl⟩
    case rest =>
    obtain ⟨rfl, rfl⟩ := hcut
    go_wp2_with fail
    refine (new_any n da fm w2).mono ?_
    rintro e w3 ⟨rfl, g3⟩
    have rD := rD.kept g3
    have rW := rW.kept g3
    have hgb := grownBy_none_trans hgb g3
    clear g3
    go_upto_region 11 with fail
    have g4 : w3.grownBy (w3.alloc (.cells #[.slice da n n, .int .i64 0, .int .u8 fm, .nilIface] 29)) none := World.grownBy_alloc _ _ _
    have hRd : Rd (w3.alloc (.cells #[.slice da n n, .int .i64 0, .int .u8 fm, .nilIface] 29)) w3.heap.size da n 0 (.int .u8 fm) .nilIface := heap_alloc_new _ _
    have HS4 : Hid ((w3.alloc (.cells #[.slice da n n, .int .i64 0, .int .u8 fm, .nilIface] 29)).heap.size = w3.heap.size + 1) := by show _ = _; simp
    have rD := rD.kept g4
    have rW := rW.kept g4
    have hR0 : w3.heap.size ≠ 0 := by have := hgb.size; omega
    have hRw : w.heap.size ≤ w3.heap.size := hgb.size
    have hgb := grownBy_none_trans hgb g4
    clear g4
    generalize w3.alloc _ = w4 at hRd HS4 rD rW hgb ⊢
    generalize w3.heap.size = R at hRd HS4 hR0 hRw ⊢
    obtain ⟨i0, hi, hz0, hz1, hz2⟩ := info_parts info5
    go_upto_region 12 with (first
      | (at_make; refine wpList_make_full _ rfl _ _ 22 rfl w4.heap.size 5 i0 (.int .u8 0) 1 Tryd.underlying22 hi hz0 hz1 _ _ _ _ k1 rfl rfl rfl rfl (by rw [hz2]; omega) (by unfold maxLen; omega) (Nat.le_refl _) ?_; intro w5 hown hgrow)
      | fail)
    have hb1 := full_heap hown
    rw [made_one _ _ rfl] at hb1
    have hRd := heap_kept hgrow hRd (by simp)
    have neD := rD.ne (Nat.le_refl _)
    have neW := rW.ne (Nat.le_refl _)
    have rD := rD.kept hgrow
    have rW := rW.kept hgrow
    have hgb := grownBy_none_trans hgb hgrow
    have HS5 : Hid (w4.heap.size < w5.heap.size) := (Array.getElem?_eq_some_iff.1 hb1).1
    have hBw : w.heap.size ≤ w4.heap.size := by have := HS4.out; omega
    have hB1R : w4.heap.size ≠ R := by have := HS4.out; omega
    clear hown hgrow
    generalize w4.heap.size = B1 at hb1 neD neW HS5 HS4 hBw hB1R ⊢
    go_upto_region 13 with (first
      | (at_make; refine wpList_make_full _ rfl _ _ 22 rfl w5.heap.size 5 i0 (.int .u8 0) 1 Tryd.underlying22 hi hz0 hz1 _ _ _ _ k2 rfl rfl rfl rfl (by rw [hz2]; omega) (by unfold maxLen; omega) (Nat.le_refl _) ?_; intro w6 hown hgrow)
      | fail)
    have hb2 := full_heap hown
    rw [made_one _ _ rfl] at hb2
    have hRd : Rd w6 R da n 0 (.int .u8 fm) .nilIface := heap_kept hgrow hRd (by simp)
    have hb1 := heap_kept hgrow hb1 (by simp)
    have neD2 := rD.ne (Nat.le_refl _)
    have neW2 := rW.ne (Nat.le_refl _)
    have rD := rD.kept hgrow
    have rW := rW.kept hgrow
    have hgb := grownBy_none_trans hgb hgrow
    have hB2w : w.heap.size ≤ w5.heap.size := by have := HS5.out; omega
    have hB21 : w5.heap.size ≠ B1 := by have := HS5.out; omega
    have hB2R : w5.heap.size ≠ R := by have := HS5.out; have := HS4.out; omega
    clear hown hgrow hi hz0 hz1 hz2
    generalize w5.heap.size = B2 at hb2 neD2 neW2 hB2w hB21 hB2R ⊢
    have neDR := rD.neR hRd
    have neWR := rW.neR hRd
    have hg6 := hgb.cell hg (by simp)
    have hbel : Below w.heap.size w w6 := (Below.refl _ _).grown hgb (Nat.le_refl _) (by simp)
    have h0R : (0 : Nat) ≠ R := fun e => hR0 e.symm
    have h0B1 : (0 : Nat) ≠ B1 := by omega
    clear hgb s0 HS4 HS5 hg h1 h3
    rcases Nat.lt_or_ge n k1 with hc | hc
    · go_wp2_with fail
      refine (raw_fail R B1 n 0 k1 te da pa (.int .u8 fm) .nilIface w6 hRd hn (by omega) (Nat.zero_le _) hg6 hR0 (.inl ⟨rfl, by omega⟩)).mono ?_
      rintro e w7 ⟨rfl, hRd, o7⟩
      have hb1 := o7.heap hb1 hB1R hB1R
      have hb2 := o7.heap hb2 hB2R hB2R
      have hg7 := o7.cell hg6 h0R h0R
      have hbel := Only.below hbel o7 hRw hRw hbel.size
      go_wp2_with fail
      refine (raw_fail R B2 n n k2 te da pa (.int .u8 fm) _ w7 hRd hn (by omega) (Nat.le_refl _) hg7 hR0 (.inr rfl)).mono ?_
      rintro e w8 ⟨rfl, hRd, o8⟩
      have hb1 := o8.heap hb1 hB1R hB1R
      have hb2 := o8.heap hb2 hB2R hB2R
      have hbel := Only.below hbel o8 hRw hRw hbel.size
      go_wp2_with fail
      refine (rest_any R n n da (.int .u8 fm) _ w8 hRd hn (Nat.le_refl _) (rD.form hl) da (show _ = _ by rw [if_pos rfl])).mono ?_
      rintro e w9 ⟨rfl, hRd, o9⟩
      have hb1 := o9.heap hb1 hB1R hB1R
      have hb2 := o9.heap hb2 hB2R hB2R
      have hbel := Only.below hbel o9 hRw hRw hbel.size
      rw [Nat.sub_self]
      clear o7 o8 o9
      go_wp2_with fail
      refine (zeros_any B1 k1 w9 hb1 (by omega)).mono ?_
      rintro e w' ⟨rfl, rfl⟩
      go_wp2_with fail
      refine (zeros_any B2 k2 w9 hb2 (by omega)).mono ?_
      rintro e w' ⟨rfl, rfl⟩
      go_wp2_with fail
      go_ret
      exact ⟨rfl, hbel⟩
    · go_wp2_with fail
      refine (raw_ok R B1 n 0 k1 (0 + k1) w.heap.size da (.int .u8 fm) zs w6 hRd hn rfl (by omega) rD hl hb1 neD).mono ?_
      rintro e w7 ⟨rfl, hRd, hb1, o7⟩
      rw [Nat.zero_add] at hRd
      have hb2 := o7.heap hb2 hB2R hB21
      have hg7 := o7.cell hg6 h0R h0B1
      have hbel := Only.below hbel o7 hRw hBw hbel.size
      have rD := rD.only o7 neDR neD
      have rW := rW.only o7 neWR neW
      rcases Nat.lt_or_ge n (k1 + k2) with hc2 | hc2
      · go_wp2_with fail
        refine (raw_fail R B2 n k1 k2 te da pa (.int .u8 fm) .nilIface w7 hRd hn (by omega) hc hg7 hR0 (.inl ⟨rfl, hc2⟩)).mono ?_
        rintro e w8 ⟨rfl, hRd, o8⟩
        have hb1 := o8.heap hb1 hB1R hB1R
        have hb2 := o8.heap hb2 hB2R hB2R
        have hbel := Only.below hbel o8 hRw hRw hbel.size
        have rD := rD.only o8 neDR neDR
        have rW := rW.only o8 neWR neWR
        go_wp2_with fail
        refine (rest_any R n n da (.int .u8 fm) _ w8 hRd hn (Nat.le_refl _) (rD.form hl) da (show _ = _ by rw [if_pos rfl])).mono ?_
        rintro e w9 ⟨rfl, hRd, o9⟩
        have hb1 := o9.heap hb1 hB1R hB1R
        have hb2 := o9.heap hb2 hB2R hB2R
        have hbel := Only.below hbel o9 hRw hRw hbel.size
        have rW := rW.only o9 neWR neWR
        rw [Nat.sub_self]
        clear o7 o8 o9 rD
        have HB1 : Hid (w9.heap[B1]? = some (.cells (ints .u8 ((zs.drop 0).take k1)).toArray 5 (0, 0))) := hb1
        have HB2 : Hid (w9.heap[B2]? = some (.cells (List.replicate k2 (Value.int .u8 0)).toArray 5 (0, 0))) := hb2
        have HBel : Hid (Below w.heap.size w w9) := hbel
        have HW : Hid (Row w.heap.size w9 wa zs) := rW
        have HL : Hid (zs.length = n) := hl
        clear hb1 hb2 hbel rW hl
        go_upto_region 19 with fail
        go_loopw [15] (fun vi wr => ∃ i q : Nat, i ≤ k1 ∧ vi = .int .i64 i ∧ wr = w9.drewN q) (fun vi _ => k1 - (intOf vi).toNat)
        case atStart => exact ⟨0, 0, Nat.zero_le _, rfl, rfl⟩
        case round =>
          obtain ⟨i, q, hi, rfl, rfl⟩ := hrel
          by_cases hlt : i < k1
          · obtain ⟨h, rfl, d2⟩ := HW.out.get (j := i) (by rw [HL.out]; omega)
            have d1 := part_get HB1.out hlt (by rw [HL.out]; omega)
            rw [Nat.zero_add] at d1
            generalize zs.getD i 0 = x at d1 d2
            have d1 : (w9.drewN q).cell? ⟨B1, i, none⟩ = some (.int .u8 x) := d1
            have d2 : (w9.drewN q).cell? ⟨h, i, none⟩ = some (.int .u8 x) := d2
            have hx : (x != x) = false := by simp
            go_upto_region 21 with fail
            go_quiet (fail)
            go_wp2_with fail
            exact ⟨⟨i + 1, q + nq, by omega, by go_num, rfl⟩, by simp [intOf]; omega⟩
          · obtain rfl : i = k1 := by omega
            have hb2 : (w9.drewN q).heap[B2]? = some (.cells (List.replicate k2 (Value.int .u8 0)).toArray 5 (0, 0)) := HB2.out
            have hc3 : (n : Int) < (i : Int) + (k2 : Int) := by omega
            go_wp2_with fail
            refine (zeros_any B2 k2 _ hb2 (by omega)).mono ?_
            rintro e w' ⟨rfl, rfl⟩
            go_wp2_with fail
            go_ret
            exact ⟨rfl, below_drewN HBel.out q⟩
      · go_wp2_with fail
        refine (raw_ok R B2 n k1 k2 (k1 + k2) w.heap.size da (.int .u8 fm) zs w7 hRd hn rfl hc2 rD hl hb2 neD2).mono ?_
        rintro e w8 ⟨rfl, hRd, hb2, o8⟩
        have hb1 := o8.heap hb1 hB1R (Ne.symm hB21)
        have hbel := Only.below hbel o8 hRw hB2w hbel.size
        have rD := rD.only o8 neDR neD2
        have rW := rW.only o8 neWR neW2
        obtain ⟨ra, hra⟩ : ∃ ra, (if n = k1 + k2 then da else da.map (·.add (k1 + k2))) = ra := ⟨_, rfl⟩
        go_wp2_with fail
        refine (rest_any R n (k1 + k2) da (.int .u8 fm) _ w8 hRd hn hc2 (rD.form hl) ra hra).mono ?_
        rintro e w9 ⟨rfl, hRd, o9⟩
        have hb1 := o9.heap hb1 hB1R hB1R
        have hb2 := o9.heap hb2 hB2R hB2R
        have hbel := Only.below hbel o9 hRw hRw hbel.size
        have rW := rW.only o9 neWR neWR
        have rD := rD.only o9 neDR neDR
        have HRest : Hid (∀ j, k1 + k2 + j < n → ∃ g o, ra = some ⟨g, o, none⟩ ∧ w9.cell? ⟨g, o + j, none⟩ = some (.int .u8 (zs.getD (k1 + k2 + j) 0))) := by
          intro j hj
          obtain ⟨g, rfl, hd⟩ := rD.get (j := k1 + k2 + j) (by omega)
          refine ⟨g, k1 + k2, ?_, hd⟩
          rw [← hra, if_neg (by omega), Option.map_some, Addr.add_lit, Nat.zero_add]
        clear o7 o8 o9 rD hra
        obtain ⟨m, hm⟩ : ∃ m, n - (k1 + k2) = m := ⟨_, rfl⟩
        rw [hm]
        have HB1 : Hid (w9.heap[B1]? = some (.cells (ints .u8 ((zs.drop 0).take k1)).toArray 5 (0, 0))) := hb1
        have HB2 : Hid (w9.heap[B2]? = some (.cells (ints .u8 ((zs.drop k1).take k2)).toArray 5 (0, 0))) := hb2
        have HBel : Hid (Below w.heap.size w w9) := hbel
        have HW : Hid (Row w.heap.size w9 wa zs) := rW
        have HL : Hid (zs.length = n) := hl
        clear hb1 hb2 hbel rW hl
        go_upto_region 19 with fail
        go_loopw [15] (fun vi wr => ∃ i q : Nat, i ≤ k1 ∧ vi = .int .i64 i ∧ wr = w9.drewN q) (fun vi _ => k1 - (intOf vi).toNat)
        case atStart => exact ⟨0, 0, Nat.zero_le _, rfl, rfl⟩
        case round =>
          obtain ⟨i, q, hi, rfl, rfl⟩ := hrel
          by_cases hlt : i < k1
          · obtain ⟨h, rfl, d2⟩ := HW.out.get (j := i) (by rw [HL.out]; omega)
            have d1 := part_get HB1.out hlt (by rw [HL.out]; omega)
            rw [Nat.zero_add] at d1
            generalize zs.getD i 0 = x at d1 d2
            have d1 : (w9.drewN q).cell? ⟨B1, i, none⟩ = some (.int .u8 x) := d1
            have d2 : (w9.drewN q).cell? ⟨h, i, none⟩ = some (.int .u8 x) := d2
            have hx : (x != x) = false := by simp
            go_upto_region 21 with fail
            go_quiet (fail)
            go_wp2_with fail
            exact ⟨⟨i + 1, q + nq, by omega, by go_num, rfl⟩, by simp [intOf]; omega⟩
          · obtain rfl : i = k1 := by omega
            have hc3 : ¬ (n : Int) < (i : Int) + (k2 : Int) := by omega
            have HR2 : Hid (∀ j, i + k2 + j < n → ∃ g o, ra = some ⟨g, o, none⟩ ∧ (w9.drewN q).cell? ⟨g, o + j, none⟩ = some (.int .u8 (zs.getD (i + k2 + j) 0))) := HRest
            have HB1 : Hid ((w9.drewN q).heap[B1]? = some (.cells (ints .u8 ((zs.drop 0).take i)).toArray 5 (0, 0))) := HB1
            have HB2 : Hid ((w9.drewN q).heap[B2]? = some (.cells (ints .u8 ((zs.drop i).take k2)).toArray 5 (0, 0))) := HB2
            have HBel : Hid (Below w.heap.size w (w9.drewN q)) := below_drewN HBel.out q
            have HW : Hid (Row w.heap.size (w9.drewN q) wa zs) := HW
            generalize w9.drewN q = W at HR2 HB1 HB2 HBel HW ⊢
            go_upto_region 28 with fail
            go_loopw [16] (fun vi wr => ∃ j : Nat, j ≤ n ∧ vi = .int .i64 j ∧ wr = W) (fun vi _ => n - (intOf vi).toNat)
            case atStart => exact ⟨0, Nat.zero_le _, rfl, rfl⟩
            case round =>
              obtain ⟨j, hj, rfl, rfl⟩ := hrel
              by_cases hltn : j < n
              · obtain ⟨h, rfl, d2⟩ := HW.out.get (j := j) (by rw [HL.out]; omega)
                by_cases hj1 : j < i
                · have d1 := part_get HB1.out hj1 (by rw [HL.out]; omega)
                  rw [Nat.zero_add] at d1
                  generalize zs.getD j 0 = x at d1 d2
                  have hx : (x != x) = false := by simp
                  go_wp2_with fail
                  exact ⟨⟨j + 1, by omega, by go_num, trivial⟩, by simp [intOf]; omega⟩
                · by_cases hj2 : j < i + k2
                  · obtain ⟨l, hl⟩ : ∃ l, j - i = l := ⟨_, rfl⟩
                    have d1 := part_get (j := l) HB2.out (by omega) (by rw [HL.out]; omega)
                    rw [show i + l = j by omega] at d1
                    generalize zs.getD j 0 = x at d1 d2
                    have hx : (x != x) = false := by simp
                    have w1 : IntKind.i64.wrap ((j : Int) - (i : Int)) = (l : Int) := by rw [wrap_in (by omega) (by omega)]; omega
                    have hj3 : (j : Int) < (i : Int) + (k2 : Int) := by omega
                    have hlk : l < k2 := by omega
                    clear hl
                    go_wp2_with fail
                    exact ⟨⟨j + 1, by omega, by go_num, trivial⟩, by simp [intOf]; omega⟩
                  · obtain ⟨l, hl⟩ : ∃ l, j - i - k2 = l := ⟨_, rfl⟩
                    obtain ⟨p, hp⟩ : ∃ p, j - i = p := ⟨_, rfl⟩
                    obtain ⟨g, o, rfl, d1⟩ := HR2.out l (by omega)
                    rw [show i + k2 + l = j by omega] at d1
                    generalize zs.getD j 0 = x at d1 d2
                    have hx : (x != x) = false := by simp
                    have w1 : IntKind.i64.wrap ((j : Int) - (i : Int)) = (p : Int) := by rw [wrap_in (by omega) (by omega)]; omega
                    have w2 : IntKind.i64.wrap ((p : Int) - (k2 : Int)) = (l : Int) := by rw [wrap_in (by omega) (by omega)]; omega
                    have hj3 : ¬ (j : Int) < (i : Int) + (k2 : Int) := by omega
                    have hlm : l < m := by omega
                    clear hl hp
                    go_wp2_with fail
                    exact ⟨⟨j + 1, by omega, by go_num, trivial⟩, by simp [intOf]; omega⟩
              · obtain rfl : j = n := by omega
                go_wp2_with fail
                go_ret
                exact ⟨rfl, HBel.out⟩

end Go.Proofs.Qxb6615754aDoor
