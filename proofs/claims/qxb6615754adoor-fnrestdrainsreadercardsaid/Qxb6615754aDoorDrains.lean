/- FnRestDrainsReader: the walk. -/
import Derived.Test.Qxb6615754aDoorSplit
namespace Go.Proofs.Qxb6615754aDoor
open Go.RowKit
set_option linter.unusedVariables false

set_option maxHeartbeats 3200000 in
set_option maxRecDepth 100000 in
theorem drains_any (a0 : Option Addr) (n c0 te : Nat) (k m fm : Int) (zs : List Int) (pa : Addr) (w : World) (s0 : SeesV w a0 n c0 (ints .u8 zs)) (hg : w.cell? ⟨0, 0, none⟩ = some (.iface te (.pointer (some pa)))) :
    Calls Tryd.prog 4 #[.slice a0 n c0, .int .i64 k, .int .i64 m, .int .u8 fm] w fun e w' => e = .returned (.bool true) ∧ Below w.heap.size w w' := by
  have hl : zs.length = n := by have := s0.1; simpa [ints] using this
  have hpos : 0 < w.heap.size := Nat.lt_of_le_of_lt (Nat.zero_le _) (World.block_lt_of_cell? w _ hg)
  go_enter Tryd.func4, Tryd.ntmps4
  go_wp2_with fail
  refine (bytes11_any a0 n c0 _ _ _ w (Nat.le_trans s0.2.1 s0.2.2.1)).mono ?_
  rintro e w' ⟨⟨r, rfl, -⟩, rfl⟩
  cases r with
  | false =>
    go_wp2_with fail
    go_ret
    exact ⟨rfl, Below.refl _ _⟩
  | true =>
    rcases Nat.lt_or_ge 1048576 n with hn | hn
    · go_wp2_with fail
      go_ret
      exact ⟨rfl, Below.refl _ _⟩
    rcases Int.lt_or_le k 0 with h1 | h1
    · go_wp2_with fail
      go_ret
      exact ⟨rfl, Below.refl _ _⟩
    rcases Int.lt_or_le 65536 k with h2 | h2
    · go_wp2_with fail
      go_ret
      exact ⟨rfl, Below.refl _ _⟩
    rcases Int.lt_or_le m 0 with h3 | h3
    · go_wp2_with fail
      go_ret
      exact ⟨rfl, Below.refl _ _⟩
    rcases Int.lt_or_le 65536 m with h4 | h4
    · go_wp2_with fail
      go_ret
      exact ⟨rfl, Below.refl _ _⟩
    obtain ⟨k, rfl⟩ := Int.eq_ofNat_of_zero_le h1
    obtain ⟨m, rfl⟩ := Int.eq_ofNat_of_zero_le h3
    go_wp2_with fail
    refine (clone_any a0 n c0 zs w s0 hn).mono ?_
    rintro e w1 ⟨da, rfl, rD, g1⟩
    go_wp2_with fail
    refine (clone_any da n n zs w1 (rD.sees hl hn) hn).mono ?_
    rintro e w2 ⟨wa, rfl, rW, g2⟩
    have rD := rD.kept g2
    have hgb := grownBy_none_trans g1 g2
    have rW := rW.mono g1.size
    clear g1 g2
    go_upto_region 9 with fail
    go_cut [10] from 20 to 48 (fun v wx => w2 = wx ∧ v = .int .i64 n)
    case first =>
      go_wp2_with fail
      go_meet
      exact ⟨rfl, rfl⟩
    case rest =>
    obtain ⟨rfl, rfl⟩ := hcut
    go_wp2_with fail
    refine (new_any n da fm w2).mono ?_
    rintro e w3 ⟨rfl, g3⟩
    have rD := rD.kept g3
    have rW := rW.kept g3
    have hgb := grownBy_none_trans hgb g3
    clear g3
    go_upto_region 11 with fail
    have g4 : w3.grownBy (w3.alloc (.cells #[.slice da n n, .int .i64 0, .int .u8 fm, .nilIface] 29)) none := World.grownBy_alloc _ _ _
    have hRd : Rd (w3.alloc (.cells #[.slice da n n, .int .i64 0, .int .u8 fm, .nilIface] 29)) w3.heap.size da n 0 (.int .u8 fm) .nilIface := heap_alloc_new _ _
    have HS4 : Hid ((w3.alloc (.cells #[.slice da n n, .int .i64 0, .int .u8 fm, .nilIface] 29)).heap.size = w3.heap.size + 1) := by show _ = _; simp
    have rD := rD.kept g4
    have rW := rW.kept g4
    have hR0 : w3.heap.size ≠ 0 := by have := hgb.size; omega
    have hRw : w.heap.size ≤ w3.heap.size := hgb.size
    have hgb := grownBy_none_trans hgb g4
    clear g4
    generalize w3.alloc _ = w4 at hRd HS4 rD rW hgb ⊢
    generalize w3.heap.size = R at hRd HS4 hR0 hRw ⊢
    obtain ⟨i0, hi, hz0, hz1, hz2⟩ := info_parts info5
    go_upto_region 12 with (first
      | (at_make; refine wpList_make_full _ rfl _ _ 22 rfl w4.heap.size 5 i0 (.int .u8 0) 1 Tryd.underlying22 hi hz0 hz1 _ _ _ _ k rfl rfl rfl rfl (by rw [hz2]; omega) (by unfold maxLen; omega) (Nat.le_refl _) ?_; intro w5 hown hgrow)
      | fail)
    have hb1 := full_heap hown
    rw [made_one _ _ rfl] at hb1
    have hRd : Rd w5 R da n 0 (.int .u8 fm) .nilIface := heap_kept hgrow hRd (by simp)
    have neD := rD.ne (Nat.le_refl _)
    have neW := rW.ne (Nat.le_refl _)
    have rD := rD.kept hgrow
    have rW := rW.kept hgrow
    have hgb := grownBy_none_trans hgb hgrow
    have hBw : w.heap.size ≤ w4.heap.size := by have := HS4.out; omega
    have hB1R : w4.heap.size ≠ R := by have := HS4.out; omega
    have HR5 : Hid (R < w5.heap.size) := (Array.getElem?_eq_some_iff.1 hRd).1
    clear hown hgrow
    generalize w4.heap.size = B1 at hb1 neD neW HS4 hBw hB1R ⊢
    have neDR := rD.neR hRd
    have neWR := rW.neR hRd
    have hg5 := hgb.cell hg (by simp)
    have hbel : Below w.heap.size w w5 := (Below.refl _ _).grown hgb (Nat.le_refl _) (by simp)
    have h0R : (0 : Nat) ≠ R := fun e => hR0 e.symm
    have h0B1 : (0 : Nat) ≠ B1 := by omega
    clear hgb s0 HS4 hg h1 h3
    rcases Nat.lt_or_ge n k with hc | hc
    · go_wp2_with fail
      refine (raw_fail R B1 n 0 k te da pa (.int .u8 fm) .nilIface w5 hRd hn (by omega) (Nat.zero_le _) hg5 hR0 (.inl ⟨rfl, by omega⟩)).mono ?_
      rintro e w7 ⟨rfl, hRd, ob⟩
      have HR7 : Hid (R < w7.heap.size) := Nat.lt_of_lt_of_le HR5.out ob.size
      have rD := rD.only ob neDR neDR
      have rW := rW.only ob neWR neWR
      have hbel := Only.below hbel ob hRw hRw hbel.size
      have hg7 := ob.cell hg5 h0R h0R
      go_wp2_with fail
      refine (rest_any R n n da (.int .u8 fm) _ w7 hRd hn (Nat.le_refl _) (rD.form hl) da (show _ = _ by rw [if_pos rfl])).mono ?_
      rintro e w8 ⟨rfl, hRd, ob⟩
      have rD := rD.only ob neDR neDR
      have rW := rW.only ob neWR neWR
      have hbel := Only.below hbel ob hRw hRw hbel.size
      have HR8 : Hid (R < w8.heap.size) := Nat.lt_of_lt_of_le HR7.out ob.size
      have hg8 := ob.cell hg7 h0R h0R
      rw [Nat.sub_self]
      go_wp2_with fail
      refine (err_any R n n da (.int .u8 fm) _ w8 hRd).mono ?_
      rintro e w' ⟨rfl, rfl⟩
      go_wp2_with fail
      refine (rest_any R n n da (.int .u8 fm) _ w8 hRd hn (Nat.le_refl _) (rD.form hl) da (show _ = _ by rw [if_pos rfl])).mono ?_
      rintro e w9 ⟨rfl, hRd, ob⟩
      have rD := rD.only ob neDR neDR
      have rW := rW.only ob neWR neWR
      have hbel := Only.below hbel ob hRw hRw hbel.size
      have HR9 : Hid (R < w9.heap.size) := Nat.lt_of_lt_of_le HR8.out ob.size
      have hg9 := ob.cell hg8 h0R h0R
      rw [Nat.sub_self]
      clear ob
      go_upto_region 17 with (first
        | (at_make; refine wpList_make_full _ rfl _ _ 22 rfl w9.heap.size 5 i0 (.int .u8 0) 1 Tryd.underlying22 hi hz0 hz1 _ _ _ _ m rfl rfl rfl rfl (by rw [hz2]; omega) (by unfold maxLen; omega) (Nat.le_refl _) ?_; intro w10 hown hgrow)
        | fail)
      have hb2 := full_heap hown
      rw [made_one _ _ rfl] at hb2
      have HRd : Rd w10 R da n n (.int .u8 fm) (.iface te (.pointer (some pa))) := heap_kept hgrow hRd (by simp)
      have hRd := HRd
      have neD2 := rD.ne (Nat.le_refl _)
      have neW2 := rW.ne (Nat.le_refl _)
      have rD := rD.kept hgrow
      have rW := rW.kept hgrow
      have hB2w : w.heap.size ≤ w9.heap.size := hbel.size
      have hB2R : w9.heap.size ≠ R := by have := HR9.out; omega
      have hg10 := hgrow.cell hg9 (by simp)
      have hbel := hbel.grown hgrow hbel.size (by simp)
      clear hown hgrow HRd hi hz0 hz1 hz2
      generalize w9.heap.size = B2 at hb2 neD2 neW2 hB2w hB2R ⊢
      go_wp2_with fail
      refine (raw_fail R B2 n n m te da pa (.int .u8 fm) _ w10 hRd hn (by omega) (Nat.le_refl _) hg10 hR0 (.inr rfl)).mono ?_
      rintro e w11 ⟨rfl, hRd, ob⟩
      have hb2 := ob.heap hb2 hB2R hB2R
      have rD := rD.only ob neDR neDR
      have hbel := Only.below hbel ob hRw hRw hbel.size
      go_wp2_with fail
      refine (err_any R n n da (.int .u8 fm) _ w11 hRd).mono ?_
      rintro e w' ⟨rfl, rfl⟩
      go_wp2_with fail
      refine (rest_any R n n da (.int .u8 fm) _ w11 hRd hn (Nat.le_refl _) (rD.form hl) da (show _ = _ by rw [if_pos rfl])).mono ?_
      rintro e w12 ⟨rfl, hRd, ob2⟩
      have hb2 := ob2.heap hb2 hB2R hB2R
      have hbel := Only.below hbel ob2 hRw hRw hbel.size
      rw [Nat.sub_self]
      clear ob ob2
      go_wp2_with fail
      refine (zeros_any B2 m w12 hb2 (by omega)).mono ?_
      rintro e w' ⟨rfl, rfl⟩
      go_wp2_with fail
      go_ret
      exact ⟨rfl, hbel⟩
    · go_wp2_with fail
      refine (raw_ok R B1 n 0 k (0 + k) w.heap.size da (.int .u8 fm) zs w5 hRd hn rfl (by omega) rD hl hb1 neD).mono ?_
      rintro e w7 ⟨rfl, hRd, -, ob⟩
      rw [Nat.zero_add] at hRd
      have HR7 : Hid (R < w7.heap.size) := Nat.lt_of_lt_of_le HR5.out ob.size
      have rD := rD.only ob neDR neD
      have rW := rW.only ob neWR neW
      have hbel := Only.below hbel ob hRw hBw hbel.size
      have hg7 := ob.cell hg5 h0R h0B1
      obtain ⟨ra, hra⟩ : ∃ ra, (if n = k then da else da.map (·.add k)) = ra := ⟨_, rfl⟩
      go_wp2_with fail
      refine (rest_any R n k da (.int .u8 fm) _ w7 hRd hn hc (rD.form hl) ra hra).mono ?_
      rintro e w8 ⟨rfl, hRd, ob⟩
      have rD := rD.only ob neDR neDR
      have rW := rW.only ob neWR neWR
      have hbel := Only.below hbel ob hRw hRw hbel.size
      have HR8 : Hid (R < w8.heap.size) := Nat.lt_of_lt_of_le HR7.out ob.size
      have hg8 := ob.cell hg7 h0R h0R
      go_wp2_with fail
      refine (err_any R n n da (.int .u8 fm) _ w8 hRd).mono ?_
      rintro e w' ⟨rfl, rfl⟩
      go_wp2_with fail
      refine (rest_any R n n da (.int .u8 fm) _ w8 hRd hn (Nat.le_refl _) (rD.form hl) da (show _ = _ by rw [if_pos rfl])).mono ?_
      rintro e w9 ⟨rfl, hRd, ob⟩
      have rD := rD.only ob neDR neDR
      have rW := rW.only ob neWR neWR
      have hbel := Only.below hbel ob hRw hRw hbel.size
      have HR9 : Hid (R < w9.heap.size) := Nat.lt_of_lt_of_le HR8.out ob.size
      have hg9 := ob.cell hg8 h0R h0R
      rw [Nat.sub_self]
      clear ob
      go_upto_region 17 with (first
        | (at_make; refine wpList_make_full _ rfl _ _ 22 rfl w9.heap.size 5 i0 (.int .u8 0) 1 Tryd.underlying22 hi hz0 hz1 _ _ _ _ m rfl rfl rfl rfl (by rw [hz2]; omega) (by unfold maxLen; omega) (Nat.le_refl _) ?_; intro w10 hown hgrow)
        | fail)
      have hb2 := full_heap hown
      rw [made_one _ _ rfl] at hb2
      have HRd : Rd w10 R da n n (.int .u8 fm) .nilIface := heap_kept hgrow hRd (by simp)
      have hRd := HRd
      have neD2 := rD.ne (Nat.le_refl _)
      have neW2 := rW.ne (Nat.le_refl _)
      have rD := rD.kept hgrow
      have rW := rW.kept hgrow
      have hB2w : w.heap.size ≤ w9.heap.size := hbel.size
      have hB2R : w9.heap.size ≠ R := by have := HR9.out; omega
      have hg10 := hgrow.cell hg9 (by simp)
      have hbel := hbel.grown hgrow hbel.size (by simp)
      clear hown hgrow HRd hi hz0 hz1 hz2
      generalize w9.heap.size = B2 at hb2 neD2 neW2 hB2w hB2R ⊢
      go_wp2_with fail
      rcases Nat.eq_zero_or_pos m with hm | hm
      · subst hm
        refine (raw_ok R B2 n n 0 (n + 0) w.heap.size da (.int .u8 fm) zs w10 hRd hn rfl (Nat.le_refl _) rD hl hb2 neD2).mono ?_
        rintro e w11 ⟨rfl, hRd, hb2, ob⟩
        rw [Nat.add_zero] at hRd
        have rD := rD.only ob neDR neD2
        have rW := rW.only ob neWR neW2
        have hbel := Only.below hbel ob hRw hB2w hbel.size
        have hb2 : w11.heap[B2]? = some (.cells (List.replicate 0 (Value.int .u8 0)).toArray 5 (0, 0)) := by simpa [ints] using hb2
        go_wp2_with fail
        refine (err_any R n n da (.int .u8 fm) _ w11 hRd).mono ?_
        rintro e w' ⟨rfl, rfl⟩
        go_wp2_with fail
        refine (rest_any R n n da (.int .u8 fm) _ w11 hRd hn (Nat.le_refl _) (rD.form hl) da (show _ = _ by rw [if_pos rfl])).mono ?_
        rintro e w12 ⟨rfl, hRd, ob2⟩
        have rD := rD.only ob2 neDR neDR
        have rW := rW.only ob2 neWR neWR
        have hb2 := ob2.heap hb2 hB2R hB2R
        have hbel := Only.below hbel ob2 hRw hRw hbel.size
        rw [Nat.sub_self]
        clear ob ob2
        have HRest : Hid (∀ j, k + j < n → ∃ g o, ra = some ⟨g, o, none⟩ ∧ w12.cell? ⟨g, o + j, none⟩ = some (.int .u8 (zs.getD (k + j) 0))) := by
          intro j hj
          obtain ⟨g, rfl, hd⟩ := rD.get (j := k + j) (by omega)
          refine ⟨g, k, ?_, hd⟩
          rw [← hra, if_neg (by omega), Option.map_some, Addr.add_lit, Nat.zero_add]
        have HB2 : Hid (w12.heap[B2]? = some (.cells (List.replicate 0 (Value.int .u8 0)).toArray 5 (0, 0))) := hb2
        have HBel : Hid (Below w.heap.size w w12) := hbel
        have HW : Hid (Row w.heap.size w12 wa zs) := rW
        have HL : Hid (zs.length = n) := hl
        clear hb2 hbel rW hl rD hra
        obtain ⟨d, hd⟩ : ∃ d, n - k = d := ⟨_, rfl⟩
        rw [hd]
        have wd : IntKind.i64.wrap ((n : Int) - (k : Int)) = (d : Int) := by rw [wrap_in (by omega) (by omega)]; omega
        have HD : Hid (n - k = d) := hd
        clear hd
        go_upto_region 24 with fail
        go_loopw [19] (fun vi wr => ∃ i q : Nat, i ≤ d ∧ vi = .int .i64 i ∧ wr = w12.drewN q) (fun vi _ => d - (intOf vi).toNat)
        case atStart => exact ⟨0, 0, Nat.zero_le _, rfl, rfl⟩
        case round =>
          obtain ⟨i, q, hi, rfl, rfl⟩ := hrel
          by_cases hlt : i < d
          · obtain ⟨g, o, rfl, d1⟩ := HRest.out i (by have := HD.out; omega)
            obtain ⟨p, hp⟩ : ∃ p, k + i = p := ⟨_, rfl⟩
            rw [hp] at d1
            have hpn : p < n := by have := HD.out; omega
            obtain ⟨h, rfl, d2⟩ := HW.out.get (j := p) (by rw [HL.out]; omega)
            generalize zs.getD p 0 = x at d1 d2
            have d1 : (w12.drewN q).cell? ⟨g, o + i, none⟩ = some (.int .u8 x) := d1
            have d2 : (w12.drewN q).cell? ⟨h, p, none⟩ = some (.int .u8 x) := d2
            have hx : (x != x) = false := by simp
            have wp : ((k : Int) + (i : Int)) = (p : Int) := by omega
            clear hp
            go_upto_region 26 with fail
            go_quiet (fail)
            go_wp2_with fail
            exact ⟨⟨i + 1, q + nq, by omega, by go_num, rfl⟩, by simp [intOf]; omega⟩
          · obtain rfl : i = d := by omega
            have hb2 : (w12.drewN q).heap[B2]? = some (.cells (List.replicate 0 (Value.int .u8 0)).toArray 5 (0, 0)) := HB2.out
            go_wp2_with fail
            refine (zeros_any B2 0 _ hb2 (by omega)).mono ?_
            rintro e w' ⟨rfl, rfl⟩
            go_wp2_with fail
            go_ret
            exact ⟨rfl, below_drewN HBel.out q⟩
      · refine (raw_fail R B2 n n m te da pa (.int .u8 fm) .nilIface w10 hRd hn (by omega) (Nat.le_refl _) hg10 hR0 (.inl ⟨rfl, by omega⟩)).mono ?_
        rintro e w11 ⟨rfl, hRd, ob⟩
        have rD := rD.only ob neDR neDR
        have rW := rW.only ob neWR neWR
        have hbel := Only.below hbel ob hRw hRw hbel.size
        have hb2 := ob.heap hb2 hB2R hB2R
        go_wp2_with fail
        refine (err_any R n n da (.int .u8 fm) _ w11 hRd).mono ?_
        rintro e w' ⟨rfl, rfl⟩
        go_wp2_with fail
        refine (rest_any R n n da (.int .u8 fm) _ w11 hRd hn (Nat.le_refl _) (rD.form hl) da (show _ = _ by rw [if_pos rfl])).mono ?_
        rintro e w12 ⟨rfl, hRd, ob2⟩
        have rD := rD.only ob2 neDR neDR
        have rW := rW.only ob2 neWR neWR
        have hb2 := ob2.heap hb2 hB2R hB2R
        have hbel := Only.below hbel ob2 hRw hRw hbel.size
        rw [Nat.sub_self]
        clear ob ob2
        have HRest : Hid (∀ j, k + j < n → ∃ g o, ra = some ⟨g, o, none⟩ ∧ w12.cell? ⟨g, o + j, none⟩ = some (.int .u8 (zs.getD (k + j) 0))) := by
          intro j hj
          obtain ⟨g, rfl, hd⟩ := rD.get (j := k + j) (by omega)
          refine ⟨g, k, ?_, hd⟩
          rw [← hra, if_neg (by omega), Option.map_some, Addr.add_lit, Nat.zero_add]
        have HB2 : Hid (w12.heap[B2]? = some (.cells (List.replicate m (Value.int .u8 0)).toArray 5 (0, 0))) := hb2
        have HBel : Hid (Below w.heap.size w w12) := hbel
        have HW : Hid (Row w.heap.size w12 wa zs) := rW
        have HL : Hid (zs.length = n) := hl
        clear hb2 hbel rW hl rD hra
        obtain ⟨d, hd⟩ : ∃ d, n - k = d := ⟨_, rfl⟩
        rw [hd]
        have wd : IntKind.i64.wrap ((n : Int) - (k : Int)) = (d : Int) := by rw [wrap_in (by omega) (by omega)]; omega
        have HD : Hid (n - k = d) := hd
        clear hd
        go_upto_region 24 with fail
        go_loopw [19] (fun vi wr => ∃ i q : Nat, i ≤ d ∧ vi = .int .i64 i ∧ wr = w12.drewN q) (fun vi _ => d - (intOf vi).toNat)
        case atStart => exact ⟨0, 0, Nat.zero_le _, rfl, rfl⟩
        case round =>
          obtain ⟨i, q, hi, rfl, rfl⟩ := hrel
          by_cases hlt : i < d
          · obtain ⟨g, o, rfl, d1⟩ := HRest.out i (by have := HD.out; omega)
            obtain ⟨p, hp⟩ : ∃ p, k + i = p := ⟨_, rfl⟩
            rw [hp] at d1
            have hpn : p < n := by have := HD.out; omega
            obtain ⟨h, rfl, d2⟩ := HW.out.get (j := p) (by rw [HL.out]; omega)
            generalize zs.getD p 0 = x at d1 d2
            have d1 : (w12.drewN q).cell? ⟨g, o + i, none⟩ = some (.int .u8 x) := d1
            have d2 : (w12.drewN q).cell? ⟨h, p, none⟩ = some (.int .u8 x) := d2
            have hx : (x != x) = false := by simp
            have wp : ((k : Int) + (i : Int)) = (p : Int) := by omega
            clear hp
            go_upto_region 26 with fail
            go_quiet (fail)
            go_wp2_with fail
            exact ⟨⟨i + 1, q + nq, by omega, by go_num, rfl⟩, by simp [intOf]; omega⟩
          · obtain rfl : i = d := by omega
            have hb2 : (w12.drewN q).heap[B2]? = some (.cells (List.replicate m (Value.int .u8 0)).toArray 5 (0, 0)) := HB2.out
            go_wp2_with fail
            refine (zeros_any B2 m _ hb2 (by omega)).mono ?_
            rintro e w' ⟨rfl, rfl⟩
            go_wp2_with fail
            go_ret
            exact ⟨rfl, below_drewN HBel.out q⟩

end Go.Proofs.Qxb6615754aDoor
