/- The Reader: NewReader, Fail, fixed, Raw, Rest, ZZReaderErr. -/
import Derived.Test.Qxb6615754aDoorBase
namespace Go.Proofs.Qxb6615754aDoor
open Go.RowKit
set_option linter.unusedVariables false

/-- A Reader at block R. -/
def Rd (w : World) (R : Nat) (ao : Option Addr) (n off : Nat) (f err : Value) : Prop := w.heap[R]? = some (.cells #[.slice ao n n, .int .i64 off, f, err] 29 (0, 0))

/-- What differs lies in these two blocks. -/
structure Only (R B : Nat) (w w' : World) : Prop where
  os : w'.os = w.os
  tape : w'.tape = w.tape
  output : w'.output = w.output
  size : w.heap.size ≤ w'.heap.size
  block : ∀ k, k ≠ R → k ≠ B → k < w.heap.size → w'.heap[k]? = w.heap[k]?

theorem Only.refl (R B : Nat) (w : World) : Only R B w w := ⟨rfl, rfl, rfl, Nat.le_refl _, fun _ _ _ _ => rfl⟩
theorem Only.trans {R B : Nat} {a b c : World} (h : Only R B a b) (k : Only R B b c) : Only R B a c :=
  ⟨k.os.trans h.os, k.tape.trans h.tape, k.output.trans h.output, Nat.le_trans h.size k.size, fun i h1 h2 h3 => (k.block i h1 h2 (Nat.lt_of_lt_of_le h3 h.size)).trans (h.block i h1 h2 h3)⟩
theorem Only.set {R B p : Nat} {a w : World} (h : Only R B a w) (v : Value) (C : Nat) (hC : C = R ∨ C = B) : Only R B a (w.setCell ⟨C, p, none⟩ v) :=
  ⟨h.os, h.tape, h.output, by have := h.size; simp [World.setCell]; exact this, fun i h1 h2 h3 => (Below.heap_setCell _ _ _ _ (by show i ≠ C; rcases hC with rfl | rfl <;> assumption)).trans (h.block i h1 h2 h3)⟩
theorem Only.drewN {R B : Nat} {a w : World} (h : Only R B a w) (q : Nat) : Only R B a (w.drewN q) := ⟨h.os, h.tape, h.output, h.size, h.block⟩
theorem Only.drew {R B : Nat} {a w : World} (h : Only R B a w) : Only R B a w.drew := ⟨h.os, h.tape, h.output, h.size, h.block⟩

theorem heads4 {w : World} {Y : Nat} {v0 v1 v2 v3 : Value} (h : w.heap[Y]? = some (.cells #[v0, v1, v2, v3] 29 (0, 0))) (i : Nat) (v : Value) (hv : [v0, v1, v2, v3][i]? = some v) : w.cell? ⟨Y, i, none⟩ = some v ∧ w.frozen? ⟨Y, i, none⟩ = false :=
  cell_mid (cs := [v0, v1, v2, v3]) h hv

set_option maxHeartbeats 1600000 in
set_option maxRecDepth 100000 in
theorem err_any (R n off : Nat) (ao : Option Addr) (f err : Value) (w : World) (h : Rd w R ao n off f err) :
    Calls Tryd.prog 12 #[.pointer (some ⟨R, 0, none⟩)] w fun e w' => e = .returned err ∧ w = w' := by
  obtain ⟨d3, _⟩ := heads4 h 3 _ rfl
  go_enter Tryd.func12, Tryd.ntmps12
  go_wp2
  go_ret
  exact ⟨rfl, rfl⟩

theorem far1 {w : World} {R p g o : Nat} (u : Value) {v : Value} (h : w.cell? ⟨g, o, none⟩ = some v) (hne : g ≠ R ∨ o ≠ p) : (w.setCell ⟨R, p, none⟩ u).cell? ⟨g, o, none⟩ = some v := by
  rw [World.cell?_setCell_other]
  · exact h
  · intro e
    simp only [Addr.mk.injEq, and_true] at e
    omega

theorem far1d {w : World} {R p g o : Nat} (u : Value) {v : Value} (h : w.cell? ⟨g, o, none⟩ = some v) (hne : g ≠ R ∨ o ≠ p) : (w.setCell ⟨R, p, none⟩ u).drew.cell? ⟨g, o, none⟩ = some v := far1 u h hne
theorem far2d {w : World} {R p q g o : Nat} (u u' : Value) {v : Value} (h : w.cell? ⟨g, o, none⟩ = some v) (hne : g ≠ R ∨ o ≠ p) (hne' : g ≠ R ∨ o ≠ q) : ((w.setCell ⟨R, p, none⟩ u).setCell ⟨R, q, none⟩ u').drew.cell? ⟨g, o, none⟩ = some v := far1 u' (far1 u h hne) hne'

theorem size29 : (Tryd.prog.info? 29).map (·.size) = some 4 := by kernel_rfl

set_option maxHeartbeats 1600000 in
set_option maxRecDepth 100000 in
theorem new_any (n : Nat) (ao : Option Addr) (f : Int) (w : World) :
    Calls Tryd.prog 7 #[.slice ao n n, .int .u8 f] w fun e w' => e = .returned (.agg #[.slice ao n n, .int .i64 0, .int .u8 f, .nilIface]) ∧ w.grownBy w' none := by
  go_enter Tryd.func7, Tryd.ntmps7
  go_wp2
  refine bodyPost_ret (results_cell_row rfl _ _ w.heap.size 29 _ (0, 0) _ rfl (heap_alloc_new _ _) Tryd.underlying29 rfl size29) rfl ?_
  exact ⟨rfl, World.grownBy_alloc _ _ _⟩

set_option maxHeartbeats 1600000 in
set_option maxRecDepth 100000 in
theorem fail_any (R n off te : Nat) (ao : Option Addr) (pa : Addr) (f err : Value) (w : World) (h : Rd w R ao n off f err) (hg : w.cell? ⟨0, 0, none⟩ = some (.iface te (.pointer (some pa)))) (hR : R ≠ 0) :
    Calls Tryd.prog 14 #[.pointer (some ⟨R, 0, none⟩)] w fun e w' => e = .returned (.tuple #[]) ∧ Rd w' R ao n n f (.iface te (.pointer (some pa))) ∧ Only R R w w' := by
  obtain ⟨d0, f0⟩ := heads4 h 0 _ rfl
  obtain ⟨d1, f1⟩ := heads4 h 1 _ rfl
  obtain ⟨d3, f3⟩ := heads4 h 3 _ rfl
  have e0 : w.drew.cell? ⟨R, 0, none⟩ = some (.slice ao n n) := d0
  have e1 : w.drew.cell? ⟨0, 0, none⟩ = some (.iface te (.pointer (some pa))) := hg
  have f1' : w.drew.frozen? ⟨R, 1, none⟩ = false := f1
  have f3' : w.drew.frozen? ⟨R, 3, none⟩ = false := f3
  go_enter Tryd.func14, Tryd.ntmps14
  go_upto_region 0 with fail
  go_region_held3 (fun w' => w'.cell? ⟨R, 0, none⟩ = some (.slice ao n n) ∧ w'.cell? ⟨0, 0, none⟩ = some (.iface te (.pointer (some pa)))) (first | (with_reducible exact ⟨d0, hg⟩) | (with_reducible exact ⟨e0, e1⟩) | (with_reducible exact ⟨far1d _ d0 (.inr (by decide)), far1d _ hg (.inl (Ne.symm hR))⟩) | (with_reducible exact ⟨far2d _ _ d0 (.inr (by decide)) (.inr (by decide)), far2d _ _ hg (.inl (Ne.symm hR)) (.inl (Ne.symm hR))⟩) | fail) (fail)
  go_end0
  exact ⟨rfl, set_at (cs := [_, _, _, _]) (k := 3) (set_at (cs := [_, _, _, _]) (k := 1) h _) _, (((Only.refl _ _ _).set _ _ (.inl rfl)).set _ _ (.inl rfl)).drew⟩

set_option maxHeartbeats 1600000 in
set_option maxRecDepth 100000 in
theorem rest_any (R n off : Nat) (ao : Option Addr) (f err : Value) (w : World) (h : Rd w R ao n off f err) (hn : n ≤ 1048576) (ho : off ≤ n) (hao : (ao = none ∧ n = 0) ∨ ∃ g, ao = some ⟨g, 0, none⟩) (ra : Option Addr) (hra : Hid ((if n = off then ao else ao.map (·.add off)) = ra)) :
    Calls Tryd.prog 9 #[.pointer (some ⟨R, 0, none⟩)] w fun e w' => e = .returned (.slice ra (n - off) (n - off)) ∧ Rd w' R ao n n f err ∧ Only R R w w' := by
  obtain ⟨d0, f0⟩ := heads4 h 0 _ rfl
  obtain ⟨d1, f1⟩ := heads4 h 1 _ rfl
  go_enter Tryd.func9, Tryd.ntmps9
  go_upto_region 1 with fail
  go_cut [3] (fun v wx => ∃ q, v = .slice ra (n - off) (n - off) ∧ wx = w.drewN q)
  case first =>
    rcases hao with ⟨rfl, rfl⟩ | ⟨g, rfl⟩
    · obtain rfl : off = 0 := by omega
      obtain rfl : none = ra := hra.out
      go_quiet (fail)
      go_wp2_with fail
      go_meet
      exact ⟨_, rfl, rfl⟩
    · by_cases hz : n = off
      · subst hz
        have e := hra.out
        rw [if_pos rfl] at e
        subst e
        go_quiet (fail)
        go_wp2_with fail
        go_meet
        exact ⟨nq, by simp, rfl⟩
      · go_quiet (fail)
        go_wp2_with fail
        go_meet
        exact ⟨nq, by rw [← hra.out, if_neg hz]; simp [Addr.add_lit], rfl⟩
  case rest =>
    obtain ⟨q, rfl, rfl⟩ := hcut
    have h' : Rd (w.drewN q) R ao n off f err := h
    have d0 : (w.drewN q).cell? ⟨R, 0, none⟩ = some (.slice ao n n) := d0
    have d1 : (w.drewN q).cell? ⟨R, 1, none⟩ = some (.int .i64 off) := d1
    have f1 : (w.drewN q).frozen? ⟨R, 1, none⟩ = false := f1
    have hO : Only R R w (w.drewN q) := (Only.refl _ _ _).drewN q
    generalize w.drewN q = W at h' d0 d1 f1 hO ⊢
    go_wp2_with fail
    go_ret
    exact ⟨rfl, set_at (cs := [_, _, _, _]) (k := 1) h' _, hO.set _ _ (.inl rfl)⟩

theorem run_slice3 (w : World) (a : Option Addr) (n off k J : Nat) (hJ : J = off + k) (h : J ≤ n) :
    (Instr.sliceAt 22 (.slice a n n) (some (.int .i64 off)) (some (.int .i64 J)) (some (.int .i64 J))).run Tryd.prog w = .ok (.slice (if k = 0 then a else a.map (·.add off)) k k) w := by
  have h1 : off ≤ J := by omega
  have e : (Instr.sliceAt 22 (.slice a n n) (some (.int .i64 off)) (some (.int .i64 J)) (some (.int .i64 J))).run Tryd.prog w = .ok (.slice (if J = off then a else a.map (·.add off)) (J - off) (J - off)) w := by
    simp [Instr.sliceAt, Instr.slice, Instr.sliceBounds, Instr.sliceBound, asIntOf, run_underlying Tryd.underlying22, go_sem, h1, h]
  rw [e]
  have e1 : J - off = k := by omega
  have e2 : (J = off) = (k = 0) := by apply propext; omega
  simp only [e1, e2]

theorem wrap_in {x : Int} (h1 : -9223372036854775808 ≤ x) (h2 : x ≤ 9223372036854775807) : IntKind.i64.wrap x = x := by
  rw [IntKind.wrap_i64]; omega

set_option maxHeartbeats 1600000 in
set_option maxRecDepth 100000 in
theorem fixed_ok (R n off k J : Nat) (ao : Option Addr) (f : Value) (w : World) (h : Rd w R ao n off f .nilIface) (hn : n ≤ 1048576) (hJ : J = off + k) (hJn : J ≤ n) (pb : Option Addr) (hpb : Hid ((if k = 0 then ao else ao.map (·.add off)) = pb)) :
    Calls Tryd.prog 13 #[.pointer (some ⟨R, 0, none⟩), .int .i64 k] w fun e w' => e = .returned (.slice pb k k) ∧ Rd w' R ao n J f .nilIface ∧ Only R R w w' := by
  obtain ⟨L, hL⟩ : ∃ L, n - off = L := ⟨_, rfl⟩
  have w0 : IntKind.i64.wrap ((n : Int) - (off : Int)) = (L : Int) := by rw [wrap_in (by omega) (by omega)]; omega
  have w1 : IntKind.i64.wrap ((off : Int) + (k : Int)) = (J : Int) := by rw [wrap_in (by omega) (by omega)]; omega
  have w2 : IntKind.i64.wrap ((J : Int) - (k : Int)) = (off : Int) := by rw [wrap_in (by omega) (by omega)]; omega
  have hk : k ≤ L := by omega
  obtain ⟨d0, f0⟩ := heads4 h 0 _ rfl
  obtain ⟨d1, f1⟩ := heads4 h 1 _ rfl
  obtain ⟨d3, f3⟩ := heads4 h 3 _ rfl
  go_enter Tryd.func13, Tryd.ntmps13
  go_upto_region 1 with fail
  go_quiet (fail)
  have hkd : decide (L < k) = false := decide_eq_false (by omega)
  have h' : Rd (w.drewN nq) R ao n off f .nilIface := h
  have d1' : (w.drewN nq).cell? ⟨R, 1, none⟩ = some (.int .i64 off) := d1
  have f1' : (w.drewN nq).frozen? ⟨R, 1, none⟩ = false := f1
  have hO : Only R R w (w.drewN nq) := (Only.refl _ _ _).drewN nq
  clear d0 f0 d1 f1 d3 f3 h
  generalize w.drewN nq = W at h' d1' f1' hO ⊢
  go_upto_region 5 with fail
  rw [show ((off : Int) + (k : Int)) = (J : Int) by omega]
  have h2 : Rd (W.setCell ⟨R, 1, none⟩ (.int .i64 J)) R ao n J f .nilIface := set_at (cs := [_, _, _, _]) (k := 1) h' _
  have hO2 : Only R R w (W.setCell ⟨R, 1, none⟩ (.int .i64 J)) := hO.set _ _ (.inl rfl)
  clear d1' f1' h' hO
  generalize W.setCell _ _ = V at h2 hO2 ⊢
  obtain ⟨d0, f0⟩ := heads4 h2 0 _ rfl
  obtain ⟨d1, f1⟩ := heads4 h2 1 _ rfl
  have hk0 : J = off ∨ (¬ J = off ∧ off ≤ J) := by omega
  have HJ : Hid (J = off + k) := hJ
  clear hJ
  rcases hk0 with hz | ⟨hz, hz2⟩
  · subst hz
    obtain rfl : k = 0 := by have := HJ.out; omega
    have e := hpb.out
    rw [if_pos rfl] at e
    subst e
    go_quiet (fail)
    go_wp2_with fail
    go_ret
    exact ⟨by simp, h2, hO2.drewN _⟩
  · have e := hpb.out
    rw [if_neg (by have := HJ.out; omega)] at e
    subst e
    have e2 : J - off = k := by have := HJ.out; omega
    go_quiet (fail)
    go_wp2_with fail
    go_ret
    exact ⟨by simp, h2, hO2.drewN _⟩

set_option maxHeartbeats 1600000 in
set_option maxRecDepth 100000 in
theorem fixed_fail (R n off k te : Nat) (ao : Option Addr) (pa : Addr) (f err : Value) (w : World) (h : Rd w R ao n off f err) (hn : n ≤ 1048576) (hk : k ≤ 1048576) (ho : off ≤ n) (hg : w.cell? ⟨0, 0, none⟩ = some (.iface te (.pointer (some pa)))) (hR : R ≠ 0)
    (hc : (err = .nilIface ∧ n < off + k) ∨ err = .iface te (.pointer (some pa))) :
    Calls Tryd.prog 13 #[.pointer (some ⟨R, 0, none⟩), .int .i64 k] w fun e w' => e = .returned (.slice none 0 0) ∧ Rd w' R ao n n f (.iface te (.pointer (some pa))) ∧ Only R R w w' := by
  obtain ⟨L, hL⟩ : ∃ L, n - off = L := ⟨_, rfl⟩
  have w0 : IntKind.i64.wrap ((n : Int) - (off : Int)) = (L : Int) := by rw [wrap_in (by omega) (by omega)]; omega
  obtain ⟨d0, f0⟩ := heads4 h 0 _ rfl
  obtain ⟨d1, f1⟩ := heads4 h 1 _ rfl
  obtain ⟨d3, f3⟩ := heads4 h 3 _ rfl
  rcases hc with ⟨rfl, hlt⟩ | rfl
  · have hkd : decide (L < k) = true := decide_eq_true (by omega)
    go_enter Tryd.func13, Tryd.ntmps13
    go_upto_region 1 with fail
    go_quiet (fail)
    have C := fail_any R n off te ao pa f .nilIface (w.drewN nq) h hg hR
    have hO : Only R R w (w.drewN nq) := (Only.refl _ _ _).drewN nq
    generalize w.drewN nq = W at C hO ⊢
    go_wp2_with (go_at_call 14; refine C.mono ?_)
    rintro e w' ⟨rfl, h2, hO2⟩
    go_wp2_with fail
    go_ret
    exact ⟨rfl, h2, hO.trans hO2⟩
  · go_enter Tryd.func13, Tryd.ntmps13
    go_upto_region 1 with fail
    go_quiet (fail)
    have C := fail_any R n off te ao pa f _ (w.drewN nq) h hg hR
    have hO : Only R R w (w.drewN nq) := (Only.refl _ _ _).drewN nq
    generalize w.drewN nq = W at C hO ⊢
    go_wp2_with (go_at_call 14; refine C.mono ?_)
    rintro e w' ⟨rfl, h2, hO2⟩
    go_wp2_with fail
    go_ret
    exact ⟨rfl, h2, hO.trans hO2⟩

end Go.Proofs.Qxb6615754aDoor
