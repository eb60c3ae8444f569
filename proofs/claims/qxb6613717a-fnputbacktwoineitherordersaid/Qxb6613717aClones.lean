/- zzB1CloneU64, zzB1CloneBodies. -/
import Derived.Test.Qxb6613717aArgs
namespace Go.Proofs.Qxb6613717a
open Go.RowKit

theorem info24 : (Try.prog.info? 24).map (fun i => (i.zero, i.size, i.bytes)) = some (some (.int .u64 0), 1, 8) := by kernel_rfl
theorem size24 : (Try.prog.info? 24).map (·.size) = some 1 := by kernel_rfl
theorem info25 : (Try.prog.info? 25).map (fun i => (i.zero, i.size, i.bytes)) = some (some (.slice none 0 0), 1, 24) := by kernel_rfl

set_option maxHeartbeats 400000 in
theorem cloneU_any (ao : Option Addr) (n cap : Nat) (ss : List Nat) (w : World) (hs : SeesV w ao n cap (u64s ss)) (hn : n ≤ 1048576) :
    Calls Try.prog 11 #[.slice ao n cap] w fun e w' => ∃ ao' cap', e = .returned (.slice ao' n cap') ∧ w'.ownsRow w.heap.size 24 1 (.slice ao' n cap') n (u64s ss) ∧ w.grownBy w' none := by
  obtain ⟨hl, hnc, hcm, hnil, hcell⟩ := hs
  have he := fun wx => Lib.run_eql_slice_nil (P := Try.prog) wx 22 24 ao n cap 0 0 Try.underlying22
  obtain ⟨i0, hi, hz0, hz1, hz2⟩ := info_parts info24
  cases ao with
  | none =>
    obtain ⟨rfl, rfl⟩ := hnil rfl
    go_enter Try.func11, Try.ntmps11
    go_wp2
    go_ret
    exact ⟨none, 0, rfl, by rw [List.eq_nil_of_length_eq_zero hl]; exact World.ownsRow_nil _ _ _ _, World.grownBy.refl _ _⟩
  | some a =>
    have he2 : ∀ wx, (binOp .eql 22 (.slice (some a) n cap) (.slice none 0 0)).run Try.prog wx = .ok (.bool false) wx := fun wx => he wx
    clear he
    go_enter Try.func11, Try.ntmps11
    go_wp2_with (first
      | (at_make; refine wpList_make_full _ rfl _ _ 22 rfl w.heap.size 24 i0 (.int .u64 0) 1 Try.underlying22 hi hz0 hz1 _ _ _ _ n rfl rfl rfl rfl (by rw [hz2]; omega) (by unfold maxLen; omega) (Nat.le_refl _) ?_; intro w1 hown hgrow; have hh : Hid _ := full_heap hown)
      | (refine wpList_copy_splice rfl (.tmp 9) (.tmp 10) 22 22 rfl 24 Try.underlying22 size24 _ _ _ _ _ _ rfl rfl w.heap.size 0 _ 24 hh.out (u64s ss) ?c1 ?c2 ?c3 (u64s_one ss) w.heap.size w ?c4 (Nat.le_refl _) ?_)
      | fail)
    case c1 => rw [hl]; exact (Nat.min_self n).symm
    case c2 => intro _ j u hu; exact hgrow.cell (hcell a rfl j u hu) (by simp)
    case c3 => rw [hl]; simp [size_madeCells]
    case c4 => exact (Below.refl _ _).grown hgrow (Nat.le_refl _) (by simp)
    intro w2 hh2 hb2
    go_wp2
    go_ret
    have hsp : splice (madeCells #[Value.int .u64 0] n).toList 0 (u64s ss) = u64s ss := splice_all _ _ (by rw [hl]; simp [size_madeCells])
    have hh3 := hh2.out
    rw [hsp] at hh3
    exact ⟨_, _, rfl, full_own hh3 hl (Nat.le_refl _) (by unfold maxLen; omega), ⟨hb2.os, hb2.tape, hb2.output, hb2.size, fun k hk _ => hb2.block k hk⟩⟩

/-- A body that is a row of the call's own. -/
def OwnB (w : World) (b : Body) : Prop := w.ownsRow 0 5 1 b.val b.n (Lib.byteCells b.l)

theorem OwnB.kept {w w' : World} {b : Body} (h : OwnB w b) (hg : w.grownBy w' none) : OwnB w' b := kept_none h hg

theorem OwnB.sees {w : World} {b : Body} (h : OwnB w b) : Sees w b.ao b.n b.cap b.l := by
  have := own_seesV h
  exact ⟨by have := this.1; rwa [Lib.byteCells_length] at this, this.2⟩

/-- Bodies in a row of the call's own. -/
structure OwnBs (w : World) (ao : Option Addr) (n cap : Nat) (bs : List Body) : Prop where
  row : w.ownsRow 0 25 1 (.slice ao n cap) n (bodyVals bs)
  each : ∀ b ∈ bs, OwnB w b

/-- Bodies somewhere. -/
structure SeesBs (w : World) (ao : Option Addr) (n cap : Nat) (bs : List Body) : Prop where
  row : SeesV w ao n cap (bodyVals bs)
  each : ∀ b ∈ bs, Sees w b.ao b.n b.cap b.l

theorem SeesBs.kept {w w' : World} {n cap : Nat} {ao : Option Addr} {bs : List Body} (h : SeesBs w ao n cap bs) (hg : w.grownBy w' none) : SeesBs w' ao n cap bs :=
  ⟨h.row.kept hg, fun b hb => (h.each b hb).kept hg⟩

theorem SeesBs.len {w : World} {n cap : Nat} {ao : Option Addr} {bs : List Body} (h : SeesBs w ao n cap bs) : bs.length = n := by
  have := h.row.1; simpa [bodyVals] using this

theorem OwnBs.sees {w : World} {n cap : Nat} {ao : Option Addr} {bs : List Body} (h : OwnBs w ao n cap bs) : SeesBs w ao n cap bs :=
  ⟨own_seesV h.row, fun b hb => (h.each b hb).sees⟩

theorem OwnBs.kept {w w' : World} {n cap : Nat} {ao : Option Addr} {bs : List Body} (h : OwnBs w ao n cap bs) (hg : w.grownBy w' none) : OwnBs w' ao n cap bs :=
  ⟨kept_none h.row hg, fun b hb => (h.each b hb).kept hg⟩

/-- Two lists of bodies with the same bytes. -/
def Alikes (bs bs' : List Body) : Prop := bs'.map (·.l) = bs.map (·.l)

def ClonedBs (w : World) (n : Nat) (bs : List Body) (e : Ending) (w' : World) : Prop := ∃ ao' cap' bs', e = .returned (.slice ao' n cap') ∧ OwnBs w' ao' n cap' bs' ∧ Alikes bs bs' ∧ w.grownBy w' none

/-- A row does not lie in a block of another kind. -/
theorem own_ne {w : World} {R e e' sz n : Nat} {v : Value} {xs : List Value} {cs : Array Value} {fr : Nat × Nat} (h : w.ownsRow 0 e sz v n xs) (hR : w.heap[R]? = some (.cells cs e' fr)) (he : e' ≠ e) : v.ownBlock ≠ some R := by
  intro e1
  rcases h.2 with ⟨h1, _⟩ | ⟨g, c, cur, h1, _, hh, _⟩
  · rw [h1] at e1; simp [Value.ownBlock] at e1
  · rw [h1] at e1
    simp [Value.ownBlock] at e1
    subst e1
    rw [hh] at hR
    simp only [Option.some.injEq, Obj.cells.injEq] at hR
    exact he hR.2.1.symm

theorem set_at {w : World} {R e k : Nat} {cs : List Value} (h : w.heap[R]? = some (.cells cs.toArray e (0, 0))) (v : Value) : (w.setCell ⟨R, k, none⟩ v).heap[R]? = some (.cells (cs.set k v).toArray e (0, 0)) := by
  simp [World.setCell, Array.getElem?_modify, h]

theorem set_snoc (bs : List Value) (m : Nat) (z v : Value) : (bs ++ List.replicate (m + 1) z).set bs.length v = bs ++ [v] ++ List.replicate m z := by
  rw [List.set_append_right _ _ (Nat.le_refl _)]
  simp [List.replicate_succ]

theorem cell_mid {w : World} {R e k : Nat} {cs : List Value} {v : Value} (h : w.heap[R]? = some (.cells cs.toArray e (0, 0))) (hv : cs[k]? = some v) : w.cell? ⟨R, k, none⟩ = some v ∧ w.frozen? ⟨R, k, none⟩ = false := by
  refine ⟨?_, by simp [World.frozen?, h]⟩
  simp only [World.cell?, h]
  simpa using hv

theorem list_mid (bs : List Value) (m k : Nat) (z : Value) (hk : bs.length = k) (hm : 0 < m) : (bs ++ List.replicate m z)[k]? = some z := by
  subst hk
  rw [List.getElem?_append_right (Nat.le_refl _), Nat.sub_self]
  cases m with
  | zero => omega
  | succ m => rfl

theorem made25 (n : Nat) : (madeCells (Value.slice none 0 0).cells (n * 1)).toList = List.replicate n (Value.slice none 0 0) := by
  apply List.ext_getElem
  · simp [size_madeCells]
  · intro i h1 h2
    simp [madeCells, Value.cells, Nat.mod_one]

theorem Alikes.snoc {bs bs' : List Body} {k : Nat} (h : Alikes (bs.take k) bs') (hk : k < bs.length) {b : Body} (hb : b.l = bs[k].l) : Alikes (bs.take (k + 1)) (bs' ++ [b]) := by
  unfold Alikes at h ⊢
  rw [List.take_succ_eq_append_getElem hk, List.map_append, List.map_append, h]
  simp [hb]

set_option maxHeartbeats 1600000 in
set_option maxRecDepth 100000 in
theorem cloneBs_any (ao : Option Addr) (n cap : Nat) (bs : List Body) (w : World) (hs : SeesBs w ao n cap bs) (hn : n ≤ 1048576) (hsz : ∀ b ∈ bs, b.n ≤ 1048576) :
    Calls Try.prog 12 #[.slice ao n cap] w fun e w' => ClonedBs w n bs e w' := by
  have hl := hs.len
  obtain ⟨hl0, hnc, hcm, hnil, hcell⟩ := hs.row
  have he := fun wx => Lib.run_eql_slice_nil (P := Try.prog) wx 23 25 ao n cap 0 0 Try.underlying23
  obtain ⟨i0, hi, hz0, hz1, hz2⟩ := info_parts info25
  cases ao with
  | none =>
    obtain ⟨rfl, rfl⟩ := hnil rfl
    obtain rfl : bs = [] := List.eq_nil_of_length_eq_zero hl
    go_enter Try.func12, Try.ntmps12
    go_wp2
    go_ret
    exact ⟨none, 0, [], rfl, ⟨World.ownsRow_nil _ _ _ _, by simp⟩, rfl, World.grownBy.refl _ _⟩
  | some a =>
    have he2 : ∀ wx, (binOp .eql 23 (.slice (some a) n cap) (.slice none 0 0)).run Try.prog wx = .ok (.bool false) wx := fun wx => he wx
    clear he
    by_cases h0 : n = 0
    · subst h0
      obtain rfl : bs = [] := List.eq_nil_of_length_eq_zero hl
      go_enter Try.func12, Try.ntmps12
      go_wp2_with (first
        | (at_make; refine wpList_make_full _ rfl _ _ 23 rfl w.heap.size 25 i0 (.slice none 0 0) 1 Try.underlying23 hi hz0 hz1 _ _ _ _ 0 rfl rfl rfl rfl (by rw [hz2]; omega) (by unfold maxLen; omega) (Nat.le_refl _) ?_; intro w1 hown hgrow)
        | fail)
      refine wp_loop_rounds 1 ?_
      rw [rounds_succ]
      go_wp2
      go_ret
      rw [made25] at hown
      exact ⟨_, _, [], rfl, ⟨ownsRow_base hown (Nat.zero_le _), by simp⟩, rfl, hgrow⟩
    · obtain ⟨b, o, e1, hc⟩ := hs.row.at (by omega)
      obtain rfl := Option.some.inj e1
      go_enter Try.func12, Try.ntmps12
      go_wp2_with (first
        | (at_make; refine wpList_make_full _ rfl _ _ 23 rfl w.heap.size 25 i0 (.slice none 0 0) 1 Try.underlying23 hi hz0 hz1 _ _ _ _ n rfl rfl rfl rfl (by rw [hz2]; omega) (by unfold maxLen; omega) (Nat.le_refl _) ?_; intro w1 hown hgrow; have hh : Hid _ := full_heap hown)
        | fail)
      go_loopw [4] (fun vi wr => ∃ (k : Nat) (bs' : List Body), k ≤ n ∧ vi = .int .i64 k ∧ bs'.length = k ∧ Alikes (bs.take k) bs' ∧ (∀ b ∈ bs', OwnB wr b) ∧ Hid (wr.heap[w.heap.size]? = some (.cells (bodyVals bs' ++ List.replicate (n - k) (Value.slice none 0 0)).toArray 25 (0, 0))) ∧ w.grownBy wr none) (fun vi _ => n - (intOf vi).toNat)
      case atStart => exact ⟨0, [], Nat.zero_le _, rfl, rfl, rfl, by simp, by have := hh.out; rw [made25] at this; exact this, hgrow⟩
      case round =>
        obtain ⟨k, bs', hk, rfl, hbl, hal, hown', HH, hg⟩ := hrel
        by_cases hlt : k < n
        · have hck := hg.cell (hc k (bs[k]'(by omega)).val (by simp [bodyVals, hl, hlt])) (by simp)
          have hsx := (hs.each (bs[k]'(by omega)) (List.getElem_mem _)).kept hg
          have hnx := hsz (bs[k]'(by omega)) (List.getElem_mem _)
          obtain ⟨x, hx⟩ : ∃ x, bs[k]'(by omega) = x := ⟨_, rfl⟩
          rw [hx] at hck hsx hnx
          have HX : Hid (bs[k]? = some x) := by show _ = _; rw [← hx]; exact List.getElem?_eq_getElem _
          unfold Body.val at hck
          clear hx hc
          have HOWN : Hid (∀ b ∈ bs', OwnB wr b) := hown'
          have HAL : Hid (Alikes (bs.take k) bs') := hal
          have HBL : Hid (bs'.length = k) := hbl
          clear hown' hal hbl hcell
          go_wp2_with fail
          refine (clone_own x.ao x.n x.cap x.l wr hsx hnx).mono ?_
          rintro e w2 ⟨ao', cap', rfl, o', g2⟩
          have HH2 : Hid _ := heap_kept g2 HH.out (by simp)
          obtain ⟨hfc, hff⟩ := cell_mid HH2.out (list_mid (bodyVals bs') (n - k) k (.slice none 0 0) (by simp [bodyVals, HBL.out]) (by omega))
          go_wp2
          go_roundw
          case rel =>
            obtain ⟨hk', hx'⟩ := List.getElem?_eq_some_iff.1 HX.out
            have hg3 := grownBy_setCell w2 ⟨w.heap.size, k, none⟩ (.slice ao' x.n cap')
            have hne5 : ∀ b : Body, OwnB w2 b → OwnB (w2.setCell ⟨w.heap.size, k, none⟩ (.slice ao' x.n cap')) b := fun b hb => World.ownsRow.kept hb hg3 (.inr (own_ne hb HH2.out (by decide)))
            refine ⟨k + 1, bs' ++ [⟨ao', x.n, cap', x.l⟩], by omega, by go_num, by simp [HBL.out], HAL.out.snoc hk' (by rw [hx']), ?_, ?_, ?_⟩
            · intro b hb
              rcases List.mem_append.1 hb with hb | hb
              · exact hne5 b ((HOWN.out b hb).kept g2)
              · rw [List.mem_singleton.1 hb]
                exact hne5 _ (ownsRow_base o'.row (Nat.zero_le _))
            · have h5 := set_at HH2.out (k := k) (.slice ao' x.n cap')
              have h6 := set_snoc (bodyVals bs') (n - (k + 1)) (.slice none 0 0) (.slice ao' x.n cap')
              rw [show (bodyVals bs').length = k by simp [bodyVals, HBL.out], show n - (k + 1) + 1 = n - k by omega] at h6
              rw [h6] at h5
              rw [show bodyVals (bs' ++ [⟨ao', x.n, cap', x.l⟩]) = bodyVals bs' ++ [.slice ao' x.n cap'] by simp [bodyVals, Body.val]]
              exact h5
            · have := hg3
              exact ⟨hg3.os.trans (g2.os.trans hg.os), hg3.tape.trans (g2.tape.trans hg.tape), hg3.output.trans (g2.output.trans hg.output), Nat.le_trans hg.size (Nat.le_trans g2.size hg3.size), fun j hj _ => (hg3.block j (by have := hg.size; have := g2.size; omega) (by simp; omega)).trans ((g2.block j (by have := hg.size; omega) (by simp)).trans (hg.block j hj (by simp)))⟩
          case measure => simp [intOf]; omega
        · have e : k = n := by omega
          subst e
          go_wp2
          go_ret
          have hh2 := HH.out
          rw [Nat.sub_self, List.replicate_zero, List.append_nil] at hh2
          exact ⟨_, _, bs', rfl, ⟨full_own hh2 (by simp [bodyVals, hbl]) (Nat.zero_le _) (by unfold maxLen; omega), hown'⟩, by rw [List.take_of_length_le (by omega)] at hal; exact hal, hg⟩

end Go.Proofs.Qxb6613717a
