/- Entries as cells; cmp.Compare at uint64; putBack's closure; slices.BinarySearchFunc at []entry. -/
import Derived.Test.Qxb6613717aInsertG
import Derived.Deep.QuietTactic
import Derived.BigQuiet
namespace Go.Proofs.Qxb6613717a
open Go.RowKit

/-- An entry of a ready list: its seq, the block of its message, redelivered, expires. -/
structure Ent where
  seq : Nat
  msg : Nat
  red : Bool
  exp : Int

def Ent.cells (e : Ent) : List Value := [.int .u64 e.seq, .pointer (some ⟨e.msg, 0, none⟩), .bool e.red, .int .i64 e.exp]
def entCells (es : List Ent) : List Value := es.flatMap Ent.cells

theorem entCells_length (es : List Ent) : (entCells es).length = es.length * 4 := by
  induction es with
  | nil => rfl
  | cons e es ih =>
    have : entCells (e :: es) = e.cells ++ entCells es := rfl
    rw [this, List.length_append, ih]
    simp [Ent.cells]
    omega

theorem entCells_append (a b : List Ent) : entCells (a ++ b) = entCells a ++ entCells b := by simp [entCells]

theorem entCells_take (es : List Ent) (i : Nat) (h : i ≤ es.length) : (entCells es).take (i * 4) = entCells (es.take i) := by
  have e : entCells es = entCells (es.take i) ++ entCells (es.drop i) := by rw [← entCells_append, List.take_append_drop]
  have l : i * 4 = (entCells (es.take i)).length := by rw [entCells_length, List.length_take]; omega
  rw [e, l]
  exact List.take_left

theorem entCells_drop (es : List Ent) (i : Nat) (h : i ≤ es.length) : (entCells es).drop (i * 4) = entCells (es.drop i) := by
  have e : entCells es = entCells (es.take i) ++ entCells (es.drop i) := by rw [← entCells_append, List.take_append_drop]
  have l : i * 4 = (entCells (es.take i)).length := by rw [entCells_length, List.length_take]; omega
  rw [e, l]
  exact List.drop_left

theorem entCells_one (es : List Ent) : ∀ u ∈ entCells es, u.oneCell' = true := by
  intro u hu
  simp only [entCells, List.mem_flatMap, Ent.cells] at hu
  obtain ⟨e, _, hu⟩ := hu
  simp at hu
  rcases hu with rfl | rfl | rfl | rfl <;> rfl

theorem entCells_at (es : List Ent) (k : Nat) (h : k < es.length) (c : Nat) (hc : c < 4) : (entCells es)[k * 4 + c]? = es[k].cells[c]? := by
  have e : (entCells es)[k * 4 + c]? = ((entCells es).drop (k * 4))[c]? := by rw [List.getElem?_drop]
  rw [e, entCells_drop es k (by omega), List.drop_eq_getElem_cons h]
  show (es[k].cells ++ entCells (es.drop (k + 1)))[c]? = _
  rw [List.getElem?_append_left (by simp [Ent.cells]; omega)]

/-- The four cells of entry k of a row of one's own. -/
theorem ent_cells {w : World} {g n cap : Nat} {es : List Ent} (h : w.ownsRow 0 65 4 (.slice (some ⟨g, 0, none⟩) n cap) n (entCells es)) (k : Nat) (hk : k < es.length) :
    w.cell? ⟨g, k * 4, none⟩ = some (.int .u64 es[k].seq) ∧ w.cell? ⟨g, k * 4 + 1, none⟩ = some (.pointer (some ⟨es[k].msg, 0, none⟩)) ∧ w.cell? ⟨g, k * 4 + 2, none⟩ = some (.bool es[k].red) ∧ w.cell? ⟨g, k * 4 + 3, none⟩ = some (.int .i64 es[k].exp) := by
  have hc := h.cells (g := g) rfl
  refine ⟨?_, ?_, ?_, ?_⟩
  · have := hc (k * 4 + 0) _ ((entCells_at es k hk 0 (by omega)).trans rfl)
    rw [Addr.add_lit, Nat.zero_add] at this
    exact this
  · have := hc (k * 4 + 1) _ ((entCells_at es k hk 1 (by omega)).trans rfl)
    rw [Addr.add_lit, Nat.zero_add] at this
    exact this
  · have := hc (k * 4 + 2) _ ((entCells_at es k hk 2 (by omega)).trans rfl)
    rw [Addr.add_lit, Nat.zero_add] at this
    exact this
  · have := hc (k * 4 + 3) _ ((entCells_at es k hk 3 (by omega)).trans rfl)
    rw [Addr.add_lit, Nat.zero_add] at this
    exact this

def cmpI (a b : Nat) : Int := if a < b then -1 else if b < a then 1 else 0

set_option maxHeartbeats 400000 in
theorem cmp_any (a b : Nat) (w : World) : Calls Try.prog 40 #[.int .u64 a, .int .u64 b] w fun e w' => e = .returned (.int .i64 (cmpI a b)) ∧ w = w' := by
  have hn : ∀ x : Int, (x != x) = false := fun x => by simp
  rcases Nat.lt_trichotomy a b with h | h | h
  · have e : cmpI a b = -1 := by unfold cmpI; rw [if_pos h]
    rw [e]
    clear e
    go_enter Try.func40, Try.ntmps40
    go_wp2
    go_ret
    exact ⟨rfl, rfl⟩
  · subst h
    have e : cmpI a a = 0 := by unfold cmpI; rw [if_neg (by omega), if_neg (by omega)]
    rw [e]
    clear e
    go_enter Try.func40, Try.ntmps40
    go_wp2
    go_ret
    exact ⟨rfl, rfl⟩
  · have e : cmpI a b = 1 := by unfold cmpI; rw [if_neg (by omega), if_pos h]
    rw [e]
    clear e
    go_enter Try.func40, Try.ntmps40
    go_wp2
    go_ret
    exact ⟨rfl, rfl⟩

set_option maxHeartbeats 400000 in
theorem closure_any (s t : Nat) (p r x : Value) (w : World) : Calls Try.prog 39 #[.agg #[.int .u64 s, p, r, x], .int .u64 t] w fun e w' => e = .returned (.int .i64 (cmpI s t)) ∧ w.grownBy w' none := by
  go_enter Try.func39, Try.ntmps39
  go_wp2_with fail
  refine (cmp_any s t _).mono ?_
  rintro e w' ⟨rfl, rfl⟩
  go_wp2
  go_ret
  exact ⟨rfl, World.grownBy_alloc _ _ _⟩

theorem grownBy_none_trans {a b c : World} (h : a.grownBy b none) (k : b.grownBy c none) : a.grownBy c none :=
  ⟨k.os.trans h.os, k.tape.trans h.tape, k.output.trans h.output, Nat.le_trans h.size k.size, fun i hi _ => (k.block i (Nat.lt_of_lt_of_le hi h.size) (by simp)).trans (h.block i hi (by simp))⟩

theorem cmpI_neg {a b : Nat} : cmpI a b < 0 ↔ a < b := by
  unfold cmpI; split
  · simp; assumption
  · split <;> simp <;> omega

/-- How many entries lie ahead of t. -/
def ahead (es : List Ent) (t : Nat) : Nat := es.countP (fun e => e.seq < t)

theorem ahead_le (es : List Ent) (t : Nat) : ahead es t ≤ es.length := List.countP_le_length

theorem ahead_of (es : List Ent) (t i : Nat) (hi : i ≤ es.length) (h1 : ∀ k (hk : k < es.length), k < i → es[k].seq < t) (h2 : ∀ k (hk : k < es.length), i ≤ k → t ≤ es[k].seq) : ahead es t = i := by
  have e : es = es.take i ++ es.drop i := (List.take_append_drop i es).symm
  unfold ahead
  rw [e, List.countP_append]
  have a1 : (es.take i).countP (fun e => e.seq < t) = i := by
    rw [List.countP_eq_length.2]
    · rw [List.length_take]; omega
    · intro x hx
      obtain ⟨k, hk, rfl⟩ := List.getElem_of_mem hx
      rw [List.length_take] at hk
      simpa using h1 k (by omega) (by omega)
  have a2 : (es.drop i).countP (fun e => e.seq < t) = 0 := by
    rw [List.countP_eq_zero]
    intro x hx
    obtain ⟨k, hk, rfl⟩ := List.getElem_of_mem hx
    rw [List.length_drop] at hk
    simpa using h2 (i + k) (by omega) (by omega)
  omega

theorem ret_two {a b : Int} {f : Bool} (h : a = b) : Ending.returned (.tuple #[.int .i64 a, .bool f]) = .returned (.tuple #[.int .i64 b, .bool f]) := by rw [h]

def Sorted (es : List Ent) : Prop := es.Pairwise (fun a b => a.seq < b.seq)

theorem Sorted.lt {es : List Ent} (h : Sorted es) {i j : Nat} (hi : i < j) (hj : j < es.length) : (es[i]'(by omega)).seq < es[j].seq :=
  List.pairwise_iff_getElem.1 h i j (by omega) hj hi

set_option maxHeartbeats 1600000 in
set_option maxRecDepth 100000 in
theorem search_any (n cap t : Nat) (ao : Option Addr) (es : List Ent) (w : World) (hown : w.ownsRow 0 65 4 (.slice ao n cap) n (entCells es)) (hl : es.length = n) (hn : n ≤ 1048576) (hs : Sorted es) :
    Calls Try.prog 38 #[.slice ao n cap, .int .u64 t, .func (.func 39) #[] #[]] w fun e w' => ∃ f, e = .returned (.tuple #[.int .i64 (ahead es t), .bool f]) ∧ w.grownBy w' none := by
  by_cases h0 : n = 0
  · subst h0
    obtain rfl : es = [] := List.eq_nil_of_length_eq_zero hl
    go_enter Try.func38, Try.ntmps38
    go_wp2
    refine wp_loop_rounds 1 ?_
    rw [rounds_succ]
    go_wp2
    go_ret2
    exact ⟨_, rfl, World.grownBy.refl _ _⟩
  · obtain ⟨g, rfl⟩ : ∃ g, ao = some ⟨g, 0, none⟩ := by
      rcases hown.2 with ⟨_, h⟩ | ⟨g, c, cur, he, _⟩
      · exact absurd h h0
      · simp at he; exact ⟨g, he.1⟩
    go_enter Try.func38, Try.ntmps38
    go_wp2
    go_loopw [9, 10] (fun vi vj wr => ∃ i j : Nat, vi = .int .i64 i ∧ vj = .int .i64 j ∧ i ≤ j ∧ j ≤ n ∧ (∀ k (hk : k < es.length), k < i → es[k].seq < t) ∧ (∀ k (hk : k < es.length), j ≤ k → t ≤ es[k].seq) ∧ w.grownBy wr none)
      (fun vi vj _ => (intOf vj - intOf vi).toNat)
    case atStart => exact ⟨0, n, rfl, rfl, by omega, by omega, fun _ _ h => absurd h (by omega), fun k hk h => by omega, World.grownBy.refl _ _⟩
    case round =>
      obtain ⟨i, j, rfl, rfl, hij, hjn, ha, hb, hg⟩ := hrel
      have HA : Hid (∀ k (hk : k < es.length), k < i → es[k].seq < t) := ha
      have HB : Hid (∀ k (hk : k < es.length), j ≤ k → t ≤ es[k].seq) := hb
      clear ha hb
      have ho := hown.kept hg (.inr (by simp [Value.ownBlock]))
      by_cases hlt : i < j
      · obtain ⟨q0, q1, q2, q3⟩ := ent_cells ho ((i + j) / 2) (by omega)
        have HX : Hid (∃ x, es[(i + j) / 2]'(by omega) = x) := ⟨_, rfl⟩
        obtain ⟨x, hx⟩ := HX
        rw [hx] at q0 q1 q2 q3
        have HX : Hid (es[(i + j) / 2]'(by omega) = x) := hx
        clear hx ho
        go_wp2_with fail
        refine (closure_any x.seq t _ _ _ wr).mono ?_
        rintro e w1 ⟨rfl, hg1⟩
        have hg2 := grownBy_none_trans hg hg1
        by_cases hx : x.seq < t
        · have hc : cmpI x.seq t < 0 := cmpI_neg.2 hx
          go_wp2
          go_roundw
          case rel => 
            refine ⟨(i + j) / 2 + 1, j, by go_num, rfl, by omega, hjn, fun k hk hki => ?_, HB.out, hg2⟩
            by_cases e : k = (i + j) / 2
            · subst e; rw [HX.out]; exact hx
            · have := hs.lt (i := k) (j := (i + j) / 2) (by omega) (by omega)
              rw [HX.out] at this
              omega
          case measure => simp [intOf]; omega
        · have hc : ¬ cmpI x.seq t < 0 := fun h => hx (cmpI_neg.1 h)
          go_wp2
          go_roundw
          case rel => 
            refine ⟨i, (i + j) / 2, rfl, by go_num, by omega, by omega, HA.out, fun k hk hki => ?_, hg2⟩
            by_cases e : k = (i + j) / 2
            · subst e; rw [HX.out]; omega
            · have := hs.lt (i := (i + j) / 2) (j := k) (by omega) (by omega)
              rw [HX.out] at this
              omega
          case measure => simp [intOf]; omega
      · have hji : j = i := by omega
        subst hji
        have HAH : Hid (ahead es t = j) := ahead_of es t j (by omega) HA.out HB.out
        by_cases hend : j < n
        · obtain ⟨q0, q1, q2, q3⟩ := ent_cells ho j (by omega)
          generalize es[j]'(by omega) = x at q0 q1 q2 q3
          clear ho
          go_wp2_with fail
          refine (closure_any x.seq t _ _ _ wr).mono ?_
          rintro e w1 ⟨rfl, hg1⟩
          go_wp2
          go_ret2
          exact ⟨_, ret_two (by rw [HAH.out]), grownBy_none_trans hg hg1⟩
        · go_wp2
          go_ret2
          exact ⟨_, ret_two (by rw [HAH.out]), hg⟩

end Go.Proofs.Qxb6613717a
