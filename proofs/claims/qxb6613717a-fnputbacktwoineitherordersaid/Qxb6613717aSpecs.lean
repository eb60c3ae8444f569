/- Lists of what entries stand for. No walk in this text. -/
import Derived.Test.Qxb6613717aBuild
namespace Go.Proofs.Qxb6613717a
open Go.RowKit

def aheadS (sps : List Spec) (t : Nat) : Nat := sps.countP (fun e => decide (e.seq < t))
def putS (sps : List Spec) (sp : Spec) : List Spec := sps.take (aheadS sps sp.seq) ++ [sp] ++ sps.drop (aheadS sps sp.seq)

theorem aheadS_eq {w : World} {es : List Ent} {sps : List Spec} (h : FiledAll w es sps) (t : Nat) : ahead es t = aheadS sps t := by
  rw [ahead_map, filed_seqs h]
  unfold aheadS
  rw [List.countP_map]
  rfl

theorem FiledAll.take {w : World} {es : List Ent} {sps : List Spec} (h : FiledAll w es sps) (i : Nat) : FiledAll w (es.take i) (sps.take i) := by
  refine ⟨by simp [h.1], fun j x sp hx hs => ?_⟩
  rw [List.getElem?_take] at hx hs
  split at hx
  · rename_i hj
    rw [if_pos hj] at hs
    exact h.2 j x sp hx hs
  · simp at hx

theorem FiledAll.drop {w : World} {es : List Ent} {sps : List Spec} (h : FiledAll w es sps) (i : Nat) : FiledAll w (es.drop i) (sps.drop i) := by
  refine ⟨by simp [h.1], fun j x sp hx hs => ?_⟩
  rw [List.getElem?_drop] at hx hs
  exact h.2 _ x sp hx hs

theorem FiledAll.append {w : World} {es fs : List Ent} {sps sqs : List Spec} (h : FiledAll w es sps) (k : FiledAll w fs sqs) : FiledAll w (es ++ fs) (sps ++ sqs) := by
  refine ⟨by simp [h.1, k.1], fun j x sp hx hs => ?_⟩
  by_cases hj : j < es.length
  · rw [List.getElem?_append_left hj] at hx
    rw [List.getElem?_append_left (by rw [← h.1]; exact hj)] at hs
    exact h.2 j x sp hx hs
  · rw [List.getElem?_append_right (by omega)] at hx
    rw [List.getElem?_append_right (by rw [← h.1]; omega), ← h.1] at hs
    exact k.2 _ x sp hx hs

theorem FiledAll.one {w : World} {x : Ent} {sp : Spec} (h : Filed w x sp) : FiledAll w [x] [sp] := (FiledAll.nil w).snoc h

theorem filedAll_putS {w : World} {es : List Ent} {sps : List Spec} {x : Ent} {sp : Spec} (h : FiledAll w es sps) (hx : Filed w x sp) : FiledAll w (put es x) (putS sps sp) := by
  unfold put putS
  rw [← hx.1, ← aheadS_eq h]
  exact ((h.take _).append (FiledAll.one hx)).append (h.drop _)

theorem sorted_of {w : World} {es : List Ent} {sps : List Spec} (h : FiledAll w es sps) (hs : sps.Pairwise (fun a b => a.seq < b.seq)) : Sorted es := by
  have e1 : (es.map (·.seq)).Pairwise (· < ·) := by
    rw [filed_seqs h]
    exact List.pairwise_map.2 hs
  exact List.pairwise_map.1 e1

theorem specs_of {w : World} {es : List Ent} {sps : List Spec} (h : FiledAll w es sps) (hs : Sorted es) : sps.Pairwise (fun a b => a.seq < b.seq) := by
  have e1 : (sps.map (·.seq)).Pairwise (· < ·) := by
    rw [← filed_seqs h]
    exact List.pairwise_map.2 hs
  exact List.pairwise_map.1 e1

theorem putS_filter (sps : List Spec) (sp : Spec) (p : Spec → Bool) (h : p sp = false) : (putS sps sp).filter p = sps.filter p := by
  unfold putS
  rw [List.filter_append, List.filter_append]
  simp only [List.filter_cons, h, List.filter_nil, Bool.false_eq_true, if_false, List.append_nil]
  rw [← List.filter_append, List.take_append_drop]

theorem putS_mem (sps : List Spec) (sp q : Spec) : q ∈ putS sps sp ↔ q = sp ∨ q ∈ sps := by
  have e : sps = sps.take (aheadS sps sp.seq) ++ sps.drop (aheadS sps sp.seq) := (List.take_append_drop _ _).symm
  constructor
  · intro h
    unfold putS at h
    rcases List.mem_append.1 h with h | h
    · rcases List.mem_append.1 h with h | h
      · exact .inr (List.mem_of_mem_take h)
      · exact .inl (List.mem_singleton.1 h)
    · exact .inr (List.mem_of_mem_drop h)
  · rintro (rfl | h)
    · unfold putS; simp
    · unfold putS
      rw [e] at h
      rcases List.mem_append.1 h with h | h
      · exact List.mem_append_left _ (List.mem_append_left _ h)
      · exact List.mem_append_right _ h

theorem putS_length (sps : List Spec) (sp : Spec) : (putS sps sp).length = sps.length + 1 := by
  have : aheadS sps sp.seq ≤ sps.length := List.countP_le_length
  simp [putS]
  omega

def nonab (a b : Nat) (sp : Spec) : Bool := !(sp.seq == a) && !(sp.seq == b)

/-- How many of the first k are neither a nor b. -/
def cnt (sps : List Spec) (a b k : Nat) : Nat := ((sps.take k).filter (nonab a b)).length
/-- Is one of the first k of this seq? -/
def seen (sps : List Spec) (a k : Nat) : Bool := (sps.take k).any (fun sp => sp.seq == a)

theorem cnt_succ (sps : List Spec) (a b k : Nat) (h : k < sps.length) : cnt sps a b (k + 1) = cnt sps a b k + if nonab a b sps[k] = true then 1 else 0 := by
  unfold cnt
  rw [List.take_succ_eq_append_getElem h, List.filter_append, List.length_append]
  congr 1
  by_cases hh : nonab a b sps[k] = true <;> simp [hh]

theorem cnt_all (sps : List Spec) (a b : Nat) : cnt sps a b sps.length = (sps.filter (nonab a b)).length := by
  unfold cnt
  rw [List.take_length]

theorem cnt_le (sps : List Spec) (a b k : Nat) : cnt sps a b k ≤ (sps.filter (nonab a b)).length := by
  unfold cnt
  exact (List.Sublist.filter _ (List.take_sublist k sps)).length_le

/-- Where element k is neither a nor b it is the next of those. -/
theorem cnt_at (sps : List Spec) (a b k : Nat) (h : k < sps.length) (hn : nonab a b sps[k] = true) : (sps.filter (nonab a b))[cnt sps a b k]? = some sps[k] := by
  have e : sps = sps.take k ++ sps[k] :: sps.drop (k + 1) := by rw [← List.drop_eq_getElem_cons h, List.take_append_drop]
  have e2 : sps.filter (nonab a b) = (sps.take k).filter (nonab a b) ++ sps[k] :: (sps.drop (k + 1)).filter (nonab a b) := by
    conv => lhs; rw [e]
    rw [List.filter_append, List.filter_cons, if_pos hn]
  rw [e2]
  unfold cnt
  rw [List.getElem?_append_right (Nat.le_refl _), Nat.sub_self]
  rfl

theorem seen_succ (sps : List Spec) (a k : Nat) (h : k < sps.length) : seen sps a (k + 1) = (seen sps a k || sps[k].seq == a) := by
  unfold seen
  rw [List.take_succ_eq_append_getElem h, List.any_append]
  simp

theorem seen_not (sps : List Spec) (a k : Nat) (h : k < sps.length) (hs : sps.Pairwise (fun a b => a.seq < b.seq)) (ha : sps[k].seq = a) : seen sps a k = false := by
  unfold seen
  rw [List.any_eq_false]
  intro q hq
  obtain ⟨j, hj, rfl⟩ := List.getElem_of_mem hq
  rw [List.length_take] at hj
  have := List.pairwise_iff_getElem.1 hs j k (by omega) h (by omega)
  simp
  omega

theorem seen_all (sps : List Spec) (a : Nat) (sp : Spec) (h : sp ∈ sps) (ha : sp.seq = a) : seen sps a sps.length = true := by
  unfold seen
  rw [List.take_length, List.any_eq_true]
  exact ⟨sp, h, by simpa using ha⟩

/-- Of each seq there is one alone. -/
theorem one_seq {sps : List Spec} (hs : sps.Pairwise (fun a b => a.seq < b.seq)) {p q : Spec} (hp : p ∈ sps) (hq : q ∈ sps) (h : p.seq = q.seq) : p = q := by
  obtain ⟨i, hi, rfl⟩ := List.getElem_of_mem hp
  obtain ⟨j, hj, rfl⟩ := List.getElem_of_mem hq
  rcases Nat.lt_trichotomy i j with h1 | h1 | h1
  · have := List.pairwise_iff_getElem.1 hs i j hi hj h1; omega
  · subst h1; rfl
  · have := List.pairwise_iff_getElem.1 hs j i hj hi h1; omega

end Go.Proofs.Qxb6613717a
