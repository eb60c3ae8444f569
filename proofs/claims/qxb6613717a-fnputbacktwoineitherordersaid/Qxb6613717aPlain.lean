/- Plain facts on sorted lists of entries. No program in this text. -/
import Derived.Test.Qxb6613717aSearch
namespace Go.Proofs.Qxb6613717a

/-- The list with x at its place. -/
def put (es : List Ent) (x : Ent) : List Ent := es.take (ahead es x.seq) ++ [x] ++ es.drop (ahead es x.seq)

theorem put_length (es : List Ent) (x : Ent) : (put es x).length = es.length + 1 := by
  have := ahead_le es x.seq
  simp [put]
  omega

theorem put_perm (es : List Ent) (x : Ent) : (put es x).Perm (x :: es) := by
  unfold put
  have h : (es.take (ahead es x.seq) ++ ([x] ++ es.drop (ahead es x.seq))).Perm ([x] ++ (es.take (ahead es x.seq) ++ es.drop (ahead es x.seq))) := by
    rw [← List.append_assoc, ← List.append_assoc]
    exact List.Perm.append_right _ List.perm_append_comm
  rw [List.append_assoc]
  rw [List.take_append_drop] at h
  exact h

theorem ahead_cons_lt {e : Ent} {es : List Ent} {t : Nat} (h : e.seq < t) : ahead (e :: es) t = ahead es t + 1 := by simp [ahead, h]

theorem sorted_tail_ge {e : Ent} {es : List Ent} {t : Nat} (hs : Sorted (e :: es)) (h : t ≤ e.seq) : ahead (e :: es) t = 0 := by
  unfold ahead
  rw [List.countP_eq_zero]
  intro y hy
  rcases List.mem_cons.1 hy with rfl | hy
  · simpa using h
  · have := (List.pairwise_cons.1 hs).1 y hy
    simp
    omega

theorem put_sorted : ∀ (es : List Ent) (x : Ent), Sorted es → (∀ y ∈ es, y.seq ≠ x.seq) → Sorted (put es x)
  | [], x, _, _ => by
    simp [put, ahead, Sorted]
  | e :: es, x, hs, hne => by
    by_cases h : e.seq < x.seq
    · have e1 : put (e :: es) x = e :: put es x := by
        unfold put
        rw [ahead_cons_lt h]
        simp
      rw [e1]
      have ih := put_sorted es x (List.pairwise_cons.1 hs).2 (fun y hy => hne y (List.mem_cons_of_mem _ hy))
      refine List.pairwise_cons.2 ⟨fun y hy => ?_, ih⟩
      rcases List.mem_cons.1 ((put_perm es x).mem_iff.1 hy) with rfl | hy
      · exact h
      · exact (List.pairwise_cons.1 hs).1 y hy
    · have hx : x.seq < e.seq := by
        have := hne e (by simp)
        omega
      have e1 : put (e :: es) x = x :: e :: es := by
        unfold put
        rw [sorted_tail_ge hs (by omega)]
        simp
      rw [e1]
      refine List.pairwise_cons.2 ⟨fun y hy => ?_, hs⟩
      rcases List.mem_cons.1 hy with rfl | hy
      · exact hx
      · have := (List.pairwise_cons.1 hs).1 y hy
        omega

/-- In a sorted list each entry stands where as many stand ahead. -/
theorem at_ahead : ∀ (es : List Ent) (x : Ent), Sorted es → x ∈ es → es[ahead es x.seq]? = some x
  | [], x, _, h => by simp at h
  | e :: es, x, hs, h => by
    rcases List.mem_cons.1 h with rfl | h
    · rw [sorted_tail_ge hs (Nat.le_refl _)]
      rfl
    · have h1 := (List.pairwise_cons.1 hs).1 x h
      rw [ahead_cons_lt h1]
      simpa using at_ahead es x (List.pairwise_cons.1 hs).2 h

theorem ahead_perm {es es' : List Ent} (h : es.Perm es') (t : Nat) : ahead es t = ahead es' t := h.countP_eq _

end Go.Proofs.Qxb6613717a
