/- copy at elements of any size, onto a row that is known whole; two splices that insert. No program in this text. -/
import Derived.Test.Qxb6613717aOwn
import Derived.Laws.CopyOwn
namespace Go.Proofs.Qxb6613717a
open Go.RowKit

theorem run_copy_rowK {P : Program} (w : World) (dT sT ty elem : TypeId) (size g o dLen dCap : Nat) (a : Addr) (sLen sCap : Nat) (cur : List Value) (t : TypeId) (cs : List Value)
    (hu : P.underlying dT = some (.slice elem)) (hs : (P.info? elem).map (·.size) = some size)
    (hg : w.heap[g]? = some (.cells cur.toArray t (0, 0))) (hn : cs.length = Nat.min sLen dLen * size)
    (hsrc : ∀ j v, cs[j]? = some v → w.cell? (a.add j) = some v) (hfit : o + cs.length ≤ cur.length) (h1 : ∀ v ∈ cs, v.oneCell' = true) :
    (Builtin.copy_ #[dT, sT] ty #[.slice (some ⟨g, o, none⟩) dLen dCap, .slice (some a) sLen sCap]).run P w =
      .ok (goInt (Nat.min sLen dLen)) (w.setRow g (splice cur o cs).toArray) := by
  have hl := run_loadCells_list (P := P) w a cs hsrc
  have hst := run_storeCells_at P g o t cs 0 cur.toArray w hg (by simpa using hfit) h1
  cases hq : P.info? elem with
  | none => simp [hq] at hs
  | some i =>
    have hi : i.size = size := by simpa [hq] using hs
    simp [Builtin.copy_, run_underlying hu, Builtin.lenOf, Builtin.firstCells, sizeOf, typeInfo, hq, hi, ← hn, hl, hst, splice]

theorem grownBy_setRow {w : World} (g : Nat) (cs : Array Value) : w.grownBy (w.setRow g cs) (some g) :=
  ⟨rfl, rfl, rfl, by simp [World.setRow], fun k _ hk => setRow_other w g k cs (fun e => hk (by rw [e]))⟩

theorem wpList_copy_rowK {P : Program} {w : World} {ops : Array Oper} {rest : List Oper} {o : Oper} {a : Act} {Q : Exit → Act → World → Prop} (hgd : o.guard = none) (d s : Operand) (dT sT : TypeId)
    (ho : o.op = .call { callee := .builtin .copy, args := #[d, s], argTypes := #[dT, sT] }) (elem : TypeId) (size : Nat) (hu : P.underlying dT = some (.slice elem)) (hsz : (P.info? elem).map (·.size) = some size)
    (g off dLen dCap : Nat) (ad : Addr) (sLen sCap : Nat) (hd : a.eval d = .slice (some ⟨g, off, none⟩) dLen dCap) (hs : a.eval s = .slice (some ad) sLen sCap)
    (cur : List Value) (t : TypeId) (hg : w.heap[g]? = some (.cells cur.toArray t (0, 0))) (cs : List Value) (hn : cs.length = Nat.min sLen dLen * size)
    (hsrc : ∀ j v, cs[j]? = some v → w.cell? (ad.add j) = some v) (hfit : off + cs.length ≤ cur.length) (h1 : ∀ v ∈ cs, v.oneCell' = true)
    (h : ∀ w', Hid (w'.heap[g]? = some (.cells (splice cur off cs).toArray t (0, 0))) → w.grownBy w' (some g) → wpList P ops Q rest (a.put o.dst (goInt (Nat.min sLen dLen))) w') : wpList P ops Q (o :: rest) a w := by
  refine wpList_plain hgd fun K hK => ?_
  have hrun := run_copy_rowK (P := P) w dT sT o.type elem size g off dLen dCap ad sLen sCap cur t cs hu hsz hg hn hsrc hfit h1
  unfold Oper.wp
  simp [execOp, ho, resolve, invoke, builtin, hd, hs, hrun, Result.andThen]
  exact hK _ _ (h _ (setRow_heap w g _ _ t _ hg) (grownBy_setRow _ _))

theorem step_copy_rowK {P : Program} {ops : Array Oper} {o : Oper} {a : Act} {w : World} {K : Act → World → Prop} {Q : Exit → Act → World → Prop} {E : Prop} (hgd : o.guard = none) (d s : Operand) (dT sT : TypeId)
    (ho : o.op = .call { callee := .builtin .copy, args := #[d, s], argTypes := #[dT, sT] }) (elem : TypeId) (size : Nat) (hu : P.underlying dT = some (.slice elem)) (hsz : (P.info? elem).map (·.size) = some size)
    (g off dLen dCap : Nat) (ad : Addr) (sLen sCap : Nat) (hd : a.eval d = .slice (some ⟨g, off, none⟩) dLen dCap) (hs : a.eval s = .slice (some ad) sLen sCap)
    (cur : List Value) (t : TypeId) (hg : w.heap[g]? = some (.cells cur.toArray t (0, 0))) (cs : List Value) (hn : cs.length = Nat.min sLen dLen * size)
    (hsrc : ∀ j v, cs[j]? = some v → w.cell? (ad.add j) = some v) (hfit : off + cs.length ≤ cur.length) (h1 : ∀ v ∈ cs, v.oneCell' = true)
    (h : ∀ w', Hid (w'.heap[g]? = some (.cells (splice cur off cs).toArray t (0, 0))) → w.grownBy w' (some g) → K (a.put o.dst (goInt (Nat.min sLen dLen))) w') :
    if Region.wanted o (yielded ops a.tmps) = true then Oper.wp P o a w K Q else E := by
  have hw : Region.wanted o (yielded ops a.tmps) = true := by simp [Region.wanted, hgd]
  rw [if_pos hw]
  have hrun := run_copy_rowK (P := P) w dT sT o.type elem size g off dLen dCap ad sLen sCap cur t cs hu hsz hg hn hsrc hfit h1
  unfold Oper.wp
  simp [execOp, ho, resolve, invoke, builtin, hd, hs, hrun, Result.andThen]
  exact h _ (setRow_heap w g _ _ t _ hg) (grownBy_setRow _ _)

theorem take_splice {α : Type} (L cs : List α) (off : Nat) (h : off + cs.length ≤ L.length) : (splice L off cs).take (off + cs.length) = L.take off ++ cs := by
  unfold splice
  rw [← List.append_assoc]
  have e : (L.take off ++ cs).length = off + cs.length := by simp; omega
  rw [← e]
  exact List.take_left

/-- What stands ahead of a splice, or behind it, is as it was. -/
theorem splice_ahead {α : Type} (L cs : List α) (off n : Nat) (h : n ≤ off) (hl : off ≤ L.length) : (splice L off cs).take n = L.take n := by
  unfold splice
  rw [List.take_append_of_le_length (by simp; omega), List.take_take]
  congr 1
  omega

theorem splice_behind {α : Type} (L cs : List α) (off n : Nat) (h : off + cs.length ≤ n) (hl : off + cs.length ≤ L.length) : (splice L off cs).drop n = L.drop n := by
  unfold splice
  rw [← List.append_assoc, List.drop_append]
  have e : (L.take off ++ cs).length = off + cs.length := by simp; omega
  rw [e, List.drop_eq_nil_of_le (by omega), List.nil_append, List.drop_drop]
  congr 1
  omega

/-- 'copy(s2[i:], v); copy(s2[i+1:], s[i:])' on a new row whose head is there already. -/
theorem insert_grow {α : Type} (L A B C : List α) (p : Nat) (hA : L.take p = A) (hl : p + B.length + C.length ≤ L.length) :
    (splice (splice L p B) (p + B.length) C).take (p + B.length + C.length) = A ++ B ++ C := by
  rw [take_splice _ _ _ (by rw [length_splice _ _ _ (by omega)]; omega), take_splice _ _ _ (by omega), hA]

/-- 'copy(s[i+1:], s[i:]); copy(s[i:], v)' in place. -/
theorem insert_shift {α : Type} (L A B C : List α) (p : Nat) (hp : A.length = p) (hA : L.take p = A) (hl : p + B.length + C.length ≤ L.length) :
    (splice (splice L (p + B.length) C) p B).take (p + B.length + C.length) = A ++ B ++ C := by
  have h1 : (splice L (p + B.length) C).length = L.length := length_splice _ _ _ (by omega)
  have e : splice (splice L (p + B.length) C) p B = (A ++ B) ++ (splice L (p + B.length) C).drop (p + B.length) := by
    show (splice L (p + B.length) C).take p ++ (B ++ (splice L (p + B.length) C).drop (p + B.length)) = _
    rw [splice_ahead _ _ _ _ (by omega) (by omega), hA, List.append_assoc]
  have e2 : (splice L (p + B.length) C).drop (p + B.length) = C ++ L.drop (p + B.length + C.length) := by
    unfold splice
    rw [List.drop_append_of_le_length (by simp; omega), List.drop_eq_nil_of_le (by simp; omega), List.nil_append]
  rw [e, e2, ← List.append_assoc]
  have e3 : (A ++ B ++ C).length = p + B.length + C.length := by simp; omega
  rw [← e3]
  exact List.take_left

/-- A row of one's own out of its block. -/
theorem ownsRow_block {w : World} {e g n cap size : Nat} {xs : List Value} {v : Value} (hv : v = .slice (some ⟨g, 0, none⟩) n cap) (h : w.ownsRow 0 e size v n xs) :
    ∃ cur : List Value, w.heap[g]? = some (.cells cur.toArray e (0, 0)) ∧ cur.length = cap * size ∧ cur.take (n * size) = xs ∧ n ≤ cap ∧ cap ≤ maxLen ∧ xs.length = n * size := by
  subst hv
  rcases h.2 with ⟨h1, _⟩ | ⟨g', cap', cur, h1, _, hh, hnc, hcm, hsz, htk⟩
  · simp at h1
  · simp only [Value.slice.injEq, Option.some.injEq, Addr.mk.injEq, and_true, true_and] at h1
    obtain ⟨rfl, rfl⟩ := h1
    exact ⟨cur.toList, by simpa using hh, by simpa using hsz, htk, hnc, hcm, h.1⟩

theorem block_ownsRow {w : World} {e g n cap size : Nat} {xs cur : List Value} (hh : w.heap[g]? = some (.cells cur.toArray e (0, 0))) (hl : cur.length = cap * size) (ht : cur.take (n * size) = xs) (hnc : n ≤ cap) (hcm : cap ≤ maxLen) :
    w.ownsRow 0 e size (.slice (some ⟨g, 0, none⟩) n cap) n xs := by
  refine ⟨?_, .inr ⟨g, cap, cur.toArray, rfl, Nat.zero_le _, hh, hnc, hcm, by simpa using hl, by simpa using ht⟩⟩
  rw [← ht, List.length_take, hl]
  exact Nat.min_eq_left (Nat.mul_le_mul_right _ hnc)

end Go.Proofs.Qxb6613717a
