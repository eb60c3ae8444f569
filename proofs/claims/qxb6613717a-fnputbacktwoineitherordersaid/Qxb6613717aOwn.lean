/-
  What an append leaves, with one word more than the kit's own law: WHERE the value lies behind it. No program in this text.
-/
import Derived.WalkKit
import Derived.ArgAppend
import Derived.Laws.AppendOwnNone
namespace Go.Proofs.Qxb6613717a
open Go.RowKit

/-- Behind the step the value lies where it lay, or in a block that was made since. -/
def Follows (w : World) (v v' : Value) : Prop := v'.ownBlock = v.ownBlock ∨ ∃ k, v'.ownBlock = some k ∧ w.heap.size ≤ k

theorem Follows.refl (w : World) (v : Value) : Follows w v v := .inl rfl

/-- One step of a value that is written on: only its own block, and new ones, have turned. -/
structure Step (w : World) (v : Value) (w' : World) (v' : Value) : Prop where
  grown : w.grownBy w' v.ownBlock
  follows : Follows w v v'

theorem Step.refl (w : World) (v : Value) : Step w v w v := ⟨World.grownBy.refl _ _, .refl _ _⟩

theorem Step.trans {w w1 w2 : World} {v v1 v2 : Value} (h : Step w v w1 v1) (k : Step w1 v1 w2 v2) : Step w v w2 v2 := by
  obtain ⟨g1, f1⟩ := h
  obtain ⟨g2, f2⟩ := k
  refine ⟨⟨g2.os.trans g1.os, g2.tape.trans g1.tape, g2.output.trans g1.output, Nat.le_trans g1.size g2.size, fun i hi hne => ?_⟩, ?_⟩
  · have h1 := g1.block i hi hne
    have h2 := g2.block i (Nat.lt_of_lt_of_le hi g1.size) (by
      intro e
      rcases f1 with f | ⟨k, f, hk⟩
      · exact hne (e.trans f)
      · rw [f] at e
        have := Option.some.inj e
        omega)
    exact h2.trans h1
  · rcases f2 with f | ⟨k, f, hk⟩
    · rcases f1 with f' | ⟨k, f', hk⟩
      · exact .inl (f.trans f')
      · exact .inr ⟨k, f.trans f', hk⟩
    · exact .inr ⟨k, f, Nat.le_trans g1.size hk⟩

/-- A new block ahead of a step. -/
theorem Step.alloc (w : World) (v : Value) (o : Obj) : Step w v (w.alloc o) v := ⟨World.grownBy_alloc _ _ _, .refl _ _⟩

theorem Step.drew (w : World) (v : Value) : Step w v w.drew v := ⟨⟨rfl, rfl, rfl, Nat.le_refl _, fun _ _ _ => rfl⟩, .refl _ _⟩

theorem ownsRow_base {w : World} {b b' : Nat} {e : TypeId} {size : Nat} {v : Value} {n : Nat} {xs : List Value} (h : w.ownsRow b e size v n xs) (hb : b' ≤ b) : w.ownsRow b' e size v n xs := by
  obtain ⟨h1, h2⟩ := h
  refine ⟨h1, ?_⟩
  rcases h2 with h2 | ⟨g, cap, cur, e1, hg, r⟩
  · exact .inl h2
  · exact .inr ⟨g, cap, cur, e1, Nat.le_trans hb hg, r⟩

theorem ownsRow_from {w : World} {b b' : Nat} {e : TypeId} {size : Nat} {v : Value} {n : Nat} {xs : List Value} (h : w.ownsRow b e size v n xs) (hb : ∀ k, v.ownBlock = some k → b' ≤ k) : w.ownsRow b' e size v n xs := by
  obtain ⟨h1, h2⟩ := h
  refine ⟨h1, ?_⟩
  rcases h2 with h2 | ⟨g, cap, cur, rfl, hg, r⟩
  · exact .inl h2
  · exact .inr ⟨g, cap, cur, rfl, hb g rfl, r⟩

/-- The run of an append onto a row of the call's own, whatever the source. -/
theorem run_append_step {P : Program} (w : World) (t ty e : TypeId) (i : TypeInfo) (z : Value) (size bytes : Nat) (ht : P.underlying t = some (.slice e)) (hi : P.info? e = some i) (hz : i.zero = some z)
    (hsize : i.size = size) (hby : i.bytes = bytes) (hzs : z.cells.size = size) (hsz : 0 < size)
    (v : Value) (n : Nat) (xs : List Value) (hown : w.ownsRow 0 e size v n xs)
    (ao : Option Addr) (m c : Nat) (news : List Value) (hl : news.length = m * size) (hnone : ao = none → m = 0 ∧ c = 0) (hnews : ∀ a, ao = some a → ∀ j u, news[j]? = some u → w.cell? (a.add j) = some u) (h1 : ∀ u ∈ news, u.oneCell' = true)
    (h63 : n + m ≤ maxLen) (hbytes : (n + m) * bytes ≤ 140737488355328) :
    ∃ v' w', (Builtin.append_ #[t, t] ty #[v, .slice ao m c]).run P w = .ok v' w' ∧ w'.ownsRow 0 e size v' (n + m) (xs ++ news) ∧ Step w v w' v' ∧
      (v' = .slice none 0 0 → v = .slice none 0 0 ∧ m = 0) := by
  cases ao with
  | none =>
    obtain ⟨rfl, rfl⟩ := hnone rfl
    obtain rfl : news = [] := List.eq_nil_of_length_eq_zero (by simpa using hl)
    exact ⟨v, w, run_append_owned_none (P := P) w 0 t ty e i size ht hi v n xs hown, by simpa using hown, .refl _ _, fun h => ⟨h, rfl⟩⟩
  | some a =>
    rcases hown.2 with ⟨rfl, rfl⟩ | ⟨g, cap, cur, rfl, hbg, hg, hnc, hcm, hcs, htake⟩
    · obtain rfl : xs = [] := List.eq_nil_of_length_eq_zero (by simpa using hown.1)
      obtain ⟨v', w', hr, h2, h3, h4⟩ := run_append_own (P := P) w w.heap.size t ty e i z size bytes ht hi hz hsize hby hzs hsz (.slice none 0 0) 0 [] (World.ownsRow_nil _ _ _ _) a m c news hl (hnews a rfl) h1 h63 hbytes (Nat.le_refl _)
      refine ⟨v', w', hr, ownsRow_base h2 (Nat.zero_le _), ⟨h3, ?_⟩, fun h => h4.1 h⟩
      rcases hv : v'.ownBlock with _ | k
      · exact .inl hv
      · exact .inr ⟨k, hv, (h2.lt k hv).1⟩
    · by_cases hroom : n + m ≤ cap
      · obtain ⟨w', hr, h2, h3⟩ := run_append_fits (P := P) w 0 t ty e i size ht hi hsize g n cap xs hown a m c news hl (hnews a rfl) h1 hroom
        exact ⟨_, w', hr, h2, ⟨h3, .inl rfl⟩, fun h => by simp at h⟩
      · obtain ⟨v', w', hr, h2, h3⟩ := run_append_arg_grows (P := P) w t ty e i z size bytes ht hi hz hsize hby hzs hsz ⟨g, 0, none⟩ n cap xs hown.1 (hown.cells (g := g) rfl) a m c news hl (hnews a rfl) (by omega) h63 hbytes
        refine ⟨v', w', hr, ownsRow_base h2 (Nat.zero_le _), ⟨⟨h3.os, h3.tape, h3.output, h3.size, fun k hk _ => h3.block k hk (by simp)⟩, ?_⟩, fun h => ?_⟩
        · rcases hv : v'.ownBlock with _ | k
          · rcases h2.2 with ⟨_, hn0⟩ | ⟨g', cap', cur', rfl, _⟩
            · omega
            · simp [Value.ownBlock] at hv
          · exact .inr ⟨k, hv, (h2.lt k hv).1⟩
        · subst h
          rcases h2.2 with ⟨_, hn0⟩ | ⟨g', cap', cur', h, _⟩
          · omega
          · simp at h

/-- For the walk. -/
theorem wpList_append_step {P : Program} {w : World} {ops : Array Oper} {rest : List Oper} {o : Oper} {a : Act} {Q : Exit → Act → World → Prop} (hgd : o.guard = none) (s x : Operand) (t : TypeId)
    (ho : o.op = .call { callee := .builtin .append, args := #[s, x], argTypes := #[t, t] })
    (e : TypeId) (i : TypeInfo) (z : Value) (size bytes : Nat) (ht : P.underlying t = some (.slice e)) (hi : P.info? e = some i) (hz : i.zero = some z)
    (hsize : i.size = size) (hby : i.bytes = bytes) (hzs : z.cells.size = size) (hsz : 0 < size)
    (v : Value) (n : Nat) (xs : List Value) (hs : a.eval s = v) (hown : w.ownsRow 0 e size v n xs)
    (ao : Option Addr) (m c : Nat) (news : List Value) (hx : a.eval x = .slice ao m c) (hl : news.length = m * size) (hnone : ao = none → m = 0 ∧ c = 0) (hnews : ∀ a, ao = some a → ∀ j u, news[j]? = some u → w.cell? (a.add j) = some u) (h1 : ∀ u ∈ news, u.oneCell' = true)
    (h63 : n + m ≤ maxLen) (hbytes : (n + m) * bytes ≤ 140737488355328)
    (h : ∀ v' w', w'.ownsRow 0 e size v' (n + m) (xs ++ news) → Step w v w' v' → (v' = .slice none 0 0 → v = .slice none 0 0 ∧ m = 0) → wpList P ops Q rest (a.put o.dst v') w') : wpList P ops Q (o :: rest) a w := by
  refine wpList_plain hgd fun K hK => ?_
  obtain ⟨v', w', hr, h2, h3, h4⟩ := run_append_step (P := P) w t o.type e i z size bytes ht hi hz hsize hby hzs hsz v n xs hown ao m c news hl hnone hnews h1 h63 hbytes
  unfold Oper.wp execOp
  simp only [ho, resolve, invoke, builtin, Sem.run_bind, Sem.run_pure, Result.andThen_ok, List.map_toArray, List.map_cons, List.map_nil, hs, hx, hr]
  exact hK _ _ (h v' w' h2 h3 h4)

end Go.Proofs.Qxb6613717a
