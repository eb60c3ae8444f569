/- A struct of slices that are all the call's own, and a push onto one of them. -/
import Derived.Test.Qxb6614834aExp
namespace Go.Proofs.Qxb6614834a
open Go.RowKit
set_option linter.unusedVariables false

/-- Below B, and in rows of 42, memory is as it was. -/
structure Keeps (B : Nat) (w w' : World) : Prop where
  below : Below B w w'
  rows : ∀ (k : Nat) (cs : Array Value) (fr : Nat × Nat), w.heap[k]? = some (.cells cs 42 fr) → w'.heap[k]? = some (.cells cs 42 fr)

theorem Keeps.refl (B : Nat) (w : World) : Keeps B w w := ⟨Below.refl _ _, fun _ _ _ h => h⟩
theorem Keeps.trans {B : Nat} {a b c : World} (h : Keeps B a b) (k : Keeps B b c) : Keeps B a c :=
  ⟨h.below.trans k.below, fun i cs fr hh => k.rows i cs fr (h.rows i cs fr hh)⟩
theorem Keeps.grown {B : Nat} {w w' : World} (h : w.grownBy w' none) (hB : B ≤ w.heap.size) : Keeps B w w' :=
  ⟨(Below.refl _ _).grown h hB (by simp), fun k cs fr hh => heap_kept h hh (by simp)⟩
theorem Keeps.drewN {B : Nat} (w : World) (q : Nat) : Keeps B w (w.drewN q) := ⟨⟨rfl, rfl, rfl, Nat.le_refl _, fun _ _ => rfl⟩, fun _ _ _ h => h⟩

/-- One slice of the struct. -/
structure Fld where
  e : Nat
  a : Option Addr
  c : Nat
  xs : List Value

def Fld.v (f : Fld) : Value := .slice f.a f.xs.length f.c

structure Bag (w : World) (B Y : Nat) (fs : List Fld) : Prop where
  base : B ≤ Y
  head : w.heap[Y]? = some (.cells (fs.map (·.v)).toArray 31 (0, 0))
  own : ∀ (a : Nat) (f : Fld), fs[a]? = some f → f.e ≠ 31 ∧ f.e ≠ 42 ∧ w.ownsRow B f.e 1 f.v f.xs.length f.xs
  apart : ∀ (a b : Nat) (f g : Fld), a ≠ b → fs[a]? = some f → fs[b]? = some g → ∀ k, f.v.ownBlock = some k → g.v.ownBlock ≠ some k

theorem own_lt {w : World} {B e n : Nat} {v : Value} {xs : List Value} (h : w.ownsRow B e 1 v n xs) {k : Nat} (hk : v.ownBlock = some k) : B ≤ k ∧ k < w.heap.size := h.lt k hk

theorem Bag.lt {w : World} {B Y : Nat} {fs : List Fld} (h : Bag w B Y fs) : Y < w.heap.size := (Array.getElem?_eq_some_iff.1 h.head).1

theorem Bag.grown {w w' : World} {B Y : Nat} {fs : List Fld} (h : Bag w B Y fs) (hg : w.grownBy w' none) : Bag w' B Y fs :=
  ⟨h.base, heap_kept hg h.head (by simp), fun a f hf => ⟨(h.own a f hf).1, (h.own a f hf).2.1, kept_none (h.own a f hf).2.2 hg⟩, h.apart⟩

theorem Bag.push {w w1 w2 : World} {B Y i g cap n : Nat} {fs : List Fld} {f : Fld} {x : Value} (h : Bag w B Y fs) (hi : fs[i]? = some f) (h1 : w.grownBy w1 none) (hn : f.xs.length + 1 = n)
    (hown : w2.ownsRow B f.e 1 (.slice (some ⟨g, 0, none⟩) n cap) n (f.xs ++ [x])) (hg : w1.grownBy w2 f.v.ownBlock) (hat : f.v.ownBlock = some g ∨ w.heap.size ≤ g) :
    Bag (w2.setCell ⟨Y, i, none⟩ (.slice (some ⟨g, 0, none⟩) n cap)) B Y (fs.set i ⟨f.e, some ⟨g, 0, none⟩, cap, f.xs ++ [x]⟩) ∧ Keeps B w (w2.setCell ⟨Y, i, none⟩ (.slice (some ⟨g, 0, none⟩) n cap)) := by
  obtain ⟨he1, he2, ho⟩ := h.own i f hi
  have hilt : i < fs.length := by
    rcases Nat.lt_or_ge i fs.length with hl | hl
    · exact hl
    · rw [List.getElem?_eq_none hl] at hi; simp at hi
  have hY : f.v.ownBlock ≠ some Y := own_ne ho h.head (fun e => he1 e.symm)
  have hY1 := heap_kept h1 h.head (by simp)
  have hY2 := heap_kept hg hY1 (fun e => hY e.symm)
  have hs := grownBy_setCell w2 ⟨Y, i, none⟩ (.slice (some ⟨g, 0, none⟩) n cap)
  have hBs : B ≤ w.heap.size := Nat.le_trans h.base (Nat.le_of_lt h.lt)
  refine ⟨⟨h.base, ?_, ?_, ?_⟩, ⟨?_, ?_⟩⟩
  · rw [set_at hY2]
    simp only [List.map_set]
    have e : (Fld.v ⟨f.e, some ⟨g, 0, none⟩, cap, f.xs ++ [x]⟩) = .slice (some ⟨g, 0, none⟩) n cap := by simp [Fld.v, hn]
    rw [e]
  · intro a f' hf'
    rw [List.getElem?_set] at hf'
    by_cases ha : i = a
    · rw [if_pos ha, if_pos (ha ▸ hilt)] at hf'
      obtain rfl := Option.some.inj hf'
      refine ⟨he1, he2, ?_⟩
      have e : (f.xs ++ [x]).length = n := by simp; exact hn
      show World.ownsRow _ B f.e 1 (.slice (some ⟨g, 0, none⟩) (f.xs ++ [x]).length cap) (f.xs ++ [x]).length (f.xs ++ [x])
      rw [e]
      exact hown.kept hs (.inr (own_ne hown hY2 (fun e => he1 e.symm)))
    · rw [if_neg ha] at hf'
      obtain ⟨k1, k2, ho'⟩ := h.own a f' hf'
      refine ⟨k1, k2, ?_⟩
      have o1 := kept_none ho' h1
      have o2 : w2.ownsRow B f'.e 1 f'.v f'.xs.length f'.xs := by
        refine o1.kept hg ?_
        rcases hfv : f'.v.ownBlock with _ | k
        · exact .inl rfl
        · exact .inr (fun e => h.apart a i f' f (fun e => ha e.symm) hf' hi k hfv e.symm)
      exact o2.kept hs (.inr (own_ne o2 hY2 (fun e => k1 e.symm)))
  · intro a b fa fb hab hfa hfb k hk
    rw [List.getElem?_set] at hfa hfb
    by_cases ha : i = a
    · rw [if_pos ha, if_pos (ha ▸ hilt)] at hfa
      obtain rfl := Option.some.inj hfa
      rw [if_neg (fun e => hab (ha.symm.trans e))] at hfb
      have hk' : g = k := by simpa [Fld.v, Value.ownBlock] using hk
      subst hk'
      intro e
      rcases hat with hat | hat
      · exact h.apart i b f fb (fun e => hab (ha.symm.trans e)) hi hfb _ hat e
      · have := (own_lt (h.own b fb hfb).2.2 e).2
        omega
    · rw [if_neg ha] at hfa
      by_cases hb : i = b
      · rw [if_pos hb, if_pos (hb ▸ hilt)] at hfb
        obtain rfl := Option.some.inj hfb
        intro e
        have hk' : g = k := by simpa [Fld.v, Value.ownBlock] using e
        subst hk'
        rcases hat with hat | hat
        · exact h.apart a i fa f (fun e => ha e.symm) hfa hi _ hk hat
        · have := (own_lt (h.own a fa hfa).2.2 hk).2
          omega
      · rw [if_neg hb] at hfb
        exact h.apart a b fa fb hab hfa hfb k hk
  · refine Below.setCell ?_ h.base _
    refine ((Below.refl B w).grown h1 hBs (by simp)).grown hg (Nat.le_trans hBs h1.size) (fun k hk => (own_lt ho hk).1)
  · intro k cs fr hk
    have k1 := heap_kept h1 hk (by simp)
    have hne : f.v.ownBlock ≠ some k := own_ne ho hk (fun e => he2 e.symm)
    have k2 := heap_kept hg k1 (fun e => hne e.symm)
    refine (Below.heap_setCell _ _ _ _ ?_).trans k2
    rintro rfl
    rw [h.head] at hk
    simp at hk

/-- What a push leaves ahead of the store. -/
structure Pushed (w : World) (B Y i : Nat) (fs : List Fld) (f : Fld) (x : Value) (g cap : Nat) (w2 : World) : Prop where
  cell : w2.cell? ⟨Y, i, none⟩ = some f.v
  free : w2.frozen? ⟨Y, i, none⟩ = false
  bag : Bag (w2.setCell ⟨Y, i, none⟩ (.slice (some ⟨g, 0, none⟩) (f.xs.length + 1) cap)) B Y (fs.set i ⟨f.e, some ⟨g, 0, none⟩, cap, f.xs ++ [x]⟩)
  keeps : Keeps B w (w2.setCell ⟨Y, i, none⟩ (.slice (some ⟨g, 0, none⟩) (f.xs.length + 1) cap))
  far : ∀ (k o : Nat) (cs : Array Value) (fr : Nat × Nat) (u : Value), w.heap[k]? = some (.cells cs 42 fr) → cs[o]? = some u → w2.cell? ⟨k, o, none⟩ = some u

theorem wp_push {o : Oper} {a : Act} {K : Act → World → Prop} {Q : Exit → Act → World → Prop} (s y : Operand) (t : TypeId)
    (ho : o.op = .call { callee := .builtin .append, args := #[s, y], argTypes := #[t, t] }) (w w1 : World) (B Y i : Nat) (fs : List Fld) (f : Fld) (x : Value) (z : Value) (bytes : Nat) (hu : Try.prog.underlying t = some (.slice f.e))
    (hinfo : (Try.prog.info? f.e).map (fun i => (i.zero, i.size, i.bytes)) = some (some z, 1, bytes)) (hz : z.cells.size = 1) (hby : bytes ≤ 8)
    (h : Bag w B Y fs) (hi : fs[i]? = some f) (h1 : w.grownBy w1 none) (H : Nat) (hH : w.heap.size ≤ H) (te : TypeId) (hx : w1.heap[H]? = some (.cells #[x] te (0, 0))) (hx1 : x.oneCell' = true) (hlen : f.xs.length ≤ 1048576)
    (hs : a.eval s = f.v) (hy : a.eval y = .slice (some ⟨H, 0, none⟩) 1 1)
    (hK : ∀ g cap w2, Pushed w B Y i fs f x g cap w2 → K (a.put o.dst (.slice (some ⟨g, 0, none⟩) (f.xs.length + 1) cap)) w2) : o.wp Try.prog a w1 K Q := by
  obtain ⟨i0, hi0, hz0, hz1, hz2⟩ := info_parts hinfo
  have ho1 := kept_none (h.own i f hi).2.2 h1
  have hBs : B ≤ w.heap.size := Nat.le_trans h.base (Nat.le_of_lt h.lt)
  refine wp_append_lies w1 s y t ho B f.e i0 z 1 bytes hu hi0 hz0 hz1 hz2 hz (by decide) f.v f.xs.length f.xs hs ho1 ⟨H, 0, none⟩ 1 1 [x] hy rfl (World.news_of_block (cs := #[x]) hx) (by simpa using hx1) (by decide) (by unfold maxLen; omega) ?_ (Nat.le_trans hBs h1.size) w1.heap.size rfl (fun g cap w2 hown hg hat hlt => ?_)
  · have : (f.xs.length + 1) * bytes ≤ (f.xs.length + 1) * 8 := Nat.mul_le_mul_left _ hby
    omega
  · have hY : f.v.ownBlock ≠ some Y := own_ne (h.own i f hi).2.2 h.head (fun e => (h.own i f hi).1 e.symm)
    have hY2 := heap_kept hg (heap_kept h1 h.head (by simp)) (fun e => hY e.symm)
    have hc := cell_mid (k := i) (v := f.v) hY2 (by simp [hi])
    have hp := Bag.push h hi h1 rfl hown hg (by rcases hat with e | e; exact .inl e; exact .inr (by rw [e]; exact h1.size))
    refine hK g cap w2 ⟨hc.1, hc.2, hp.1, hp.2, fun k o cs fr u hk hu => ?_⟩
    have k1 := heap_kept h1 hk (by simp)
    have hne : f.v.ownBlock ≠ some k := own_ne (h.own i f hi).2.2 hk (fun e => (h.own i f hi).2.1 e.symm)
    have k2 := heap_kept hg k1 (fun e => hne e.symm)
    simp only [World.cell?, k2]
    simpa using hu

theorem wpList_push {ops : Array Oper} {rest : List Oper} {o : Oper} {a : Act} {Q : Exit → Act → World → Prop} (hgd : o.guard = none) (s y : Operand) (t : TypeId)
    (ho : o.op = .call { callee := .builtin .append, args := #[s, y], argTypes := #[t, t] }) (w w1 : World) (B Y i : Nat) (fs : List Fld) (f : Fld) (x : Value) (z : Value) (bytes : Nat) (hu : Try.prog.underlying t = some (.slice f.e))
    (hinfo : (Try.prog.info? f.e).map (fun i => (i.zero, i.size, i.bytes)) = some (some z, 1, bytes)) (hz : z.cells.size = 1) (hby : bytes ≤ 8)
    (h : Bag w B Y fs) (hi : fs[i]? = some f) (h1 : w.grownBy w1 none) (H : Nat) (hH : w.heap.size ≤ H) (te : TypeId) (hx : w1.heap[H]? = some (.cells #[x] te (0, 0))) (hx1 : x.oneCell' = true) (hlen : f.xs.length ≤ 1048576)
    (hs : a.eval s = f.v) (hy : a.eval y = .slice (some ⟨H, 0, none⟩) 1 1)
    (hK : ∀ g cap w2, Pushed w B Y i fs f x g cap w2 → wpList Try.prog ops Q rest (a.put o.dst (.slice (some ⟨g, 0, none⟩) (f.xs.length + 1) cap)) w2) : wpList Try.prog ops Q (o :: rest) a w1 :=
  wpList_plain hgd fun _ hK' => wp_push s y t ho w w1 B Y i fs f x z bytes hu hinfo hz hby h hi h1 H hH te hx hx1 hlen hs hy (fun g cap w2 hp => hK' _ _ (hK g cap w2 hp))

theorem step_push {ops : Array Oper} {o : Oper} {a : Act} {K : Act → World → Prop} {Q : Exit → Act → World → Prop} {E : Prop} (hgd : o.guard = none) (s y : Operand) (t : TypeId)
    (ho : o.op = .call { callee := .builtin .append, args := #[s, y], argTypes := #[t, t] }) (w w1 : World) (B Y i : Nat) (fs : List Fld) (f : Fld) (x : Value) (z : Value) (bytes : Nat) (hu : Try.prog.underlying t = some (.slice f.e))
    (hinfo : (Try.prog.info? f.e).map (fun i => (i.zero, i.size, i.bytes)) = some (some z, 1, bytes)) (hz : z.cells.size = 1) (hby : bytes ≤ 8)
    (h : Bag w B Y fs) (hi : fs[i]? = some f) (h1 : w.grownBy w1 none) (H : Nat) (hH : w.heap.size ≤ H) (te : TypeId) (hx : w1.heap[H]? = some (.cells #[x] te (0, 0))) (hx1 : x.oneCell' = true) (hlen : f.xs.length ≤ 1048576)
    (hs : a.eval s = f.v) (hy : a.eval y = .slice (some ⟨H, 0, none⟩) 1 1)
    (hK : ∀ g cap w2, Pushed w B Y i fs f x g cap w2 → K (a.put o.dst (.slice (some ⟨g, 0, none⟩) (f.xs.length + 1) cap)) w2) :
    if Region.wanted o (yielded ops a.tmps) = true then Oper.wp Try.prog o a w1 K Q else E := by
  have hw : Region.wanted o (yielded ops a.tmps) = true := by simp [Region.wanted, hgd]
  rw [if_pos hw]
  exact wp_push s y t ho w w1 B Y i fs f x z bytes hu hinfo hz hby h hi h1 H hH te hx hx1 hlen hs hy hK

end Go.Proofs.Qxb6614834a
