/- What was put back stays where it is. -/
import Derived.Test.Qxb6613717aClones
import Derived.Test.Qxb6613717aPlain
namespace Go.Proofs.Qxb6613717a
open Go.RowKit

theorem Put.heap {w w' : World} {L n cap k e : Nat} {ao ao' : Option Addr} {fv : Value} {B : Int} {es : List Ent} {cs : Array Value} {fr : Nat × Nat} (hp : Put w L ao w' ao') (hr : Ready w L ao n cap fv B es) (h : w.heap[k]? = some (.cells cs e fr)) (h1 : e ≠ 65) (h2 : e ≠ 68) : w'.heap[k]? = some (.cells cs e fr) := by
  have hk : k < w.heap.size := (Array.getElem?_eq_some_iff.1 h).1
  refine (hp.block k hk ?_ (row_ne hr.row h h1)).trans h
  rintro rfl
  rw [hr.head] at h
  simp only [Option.some.injEq, Obj.cells.injEq] at h
  exact h2 h.2.1.symm

theorem Put.own {w w' : World} {L n cap e sz m b : Nat} {ao ao' : Option Addr} {fv v : Value} {B : Int} {es : List Ent} {xs : List Value} (hp : Put w L ao w' ao') (hr : Ready w L ao n cap fv B es) (h : w.ownsRow b e sz v m xs) (h1 : e ≠ 65) (h2 : e ≠ 68) : w'.ownsRow b e sz v m xs := by
  obtain ⟨hx, hh⟩ := h
  refine ⟨hx, ?_⟩
  rcases hh with h | ⟨g, c, cur, e1, hb, hh, r⟩
  · exact .inl h
  · exact .inr ⟨g, c, cur, e1, hb, hp.heap hr hh h1 h2, r⟩

theorem Put.ownBs {w w' : World} {L n cap m c : Nat} {ao ao' bo : Option Addr} {fv : Value} {B : Int} {es : List Ent} {bs : List Body} (hp : Put w L ao w' ao') (hr : Ready w L ao n cap fv B es) (h : OwnBs w bo m c bs) : OwnBs w' bo m c bs :=
  ⟨hp.own hr h.row (by decide) (by decide), fun b hb => hp.own hr (h.each b hb) (by decide) (by decide)⟩

theorem Put.below {w w' : World} {L N : Nat} {ao ao' : Option Addr} (hp : Put w L ao w' ao') (hN : N ≤ w.heap.size) (hL : N ≤ L) (ha : ∀ a, ao = some a → N ≤ a.block) : Below N w w' :=
  ⟨hp.os, hp.tape, hp.output, hp.size, fun k hk => hp.block k (by omega) (by omega) (by
    cases ao with
    | none => simp
    | some a => have := ha a rfl; simp; omega)⟩

/-- What an entry stands for. -/
structure Spec where
  seq : Nat
  red : Bool
  exp : Int
  l : List UInt8

/-- The entry x stands for sp: its seq and marks, and a message whose body is sp's bytes. -/
def Filed (w : World) (x : Ent) (sp : Spec) : Prop :=
  x.seq = sp.seq ∧ x.red = sp.red ∧ x.exp = sp.exp ∧ ∃ b : Body, w.heap[x.msg]? = some (.cells (msgCells b.ao b.n b.cap) 63 (0, 0)) ∧ OwnB w b ∧ b.l = sp.l

theorem Filed.put {w w' : World} {L n cap : Nat} {ao ao' : Option Addr} {fv : Value} {B : Int} {es : List Ent} {x : Ent} {sp : Spec} (hp : Put w L ao w' ao') (hr : Ready w L ao n cap fv B es) (h : Filed w x sp) : Filed w' x sp := by
  obtain ⟨h1, h2, h3, b, hb, ho, hl⟩ := h
  exact ⟨h1, h2, h3, b, hp.heap hr hb (by decide) (by decide), hp.own hr ho (by decide) (by decide), hl⟩

theorem Filed.grown {w w' : World} {x : Ent} {sp : Spec} (hg : w.grownBy w' none) (h : Filed w x sp) : Filed w' x sp := by
  obtain ⟨h1, h2, h3, b, hb, ho, hl⟩ := h
  exact ⟨h1, h2, h3, b, heap_kept hg hb (by simp), ho.kept hg, hl⟩

theorem Filed.drewN {w : World} {x : Ent} {sp : Spec} (q : Nat) (h : Filed w x sp) : Filed (w.drewN q) x sp := h

/-- Entries, in the order in which they were put back, and what they stand for. -/
def FiledAll (w : World) (hist : List Ent) (sps : List Spec) : Prop := hist.length = sps.length ∧ ∀ (j : Nat) (x : Ent) (sp : Spec), hist[j]? = some x → sps[j]? = some sp → Filed w x sp

theorem FiledAll.nil (w : World) : FiledAll w [] [] := ⟨rfl, fun j x sp h => by simp at h⟩

theorem FiledAll.snoc {w : World} {hist : List Ent} {sps : List Spec} {x : Ent} {sp : Spec} (h : FiledAll w hist sps) (hx : Filed w x sp) : FiledAll w (hist ++ [x]) (sps ++ [sp]) := by
  refine ⟨by simp [h.1], fun j y sq hy hq => ?_⟩
  by_cases hj : j < hist.length
  · rw [List.getElem?_append_left hj] at hy
    rw [List.getElem?_append_left (by rw [← h.1]; exact hj)] at hq
    exact h.2 j y sq hy hq
  · rw [List.getElem?_append_right (by omega)] at hy
    rw [List.getElem?_append_right (by rw [← h.1]; omega), ← h.1] at hq
    by_cases h0 : j - hist.length = 0
    · rw [h0] at hy hq
      simp at hy hq
      rw [← hy, ← hq]
      exact hx
    · rw [List.getElem?_eq_none (by simp; omega)] at hy
      simp at hy

theorem FiledAll.put {w w' : World} {L n cap : Nat} {ao ao' : Option Addr} {fv : Value} {B : Int} {es : List Ent} {hist : List Ent} {sps : List Spec} (hp : Put w L ao w' ao') (hr : Ready w L ao n cap fv B es) (h : FiledAll w hist sps) : FiledAll w' hist sps :=
  ⟨h.1, fun j x sp hx hs => (h.2 j x sp hx hs).put hp hr⟩

theorem FiledAll.grown {w w' : World} {hist : List Ent} {sps : List Spec} (hg : w.grownBy w' none) (h : FiledAll w hist sps) : FiledAll w' hist sps :=
  ⟨h.1, fun j x sp hx hs => (h.2 j x sp hx hs).grown hg⟩

/-- ZZputBack of a clone: told as a whole. -/
theorem zzput_filed (L n cap : Nat) (ao : Option Addr) (fv : Value) (B exp : Int) (red : Bool) (s : Nat) (b : Body) (es : List Ent) (w : World) (hr : Ready w L ao n cap fv B es) (hn : n ≤ 1048575) (hs : Sorted es) (hB : 0 ≤ B) (hB' : B ≤ 4398046511104) (hbn : b.n ≤ 1048576) (ho : OwnB w b) :
    Calls Try.prog 16 #[.pointer (some ⟨L, 0, none⟩), .int .u64 s, .bool red, .int .i64 exp, .slice b.ao b.n b.cap] w fun e w' => e = .returned (.tuple #[]) ∧
      ∃ ao' cap' x, Ready w' L ao' (n + 1) cap' fv (B + b.n) (put es x) ∧ Put w L ao w' ao' ∧ Filed w' x ⟨s, red, exp, b.l⟩ := by
  refine (zzput_any L n cap b.n b.cap s ao b.ao fv B exp red es w hr hn hs hB hB' hbn).mono ?_
  rintro e w' ⟨rfl, ao', cap', hr', hp, hm⟩
  exact ⟨rfl, ao', cap', ⟨s, w.heap.size, red, exp⟩, hr', hp, rfl, rfl, rfl, b, hm, hp.own hr ho (by decide) (by decide), rfl⟩

end Go.Proofs.Qxb6613717a
