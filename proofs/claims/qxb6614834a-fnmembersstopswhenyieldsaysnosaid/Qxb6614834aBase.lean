/- Slices of integers somewhere in memory; rows of one's own; what a step leaves as it was. -/
import Derived.Test.Qxb6614834aProg
import Derived.WalkKit
import Derived.WalkSpells
import Derived.WalkLawsBesides
import Derived.Outline
import Derived.Laws.CopyOwn
import Derived.Lib.VarintMem
import Derived.KernelRfl
import Derived.Deep.QuietTactic
import Derived.BigQuiet
import Derived.Below
import Derived.Deep.AppendLies
namespace Go.Proofs.Qxb6614834a
open Go.RowKit

/-- A slice value that reads, in w, as these cells (one an element). -/
def SeesV (w : World) (ao : Option Addr) (n cap : Nat) (xs : List Value) : Prop :=
  xs.length = n ∧ n ≤ cap ∧ cap ≤ maxLen ∧ (ao = none → n = 0 ∧ cap = 0) ∧ ∀ a, ao = some a → ∀ j u, xs[j]? = some u → w.cell? (a.add j) = some u

theorem SeesV.at {w : World} {ao : Option Addr} {n cap : Nat} {xs : List Value} (h : SeesV w ao n cap xs) (hp : 0 < n) : ∃ b o, ao = some ⟨b, o, none⟩ ∧ ∀ j u, xs[j]? = some u → w.cell? ⟨b, o + j, none⟩ = some u := by
  obtain ⟨h1, h2, h3, h4, h5⟩ := h
  cases ao with
  | none => have := (h4 rfl).1; omega
  | some a =>
    obtain ⟨b, off, spot⟩ := a
    have h0 := h5 _ rfl 0 (xs[0]'(by omega)) (List.getElem?_eq_getElem _)
    have hspot : spot = none := by simpa [Addr.add] using World.cell?_spot h0
    subst hspot
    exact ⟨b, off, rfl, fun j u hj => by rw [← Addr.add_lit]; exact h5 _ rfl j u hj⟩

theorem SeesV.kept {w w' : World} {n cap : Nat} {ao : Option Addr} {xs : List Value} (h : SeesV w ao n cap xs) (hg : w.grownBy w' none) : SeesV w' ao n cap xs :=
  ⟨h.1, h.2.1, h.2.2.1, h.2.2.2.1, fun a ha j u hu => hg.cell (h.2.2.2.2 a ha j u hu) (by simp)⟩

theorem SeesV.drewN {w : World} {n cap : Nat} {ao : Option Addr} {xs : List Value} (h : SeesV w ao n cap xs) (q : Nat) : SeesV (w.drewN q) ao n cap xs := h

theorem own_seesV {w : World} {lo e n cap : Nat} {ao : Option Addr} {xs : List Value} (h : w.ownsRow lo e 1 (.slice ao n cap) n xs) : SeesV w ao n cap xs := by
  have hx := h.1
  rcases h.2 with ⟨h1, h2⟩ | ⟨g, c, cur, h1, hg, _, hc, hm, _⟩
  · simp at h1
    exact ⟨by omega, by omega, by rw [h1.2.2]; exact Nat.zero_le _, fun _ => h1.2, fun a ha => by rw [h1.1] at ha; simp at ha⟩
  · simp at h1
    refine ⟨by omega, by omega, by omega, fun hn => by rw [h1.1] at hn; simp at hn, fun a ha j u hu => ?_⟩
    rw [h1.1] at ha
    obtain rfl := Option.some.inj ha
    exact h.cells (g := g) (by rw [h1.1]; rfl) j u hu

theorem seesV_nil (w : World) : SeesV w none 0 0 [] := ⟨rfl, Nat.le_refl _, Nat.zero_le _, fun _ => ⟨rfl, rfl⟩, fun a h => by simp at h⟩

/-- Integers of a kind, as cells. -/
def ints (k : IntKind) (zs : List Int) : List Value := zs.map (Value.int k)
def u32s (ss : List Nat) : List Value := ss.map fun s : Nat => Value.int .u32 (s : Int)
theorem ints_one (k : IntKind) (zs : List Int) : ∀ v ∈ ints k zs, v.oneCell' = true := by
  intro v hv
  simp only [ints, List.mem_map] at hv
  obtain ⟨_, _, rfl⟩ := hv
  rfl
theorem u32s_one (ss : List Nat) : ∀ v ∈ u32s ss, v.oneCell' = true := by
  intro v hv
  simp only [u32s, List.mem_map] at hv
  obtain ⟨_, _, rfl⟩ := hv
  rfl
theorem u32s_at {ss : List Nat} {j : Nat} (h : j < ss.length) : (u32s ss)[j]? = some (.int .u32 ((ss[j] : Nat) : Int)) := by
  simp [u32s, h]
theorem ints_at {k : IntKind} {zs : List Int} {j : Nat} (h : j < zs.length) : (ints k zs)[j]? = some (.int k zs[j]) := by
  simp [ints, h]
theorem u32s_len (ss : List Nat) : (u32s ss).length = ss.length := by simp [u32s]
theorem ints_len (k : IntKind) (zs : List Int) : (ints k zs).length = zs.length := by simp [ints]

/-- A call that answers a bool; where it says yes, p holds. -/
def YesIf (e : Ending) (p : Prop) : Prop := ∃ r, e = .returned (.bool r) ∧ (r = true → p)
theorem YesIf.yes {p : Prop} (h : p) : YesIf (.returned (.bool true)) p := ⟨true, rfl, fun _ => h⟩
theorem YesIf.no {p : Prop} : YesIf (.returned (.bool false)) p := ⟨false, rfl, fun h => by simp at h⟩

theorem info_parts {P : Program} {t : TypeId} {z : Option Value} {s b : Nat} (h : (P.info? t).map (fun i => (i.zero, i.size, i.bytes)) = some (z, s, b)) : ∃ i, P.info? t = some i ∧ i.zero = z ∧ i.size = s ∧ i.bytes = b := by
  cases hi : P.info? t with
  | none => simp [hi] at h
  | some i =>
    simp [hi] at h
    exact ⟨i, rfl, h⟩

theorem full_heap {w : World} {base e g n : Nat} {xs : List Value} (h : w.ownsRow base e 1 (.slice (some ⟨g, 0, none⟩) n n) n xs) : w.heap[g]? = some (.cells xs.toArray e (0, 0)) := by
  rcases h.2 with ⟨h1, _⟩ | ⟨g', cap, cur, h1, _, hh, _, _, hsz, htk⟩
  · simp at h1
  · simp only [Value.slice.injEq, Option.some.injEq, Addr.mk.injEq, and_true, true_and] at h1
    obtain ⟨rfl, rfl⟩ := h1
    rw [hh, ← htk]
    rw [List.take_of_length_le (by simp; omega)]

theorem full_own {w : World} {base e g n : Nat} {xs : List Value} (h : w.heap[g]? = some (.cells xs.toArray e (0, 0))) (hx : xs.length = n) (hb : base ≤ g) (hn : n ≤ maxLen) : w.ownsRow base e 1 (.slice (some ⟨g, 0, none⟩) n n) n xs :=
  ⟨by omega, .inr ⟨g, n, xs.toArray, rfl, hb, h, Nat.le_refl _, hn, by simp; omega, List.take_of_length_le (by simp; omega)⟩⟩

theorem splice_all {α : Type} (L cs : List α) (h : L.length = cs.length) : splice L 0 cs = cs := by
  simp [splice, h]

theorem ownsRow_base {w : World} {b b' : Nat} {e : TypeId} {size : Nat} {v : Value} {n : Nat} {xs : List Value} (h : w.ownsRow b e size v n xs) (hb : b' ≤ b) : w.ownsRow b' e size v n xs := by
  obtain ⟨h1, h2⟩ := h
  refine ⟨h1, ?_⟩
  rcases h2 with h2 | ⟨g, cap, cur, e1, hg, r⟩
  · exact .inl h2
  · exact .inr ⟨g, cap, cur, e1, Nat.le_trans hb hg, r⟩

theorem grownBy_none_trans {a b c : World} (h : a.grownBy b none) (k : b.grownBy c none) : a.grownBy c none :=
  ⟨k.os.trans h.os, k.tape.trans h.tape, k.output.trans h.output, Nat.le_trans h.size k.size, fun i hi _ => (k.block i (Nat.lt_of_lt_of_le hi h.size) (by simp)).trans (h.block i hi (by simp))⟩

theorem kept_none {w w' : World} {b e sz n : Nat} {v : Value} {xs : List Value} (h : w.ownsRow b e sz v n xs) (hg : w.grownBy w' none) : w'.ownsRow b e sz v n xs := h.kept hg (by cases v.ownBlock <;> simp)

theorem heap_kept {w w' : World} {r : Option Nat} (hg : w.grownBy w' r) {k : Nat} {o : Obj} (h : w.heap[k]? = some o) (hne : some k ≠ r) : w'.heap[k]? = some o :=
  (hg.block k (Array.getElem?_eq_some_iff.1 h).1 hne).trans h

/-- A row does not lie in a block of another kind. -/
theorem own_ne {w : World} {lo R e e' sz n : Nat} {v : Value} {xs : List Value} {cs : Array Value} {fr : Nat × Nat} (h : w.ownsRow lo e sz v n xs) (hR : w.heap[R]? = some (.cells cs e' fr)) (he : e' ≠ e) : v.ownBlock ≠ some R := by
  intro e1
  rcases h.2 with ⟨h1, _⟩ | ⟨g, c, cur, h1, _, hh, _⟩
  · rw [h1] at e1; simp [Value.ownBlock] at e1
  · rw [h1] at e1
    simp [Value.ownBlock] at e1
    subst e1
    rw [hh] at hR
    simp only [Option.some.injEq, Obj.cells.injEq] at hR
    exact he hR.2.1.symm

theorem grownBy_drewN (w : World) (q : Nat) (r : Option Nat) : w.grownBy (w.drewN q) r := ⟨rfl, rfl, rfl, Nat.le_refl _, fun _ _ _ => rfl⟩

end Go.Proofs.Qxb6614834a
