/- The plain law: what the first c members hold is what zzMatches asks for. -/
import Derived.Test.Qxb6614834aRun
namespace Go.Proofs.Qxb6614834a
open Go.RowKit
set_option linter.unusedVariables false

theorem mono_of {ss : List Nat} {m : Nat} (h : ∀ i, i + 1 < ss.length → ss.getD i 0 ≤ ss.getD (i + 1) 0) (hm : ss.length = m + 1) (i j : Nat) (hij : i ≤ j) (hj : j ≤ m) : ss.getD i 0 ≤ ss.getD j 0 := by
  induction j with
  | zero => obtain rfl : i = 0 := by omega
            exact Nat.le_refl _
  | succ j ih =>
    rcases Nat.lt_or_ge i (j + 1) with hi | hi
    · exact Nat.le_trans (ih (by omega) (by omega)) (h j (by omega))
    · obtain rfl : i = j + 1 := by omega
      exact Nat.le_refl _

theorem ksOf_get {c i : Nat} (h : i < c) : (ksOf c).getD i 0 = (i : Int) := by simp [ksOf, List.getD_eq_getElem?_getD, h]
theorem lsOf_get {ss : List Nat} {c i : Nat} (h : i < c) : (lsOf ss c).getD i 0 = (ss.getD (i + 1) 0 : Int) - (ss.getD i 0 : Int) := by
  simp only [lsOf, List.getD_eq_getElem?_getD, List.getElem?_map, List.getElem?_range h, Option.map_some, Option.getD_some]

theorem rsOf_len {rs : List R} {os : List Nat} {p : Nat} (h : p ≤ os.length) : (rsOf rs os p).length = p := by simp [rsOf]; omega

theorem rsOf_get {n : Nat} {zb zm zd zw zl : List Int} {os : List Nat} {p j : Nat} (f : R → Int) (hj : j < p) (hp : p ≤ os.length) (ho : ∀ j, j < os.length → os.getD j 0 < n) :
    ((rsOf (rowsOf n zb zm zd zw zl) os p).map f).getD j 0 = f ⟨zb.getD (os.getD j 0) 0, zm.getD (os.getD j 0) 0, zd.getD (os.getD j 0) 0, zw.getD (os.getD j 0) 0, zl.getD (os.getD j 0) 0⟩ := by
  have h1 : os[j]? = some (os.getD j 0) := by
    rw [List.getElem?_eq_getElem (show j < os.length by omega), List.getD_eq_getElem?_getD, List.getElem?_eq_getElem (show j < os.length by omega), Option.getD_some]
  rw [List.getD_eq_getElem?_getD, List.getElem?_map]
  simp only [rsOf, List.getElem?_map, List.getElem?_take]
  rw [if_pos hj, h1]
  simp only [Option.map_some, Option.getD_some]
  rw [rowsOf_get (ho j (by omega))]

theorem facts_of {n m c : Nat} {zb zm zd zw zl : List Int} {ss os : List Nat} (hn : n ≤ 32768) (hno : os.length ≤ 32768) (hs : ss.length ≤ 32768) (hm : ss.length = m + 1) (hc : c ≤ m) (G : Good n n n n n ss os) :
    MFacts c (ss.getD c 0) n os.length (ksOf c) (lsOf ss c) ((rsOf (rowsOf n zb zm zd zw zl) os (ss.getD c 0)).map (·.b)) ((rsOf (rowsOf n zb zm zd zw zl) os (ss.getD c 0)).map (·.m)) ((rsOf (rowsOf n zb zm zd zw zl) os (ss.getD c 0)).map (·.d)) ((rsOf (rowsOf n zb zm zd zw zl) os (ss.getD c 0)).map (·.w)) ((rsOf (rowsOf n zb zm zd zw zl) os (ss.getD c 0)).map (·.l)) zb zm zd zw zl ss os := by
  have hmono := mono_of G.mono hm
  have hl := G.last
  rw [hm, Nat.add_sub_cancel] at hl
  have ht : ss.getD c 0 ≤ os.length := by rw [← hl]; exact hmono c m hc (Nat.le_refl _)
  exact
    { hn := hn, hno := hno, hs := hs, hc := by omega, first := G.first, last := rfl
      mono := fun i j h1 h2 => hmono i j h1 (by omega)
      tno := ht, os_lt := G.rows
      k := fun i hi => ksOf_get hi
      l := fun i hi => lsOf_get hi
      b := fun j hj => rsOf_get (·.b) hj ht G.rows
      m := fun j hj => rsOf_get (·.m) hj ht G.rows
      d := fun j hj => rsOf_get (·.d) hj ht G.rows
      w := fun j hj => rsOf_get (·.w) hj ht G.rows
      ln := fun j hj => rsOf_get (·.l) hj ht G.rows }

theorem own_spot {w : World} {lo e sz n cap : Nat} {ao : Option Addr} {xs : List Value} (h : w.ownsRow lo e sz (.slice ao n cap) n xs) : ∀ a, ao = some a → a.spot = none := by
  intro a ha
  rcases h.2 with ⟨h1, _⟩ | ⟨g, c, cur, h1, _⟩
  · simp at h1; rw [h1.1] at ha; simp at ha
  · simp at h1; rw [h1.1] at ha; simp at ha; rw [← ha]

/-- The number of members that a yield with this stop takes is one only. -/
theorem want_one {m c d : Nat} {stop : Int} (hc : c ≤ m) (h1 : c = m ∨ (0 < c ∧ stop ≤ (c : Int))) (h2 : ∀ i : Nat, 0 < i → i < c → (i : Int) < stop)
    (hd : d ≤ m) (k1 : d = m ∨ (0 < d ∧ stop ≤ (d : Int))) (k2 : ∀ i : Nat, 0 < i → i < d → (i : Int) < stop) : c = d := by
  rcases Nat.lt_trichotomy c d with h | h | h
  · rcases h1 with h1 | ⟨h3, h4⟩
    · omega
    · have := k2 c h3 h; omega
  · exact h
  · rcases k1 with h1 | ⟨h3, h4⟩
    · omega
    · have := h2 d h3 h; omega

end Go.Proofs.Qxb6614834a
