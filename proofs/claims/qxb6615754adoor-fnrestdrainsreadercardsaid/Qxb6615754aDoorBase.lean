/- Slices of integers somewhere in memory; rows of one's own; what a step leaves as it was. -/
import Derived.Test.Qxb6615754aDoorProg
import Derived.WalkKit
import Derived.WalkSpells
import Derived.WalkLawsBesides
import Derived.Outline
import Derived.Laws.CopyOwn
import Derived.Lib.VarintMem
import Derived.KernelRfl
import Derived.Deep.QuietTactic
import Derived.BigQuiet
import Derived.Below
import Derived.Deep.DeepCutAuto
import Derived.Deep.RegionHeld3
namespace Go.Proofs.Qxb6615754aDoor
open Go.RowKit

/-- A slice value that reads, in w, as these cells (one an element). -/
def SeesV (w : World) (ao : Option Addr) (n cap : Nat) (xs : List Value) : Prop :=
  xs.length = n ∧ n ≤ cap ∧ cap ≤ maxLen ∧ (ao = none → n = 0 ∧ cap = 0) ∧ ∀ a, ao = some a → ∀ j u, xs[j]? = some u → w.cell? (a.add j) = some u

theorem SeesV.at {w : World} {ao : Option Addr} {n cap : Nat} {xs : List Value} (h : SeesV w ao n cap xs) (hp : 0 < n) : ∃ b o, ao = some ⟨b, o, none⟩ ∧ ∀ j u, xs[j]? = some u → w.cell? ⟨b, o + j, none⟩ = some u := by
  obtain ⟨h1, h2, h3, h4, h5⟩ := h
  cases ao with
  | none => have := (h4 rfl).1; omega
  | some a =>
    obtain ⟨b, off, spot⟩ := a
    have h0 := h5 _ rfl 0 (xs[0]'(by omega)) (List.getElem?_eq_getElem _)
    have hspot : spot = none := by simpa [Addr.add] using World.cell?_spot h0
    subst hspot
    exact ⟨b, off, rfl, fun j u hj => by rw [← Addr.add_lit]; exact h5 _ rfl j u hj⟩

theorem SeesV.kept {w w' : World} {n cap : Nat} {ao : Option Addr} {xs : List Value} (h : SeesV w ao n cap xs) (hg : w.grownBy w' none) : SeesV w' ao n cap xs :=
  ⟨h.1, h.2.1, h.2.2.1, h.2.2.2.1, fun a ha j u hu => hg.cell (h.2.2.2.2 a ha j u hu) (by simp)⟩

theorem SeesV.drewN {w : World} {n cap : Nat} {ao : Option Addr} {xs : List Value} (h : SeesV w ao n cap xs) (q : Nat) : SeesV (w.drewN q) ao n cap xs := h

theorem own_seesV {w : World} {lo e n cap : Nat} {ao : Option Addr} {xs : List Value} (h : w.ownsRow lo e 1 (.slice ao n cap) n xs) : SeesV w ao n cap xs := by
  have hx := h.1
  rcases h.2 with ⟨h1, h2⟩ | ⟨g, c, cur, h1, hg, _, hc, hm, _⟩
  · simp at h1
    exact ⟨by omega, by omega, by rw [h1.2.2]; exact Nat.zero_le _, fun _ => h1.2, fun a ha => by rw [h1.1] at ha; simp at ha⟩
  · simp at h1
    refine ⟨by omega, by omega, by omega, fun hn => by rw [h1.1] at hn; simp at hn, fun a ha j u hu => ?_⟩
    rw [h1.1] at ha
    obtain rfl := Option.some.inj ha
    exact h.cells (g := g) (by rw [h1.1]; rfl) j u hu

theorem seesV_nil (w : World) : SeesV w none 0 0 [] := ⟨rfl, Nat.le_refl _, Nat.zero_le _, fun _ => ⟨rfl, rfl⟩, fun a h => by simp at h⟩

/-- Integers of a kind, as cells. -/
def ints (k : IntKind) (zs : List Int) : List Value := zs.map (Value.int k)
theorem ints_one (k : IntKind) (zs : List Int) : ∀ v ∈ ints k zs, v.oneCell' = true := by
  intro v hv
  simp only [ints, List.mem_map] at hv
  obtain ⟨_, _, rfl⟩ := hv
  rfl
theorem ints_at {k : IntKind} {zs : List Int} {j : Nat} (h : j < zs.length) : (ints k zs)[j]? = some (.int k zs[j]) := by
  simp [ints, h]
theorem ints_len (k : IntKind) (zs : List Int) : (ints k zs).length = zs.length := by simp [ints]

/-- A call that answers a bool; where it says yes, p holds. -/
def YesIf (e : Ending) (p : Prop) : Prop := ∃ r, e = .returned (.bool r) ∧ (r = true → p)
theorem YesIf.yes {p : Prop} (h : p) : YesIf (.returned (.bool true)) p := ⟨true, rfl, fun _ => h⟩
theorem YesIf.no {p : Prop} : YesIf (.returned (.bool false)) p := ⟨false, rfl, fun h => by simp at h⟩

theorem info_parts {P : Program} {t : TypeId} {z : Option Value} {s b : Nat} (h : (P.info? t).map (fun i => (i.zero, i.size, i.bytes)) = some (z, s, b)) : ∃ i, P.info? t = some i ∧ i.zero = z ∧ i.size = s ∧ i.bytes = b := by
  cases hi : P.info? t with
  | none => simp [hi] at h
  | some i =>
    simp [hi] at h
    exact ⟨i, rfl, h⟩

theorem full_heap {w : World} {base e g n : Nat} {xs : List Value} (h : w.ownsRow base e 1 (.slice (some ⟨g, 0, none⟩) n n) n xs) : w.heap[g]? = some (.cells xs.toArray e (0, 0)) := by
  rcases h.2 with ⟨h1, _⟩ | ⟨g', cap, cur, h1, _, hh, _, _, hsz, htk⟩
  · simp at h1
  · simp only [Value.slice.injEq, Option.some.injEq, Addr.mk.injEq, and_true, true_and] at h1
    obtain ⟨rfl, rfl⟩ := h1
    rw [hh, ← htk]
    rw [List.take_of_length_le (by simp; omega)]

theorem full_own {w : World} {base e g n : Nat} {xs : List Value} (h : w.heap[g]? = some (.cells xs.toArray e (0, 0))) (hx : xs.length = n) (hb : base ≤ g) (hn : n ≤ maxLen) : w.ownsRow base e 1 (.slice (some ⟨g, 0, none⟩) n n) n xs :=
  ⟨by omega, .inr ⟨g, n, xs.toArray, rfl, hb, h, Nat.le_refl _, hn, by simp; omega, List.take_of_length_le (by simp; omega)⟩⟩

theorem splice_all {α : Type} (L cs : List α) (h : L.length = cs.length) : splice L 0 cs = cs := by
  simp [splice, h]

theorem ownsRow_base {w : World} {b b' : Nat} {e : TypeId} {size : Nat} {v : Value} {n : Nat} {xs : List Value} (h : w.ownsRow b e size v n xs) (hb : b' ≤ b) : w.ownsRow b' e size v n xs := by
  obtain ⟨h1, h2⟩ := h
  refine ⟨h1, ?_⟩
  rcases h2 with h2 | ⟨g, cap, cur, e1, hg, r⟩
  · exact .inl h2
  · exact .inr ⟨g, cap, cur, e1, Nat.le_trans hb hg, r⟩

theorem grownBy_none_trans {a b c : World} (h : a.grownBy b none) (k : b.grownBy c none) : a.grownBy c none :=
  ⟨k.os.trans h.os, k.tape.trans h.tape, k.output.trans h.output, Nat.le_trans h.size k.size, fun i hi _ => (k.block i (Nat.lt_of_lt_of_le hi h.size) (by simp)).trans (h.block i hi (by simp))⟩

theorem kept_none {w w' : World} {b e sz n : Nat} {v : Value} {xs : List Value} (h : w.ownsRow b e sz v n xs) (hg : w.grownBy w' none) : w'.ownsRow b e sz v n xs := h.kept hg (by cases v.ownBlock <;> simp)

theorem heap_kept {w w' : World} {r : Option Nat} (hg : w.grownBy w' r) {k : Nat} {o : Obj} (h : w.heap[k]? = some o) (hne : some k ≠ r) : w'.heap[k]? = some o :=
  (hg.block k (Array.getElem?_eq_some_iff.1 h).1 hne).trans h

/-- A row does not lie in a block of another kind. -/
theorem own_ne {w : World} {lo R e e' sz n : Nat} {v : Value} {xs : List Value} {cs : Array Value} {fr : Nat × Nat} (h : w.ownsRow lo e sz v n xs) (hR : w.heap[R]? = some (.cells cs e' fr)) (he : e' ≠ e) : v.ownBlock ≠ some R := by
  intro e1
  rcases h.2 with ⟨h1, _⟩ | ⟨g, c, cur, h1, _, hh, _⟩
  · rw [h1] at e1; simp [Value.ownBlock] at e1
  · rw [h1] at e1
    simp [Value.ownBlock] at e1
    subst e1
    rw [hh] at hR
    simp only [Option.some.injEq, Obj.cells.injEq] at hR
    exact he hR.2.1.symm

theorem grownBy_drewN (w : World) (q : Nat) (r : Option Nat) : w.grownBy (w.drewN q) r := ⟨rfl, rfl, rfl, Nat.le_refl _, fun _ _ _ => rfl⟩

theorem set_at {w : World} {R e k : Nat} {cs : List Value} (h : w.heap[R]? = some (.cells cs.toArray e (0, 0))) (v : Value) : (w.setCell ⟨R, k, none⟩ v).heap[R]? = some (.cells (cs.set k v).toArray e (0, 0)) := by
  simp [World.setCell, Array.getElem?_modify, h]

theorem set_snoc (bs : List Value) (m : Nat) (z v : Value) : (bs ++ List.replicate (m + 1) z).set bs.length v = bs ++ [v] ++ List.replicate m z := by
  rw [List.set_append_right _ _ (Nat.le_refl _)]
  simp [List.replicate_succ]

theorem cell_mid {w : World} {R e k : Nat} {cs : List Value} {v : Value} (h : w.heap[R]? = some (.cells cs.toArray e (0, 0))) (hv : cs[k]? = some v) : w.cell? ⟨R, k, none⟩ = some v ∧ w.frozen? ⟨R, k, none⟩ = false := by
  refine ⟨?_, by simp [World.frozen?, h]⟩
  simp only [World.cell?, h]
  simpa using hv

theorem list_mid (bs : List Value) (m k : Nat) (z : Value) (hk : bs.length = k) (hm : 0 < m) : (bs ++ List.replicate m z)[k]? = some z := by
  subst hk
  rw [List.getElem?_append_right (Nat.le_refl _), Nat.sub_self]
  cases m with
  | zero => omega
  | succ m => rfl

theorem made_one (z : Value) (n : Nat) (hz : z.cells = #[z]) : (madeCells z.cells (n * 1)).toList = List.replicate n z := by
  apply List.ext_getElem
  · simp [size_madeCells]
  · intro i h1 h2
    simp [madeCells, hz, Nat.mod_one]

theorem grownBy_setCell (w : World) (a : Addr) (v : Value) : w.grownBy (w.setCell a v) (some a.block) :=
  ⟨rfl, rfl, rfl, by simp [World.setCell], fun k _ hk => Below.heap_setCell _ _ _ _ (fun e => hk (by rw [e]))⟩

theorem ints_get {k : IntKind} {zs : List Int} {j : Nat} (h : j < zs.length) : (ints k zs)[j]? = some (.int k (zs.getD j 0)) := by
  simp [ints, h, List.getD_eq_getElem?_getD]

theorem ints_take {k : IntKind} {zs : List Int} {j : Nat} (h : j < zs.length) : ints k (zs.take (j + 1)) = ints k (zs.take j) ++ [.int k (zs.getD j 0)] := by
  rw [List.take_succ_eq_append_getElem h]
  have e : zs.getD j 0 = zs[j] := by simp [List.getD_eq_getElem?_getD, h]
  rw [e]
  simp only [ints, List.map_append, List.map_cons, List.map_nil]

theorem cell_below {w w' : World} (h : Below w.heap.size w w') {a : Addr} {v : Value} (hc : w.cell? a = some v) : w'.cell? a = some v := by
  rw [← hc]
  exact World.cell?_of_block (h.block _ (World.block_lt_of_cell? w a hc))

/-- A slice of bytes that the call itself made (or nil): its cells are these. -/
def Row (lo : Nat) (w : World) (ao : Option Addr) (zs : List Int) : Prop := (ao = none ∧ zs = []) ∨ ∃ g, ao = some ⟨g, 0, none⟩ ∧ lo ≤ g ∧ w.heap[g]? = some (.cells (ints .u8 zs).toArray 5 (0, 0))

theorem info5 : (Tryd.prog.info? 5).map (fun i => (i.zero, i.size, i.bytes)) = some (some (.int .u8 0), 1, 1) := by kernel_rfl
theorem size5 : (Tryd.prog.info? 5).map (·.size) = some 1 := by kernel_rfl

set_option maxHeartbeats 1600000 in
set_option maxRecDepth 100000 in
theorem clone_any (ao : Option Addr) (n cap : Nat) (zs : List Int) (w : World) (hs : SeesV w ao n cap (ints .u8 zs)) (hn : n ≤ 1048576) :
    Calls Tryd.prog 6 #[.slice ao n cap] w fun e w' => ∃ ao', e = .returned (.slice ao' n n) ∧ Row w.heap.size w' ao' zs ∧ w.grownBy w' none := by
  have hl : zs.length = n := by have := hs.1; simpa [ints] using this
  have hat := hs.at
  obtain ⟨hl0, hnc, hcm, hnil, hcell⟩ := hs
  have he := fun wx => Lib.run_eql_slice_nil (P := Tryd.prog) wx 22 5 ao n cap 0 0 Tryd.underlying22
  obtain ⟨i0, hi, hz0, hz1, hz2⟩ := info_parts info5
  cases ao with
  | none =>
    obtain ⟨rfl, rfl⟩ := hnil rfl
    obtain rfl : zs = [] := List.eq_nil_of_length_eq_zero hl
    go_enter Tryd.func6, Tryd.ntmps6
    go_wp2
    go_ret
    exact ⟨none, rfl, .inl ⟨rfl, rfl⟩, World.grownBy.refl _ _⟩
  | some a =>
    have he2 : ∀ wx, (binOp .eql 22 (.slice (some a) n cap) (.slice none 0 0)).run Tryd.prog wx = .ok (.bool false) wx := fun wx => he wx
    clear he
    go_enter Tryd.func6, Tryd.ntmps6
    go_wp2_with (first
      | (at_make; refine wpList_make_full _ rfl _ _ 22 rfl w.heap.size 5 i0 (.int .u8 0) 1 Tryd.underlying22 hi hz0 hz1 _ _ _ _ n rfl rfl rfl rfl (by rw [hz2]; omega) (by unfold maxLen; omega) (Nat.le_refl _) ?_; intro w1 hown hgrow)
      | fail)
    have hh := full_heap hown
    rw [made_one _ _ rfl] at hh
    clear hown he2
    go_loopw [4] (fun vi wr => ∃ k : Nat, k ≤ n ∧ vi = .int .i64 k ∧ wr.heap[w.heap.size]? = some (.cells (ints .u8 (zs.take k) ++ List.replicate (n - k) (Value.int .u8 0)).toArray 5 (0, 0)) ∧ w.grownBy wr none) (fun vi _ => n - (intOf vi).toNat)
    case atStart => exact ⟨0, by omega, rfl, by simpa [ints] using hh, hgrow⟩
    case round =>
      obtain ⟨k, hk, rfl, hh2, hg2⟩ := hrel
      by_cases hlt : k < n
      · obtain ⟨b, o, hb, hc⟩ := hat (by omega)
        obtain rfl := Option.some.inj hb
        have d0 := hg2.cell (hc k _ (ints_get (by omega))) (by simp)
        have hlk : (ints .u8 (zs.take k)).length = k := by simp [ints]; omega
        obtain ⟨x, hx⟩ : ∃ x, zs.getD k 0 = x := ⟨_, rfl⟩
        rw [hx] at d0
        have HX : Hid (zs.getD k 0 = x) := hx
        clear hx
        obtain ⟨d1, d2⟩ := cell_mid hh2 (list_mid _ _ k _ hlk (by omega))
        have hne : b ≠ w.heap.size := by
          intro e
          have : b < w.heap.size := World.block_lt_of_cell? w _ (hc k _ (ints_get (by omega)))
          omega
        go_wp2
        refine ⟨⟨k + 1, by omega, by go_num, ?_, ?_⟩, by simp [intOf]; omega⟩
        · have := set_at (k := k) hh2 (.int .u8 x)
          rw [this, ints_take (by omega), HX.out]
          obtain ⟨m, hm⟩ : ∃ m, n - k = m + 1 := ⟨n - k - 1, by omega⟩
          have hm' : n - (k + 1) = m := by omega
          rw [hm, hm']
          have := set_snoc (ints .u8 (zs.take k)) m (.int .u8 0) (.int .u8 x)
          rw [hlk] at this
          rw [this]
        · refine ⟨hg2.os, hg2.tape, hg2.output, by have := hg2.size; simp [World.setCell]; exact this, fun i hi _ => (Below.heap_setCell _ _ _ _ (by show i ≠ w.heap.size; omega)).trans (hg2.block i hi (by simp))⟩
      · obtain rfl : k = n := by omega
        go_wp2
        go_ret
        refine ⟨_, rfl, .inr ⟨_, rfl, Nat.le_refl _, ?_⟩, hg2⟩
        rw [hh2]
        simp [← hl]

set_option maxRecDepth 100000 in
theorem bytes5_any (ao : Option Addr) (n cap : Nat) (v1 v2 v3 : Value) (w : World) (h : n ≤ maxLen) : Calls Tryd.prog 5 #[.slice ao n cap, v1, v2, v3] w fun e w' => YesIf e True ∧ w = w' := by
  unfold maxLen at h
  go_enter Tryd.func5, Tryd.ntmps5
  go_wp2
  all_goals
    go_ret
    first | exact ⟨YesIf.no, rfl⟩ | exact ⟨YesIf.yes trivial, rfl⟩

set_option maxRecDepth 100000 in
theorem bytes11_any (ao : Option Addr) (n cap : Nat) (v1 v2 v3 : Value) (w : World) (h : n ≤ maxLen) : Calls Tryd.prog 11 #[.slice ao n cap, v1, v2, v3] w fun e w' => YesIf e True ∧ w = w' := by
  unfold maxLen at h
  go_enter Tryd.func11, Tryd.ntmps11
  go_wp2
  all_goals
    go_ret
    first | exact ⟨YesIf.no, rfl⟩ | exact ⟨YesIf.yes trivial, rfl⟩

/-- zzAllZero where all is zero. -/
theorem zeros_any (B k : Nat) (w : World) (h : w.heap[B]? = some (.cells (List.replicate k (Value.int .u8 0)).toArray 5 (0, 0))) (hk : k ≤ 1048576) :
    Calls Tryd.prog 10 #[.slice (some ⟨B, 0, none⟩) k k] w fun e w' => e = .returned (.bool true) ∧ w = w' := by
  have HH : Hid (w.heap[B]? = some (.cells (List.replicate k (Value.int .u8 0)).toArray 5 (0, 0))) := h
  clear h
  go_enter Tryd.func10, Tryd.ntmps10
  go_upto_region 2 with fail
  go_loopw [3] (fun vi wr => ∃ i : Nat, i ≤ k ∧ vi = .int .i64 i ∧ wr = w) (fun vi _ => k - (intOf vi).toNat)
  case atStart => exact ⟨0, Nat.zero_le _, rfl, rfl⟩
  case round =>
    obtain ⟨i, hi, rfl, rfl⟩ := hrel
    by_cases hlt : i < k
    · have d0 : wr.cell? ⟨B, i, none⟩ = some (.int .u8 0) := (cell_mid HH.out (by simp [hlt])).1
      go_wp2
      exact ⟨⟨i + 1, by omega, by go_num, trivial⟩, by simp [intOf]; omega⟩
    · obtain rfl : i = k := by omega
      go_wp2
      go_ret
      exact ⟨rfl, rfl⟩

end Go.Proofs.Qxb6615754aDoor
