/- ZZnewExport. -/
import Derived.Test.Qxb6614834aExp
import Derived.Deep.RegionHeld3
import Derived.Deep.DeepCutAuto
namespace Go.Proofs.Qxb6614834a
open Go.RowKit
set_option linter.unusedVariables false

theorem ints_get {k : IntKind} {zs : List Int} {j : Nat} (h : j < zs.length) : (ints k zs)[j]? = some (.int k (zs.getD j 0)) := by
  simp [ints, h, List.getD_eq_getElem?_getD]

/-- The rows out of five lists. -/
def rowsOf (n : Nat) (zb zm zd zw zl : List Int) : List R := (List.range n).map fun i => ⟨zb.getD i 0, zm.getD i 0, zd.getD i 0, zw.getD i 0, zl.getD i 0⟩

theorem rowsOf_len (n : Nat) (zb zm zd zw zl : List Int) : (rowsOf n zb zm zd zw zl).length = n := by simp [rowsOf]
theorem rowsOf_get {n : Nat} {zb zm zd zw zl : List Int} {i : Nat} (h : i < n) : (rowsOf n zb zm zd zw zl).getD i R0 = ⟨zb.getD i 0, zm.getD i 0, zd.getD i 0, zw.getD i 0, zl.getD i 0⟩ := by
  simp [rowsOf, List.getD_eq_getElem?_getD, h]

def rcells (rs : List R) : List Value := rs.flatMap R.cells

theorem rcells_len (rs : List R) : (rcells rs).length = rs.length * 5 := by
  induction rs with
  | nil => rfl
  | cons r rs ih => simp only [rcells, List.flatMap_cons, List.length_append, List.length_cons] at *; rw [ih]; simp [R.cells]; omega

theorem rcells_at (rs : List R) (i j : Nat) (v : Value) (hi : i < rs.length) (hv : (rs.getD i R0).cells[j]? = some v) : (rcells rs)[i * 5 + j]? = some v := by
  induction rs generalizing i with
  | nil => simp at hi
  | cons r rs ih =>
    have e : rcells (r :: rs) = r.cells ++ rcells rs := by simp [rcells]
    have hl : r.cells.length = 5 := rfl
    rw [e]
    cases i with
    | zero =>
      have hv' : r.cells[j]? = some v := by simpa using hv
      have : j < 5 := by
        rcases Nat.lt_or_ge j 5 with h | h
        · exact h
        · rw [List.getElem?_eq_none (by omega)] at hv'; simp at hv'
      rw [List.getElem?_append_left (by omega)]
      simpa using hv'
    | succ i =>
      rw [List.getElem?_append_right (by omega)]
      have : (i + 1) * 5 + j - r.cells.length = i * 5 + j := by omega
      rw [this]
      exact ih i (by simpa using hi) (by simpa using hv)

theorem rcells_set (rs : List R) (i : Nat) (r : R) (hi : i < rs.length) :
    ((((((rcells rs).set (i * 5) (.int .i64 r.b)).set (i * 5 + 1) (.int .i32 r.m)).set (i * 5 + 2) (.int .i32 r.d)).set (i * 5 + 3) (.int .i32 r.w)).set (i * 5 + 4) (.int .i32 r.l)) = rcells (rs.set i r) := by
  induction rs generalizing i with
  | nil => simp at hi
  | cons x rs ih =>
    have e : rcells (x :: rs) = x.cells ++ rcells rs := by simp [rcells]
    cases i with
    | zero => rw [e]; simp [rcells, R.cells]
    | succ i =>
      have e2 : rcells ((x :: rs).set (i + 1) r) = x.cells ++ rcells (rs.set i r) := by simp [rcells]
      rw [e, e2, ← ih i (by simpa using hi)]
      have s : ∀ (l : List Value) (p : Nat) (v : Value), (x.cells ++ l).set (5 + p) v = x.cells ++ l.set p v := by
        intro l p v
        rw [List.set_append_right _ _ (by simp [R.cells])]
        simp [R.cells]
      have q0 : (i + 1) * 5 = 5 + i * 5 := by omega
      have q1 : (i + 1) * 5 + 1 = 5 + (i * 5 + 1) := by omega
      have q2 : (i + 1) * 5 + 2 = 5 + (i * 5 + 2) := by omega
      have q3 : (i + 1) * 5 + 3 = 5 + (i * 5 + 3) := by omega
      have q4 : (i + 1) * 5 + 4 = 5 + (i * 5 + 4) := by omega
      rw [q4, q3, q2, q1, q0, s, s, s, s, s]

theorem info42 : (Try.prog.info? 42).map (fun i => (i.zero, i.size, i.bytes)) = some (some (.agg #[.int .i64 0, .int .i32 0, .int .i32 0, .int .i32 0, .int .i32 0]), 5, 24) := by kernel_rfl
theorem info64 : (Try.prog.info? 64).map (fun i => (i.zero, i.size, i.bytes)) = some (some (.agg #[.int .u32 0, .int .u32 0]), 2, 8) := by kernel_rfl

theorem made5 (n : Nat) : (madeCells (Value.agg #[.int .i64 0, .int .i32 0, .int .i32 0, .int .i32 0, .int .i32 0]).cells (n * 5)).toList = rcells (List.replicate n R0) := by
  apply List.ext_getElem?
  intro i
  by_cases hi : i < n * 5
  · have e : i = i / 5 * 5 + i % 5 := by omega
    have h5 : i % 5 < 5 := Nat.mod_lt _ (by decide)
    obtain ⟨v, hv⟩ : ∃ v, R0.cells[i % 5]? = some v := ⟨R0.cells[i % 5]'(by simpa [R.cells] using h5), List.getElem?_eq_getElem _⟩
    have hr := rcells_at (List.replicate n R0) (i / 5) (i % 5) v (by simp; omega) (by
      have : (List.replicate n R0).getD (i / 5) R0 = R0 := by simp [List.getD_eq_getElem?_getD, List.getElem?_replicate]; split <;> rfl
      rw [this]; exact hv)
    rw [← e] at hr
    rw [hr]
    simp only [madeCells, Array.toList_map, List.getElem?_map]
    have : (Array.range (n * 5)).toList[i]? = some i := by simp [hi]
    rw [this]
    simp only [Option.map_some, Value.cells]
    rw [← hv]
    obtain ⟨j, hj⟩ : ∃ j, i % 5 = j := ⟨_, rfl⟩
    rw [hj] at h5 ⊢
    have : (#[Value.int .i64 0, .int .i32 0, .int .i32 0, .int .i32 0, .int .i32 0] : Array Value).size = 5 := rfl
    rw [this, hj]
    match j, h5 with
    | 0, _ => rfl
    | 1, _ => rfl
    | 2, _ => rfl
    | 3, _ => rfl
    | 4, _ => rfl
  · rw [List.getElem?_eq_none (by simp [size_madeCells]; omega), List.getElem?_eq_none (by rw [rcells_len]; simp; omega)]

theorem far1 {w : World} {R p g o : Nat} (u : Value) {v : Value} (h : w.cell? ⟨g, o, none⟩ = some v) (hne : g ≠ R) : (w.setCell ⟨R, p, none⟩ u).cell? ⟨g, o, none⟩ = some v := by
  rw [← h]
  exact World.cell?_of_block (Below.heap_setCell _ _ _ _ hne)

theorem far5 {w : World} {R g o : Nat} (p : Nat) (u0 u1 u2 u3 u4 : Value) {v : Value} (h : w.cell? ⟨g, o, none⟩ = some v) (hne : g ≠ R) :
    (((((w.setCell ⟨R, p, none⟩ u0).setCell ⟨R, p + 1, none⟩ u1).setCell ⟨R, p + 2, none⟩ u2).setCell ⟨R, p + 3, none⟩ u3).setCell ⟨R, p + 4, none⟩ u4).cell? ⟨g, o, none⟩ = some v :=
  far1 _ (far1 _ (far1 _ (far1 _ (far1 _ h hne) hne) hne) hne) hne

theorem cell_drew (w : World) (a : Addr) : w.drew.cell? a = w.cell? a := rfl

theorem far5d {w : World} {R g o : Nat} (p : Nat) (u0 u1 u2 u3 u4 : Value) {v : Value} (h : w.cell? ⟨g, o, none⟩ = some v) (hne : g ≠ R) :
    (((((w.setCell ⟨R, p, none⟩ u0).setCell ⟨R, p + 1, none⟩ u1).setCell ⟨R, p + 2, none⟩ u2).setCell ⟨R, p + 3, none⟩ u3).setCell ⟨R, p + 4, none⟩ u4).drew.cell? ⟨g, o, none⟩ = some v :=
  (cell_drew _ _).trans (far5 p u0 u1 u2 u3 u4 h hne)

theorem rows_heap {w : World} {base e g n size : Nat} {xs : List Value} (h : w.ownsRow base e size (.slice (some ⟨g, 0, none⟩) n n) n xs) : Hid (w.heap[g]? = some (.cells xs.toArray e (0, 0))) := by
  show _ = _
  have hl := h.1
  rcases h.2 with ⟨h1, _⟩ | ⟨g', cap, cur, h1, _, hh, _, _, hsz, htk⟩
  · simp at h1
  · simp only [Value.slice.injEq, Option.some.injEq, Addr.mk.injEq, and_true, true_and] at h1
    obtain ⟨rfl, rfl⟩ := h1
    rw [hh, ← htk]
    rw [List.take_of_length_le (by simp; omega)]

theorem set5 {w : World} {B k : Nat} {L : List R} (r : R) (h : w.heap[B]? = some (.cells (rcells L).toArray 42 (0, 0))) (hk : k < L.length) :
    (((((w.setCell ⟨B, k * 5, none⟩ (.int .i64 r.b)).setCell ⟨B, k * 5 + 1, none⟩ (.int .i32 r.m)).setCell ⟨B, k * 5 + 2, none⟩ (.int .i32 r.d)).setCell ⟨B, k * 5 + 3, none⟩ (.int .i32 r.w)).setCell ⟨B, k * 5 + 4, none⟩ (.int .i32 r.l)).heap[B]? = some (.cells (rcells (L.set k r)).toArray 42 (0, 0)) := by
  rw [← rcells_set L k r hk]
  exact set_at (set_at (set_at (set_at (set_at h _) _) _) _) _

theorem grown1 {w0 w : World} {R p : Nat} (u : Value) (h : w0.grownBy w none) (hR : w0.heap.size ≤ R) : w0.grownBy (w.setCell ⟨R, p, none⟩ u) none :=
  ⟨h.os, h.tape, h.output, by have := h.size; simp [World.setCell]; exact this, fun i hi _ => (Below.heap_setCell _ _ _ _ (by show i ≠ R; omega)).trans (h.block i hi (by simp))⟩

theorem heap_drew (w : World) : w.drew.heap = w.heap := rfl

theorem grown_drew {w0 w : World} (h : w0.grownBy w none) : w0.grownBy w.drew none := ⟨h.os, h.tape, h.output, h.size, h.block⟩

theorem take_set {rs : List R} {n k : Nat} {r : R} (hl : rs.length = n) (hk : k < n) (hr : rs.getD k R0 = r) : (rs.take k ++ List.replicate (n - k) R0).set k r = rs.take (k + 1) ++ List.replicate (n - (k + 1)) R0 := by
  have e : rs[k]'(by omega) = r := by rw [← hr]; simp [List.getD_eq_getElem?_getD, hl, hk]
  obtain ⟨m, hm⟩ : ∃ m, n - k = m + 1 := ⟨n - k - 1, by omega⟩
  have hm' : n - (k + 1) = m := by omega
  rw [List.take_succ_eq_append_getElem (by omega), e, hm, hm', List.set_append_right _ _ (by simp; omega)]
  have : k - (rs.take k).length = 0 := by simp; omega
  rw [this]
  simp [List.replicate_succ]

theorem made_exp {w w3 : World} {k m no W c5 c6 : Nat} {am : Option Addr} {a5 a6 : Option Addr} {rs : List R} {ss os : List Nat} {v0 v1 v6 : Value} (hg : w.grownBy w3 none) (hW : w3.heap[W]? = some (.cells (rcells rs).toArray 42 (0, 0)))
    (s5 : SeesV w3 a5 (m + 1) c5 (u32s ss)) (s6 : SeesV w3 a6 no c6 (u32s os)) (hs1 : ss.length = m + 1) (hs2 : os.length = no) (hl : rs.length = k) (hsp : ∀ a, a6 = some a → a.spot = none) :
    Exp (((w3.alloc (Obj.cells #[Value.slice am m m] 43)).alloc (Obj.cells #[Value.slice (some ⟨W, 0, none⟩) k k] 38)).alloc
      (Obj.cells #[v0, v1, Value.slice (some ⟨w3.heap.size, 0, none⟩) 1 1, Value.slice (some ⟨w3.heap.size + 1, 0, none⟩) 1 1, Value.slice a5 (m + 1) c5, Value.slice a6 no c6, v6] 54))
      ⟨w3.heap.size + 1 + 1, w3.heap.size, am, w3.heap.size + 1, W, a5, c5, a6, c6⟩ rs ss os ∧
    w.grownBy (((w3.alloc (Obj.cells #[Value.slice am m m] 43)).alloc (Obj.cells #[Value.slice (some ⟨W, 0, none⟩) k k] 38)).alloc
      (Obj.cells #[v0, v1, Value.slice (some ⟨w3.heap.size, 0, none⟩) 1 1, Value.slice (some ⟨w3.heap.size + 1, 0, none⟩) 1 1, Value.slice a5 (m + 1) c5, Value.slice a6 no c6, v6] 54)) none := by
  generalize hoM : Obj.cells #[Value.slice am m m] 43 = oM
  generalize hoC : Obj.cells #[Value.slice (some ⟨W, 0, none⟩) k k] 38 = oC
  generalize hoE : Obj.cells #[v0, v1, Value.slice (some ⟨w3.heap.size, 0, none⟩) 1 1, Value.slice (some ⟨w3.heap.size + 1, 0, none⟩) 1 1, Value.slice a5 (m + 1) c5, Value.slice a6 no c6, v6] 54 = oE
  have g1 : w3.grownBy (w3.alloc oM) none := World.grownBy_alloc _ _ _
  have g2 : (w3.alloc oM).grownBy ((w3.alloc oM).alloc oC) none := World.grownBy_alloc _ _ _
  have g3 : ((w3.alloc oM).alloc oC).grownBy (((w3.alloc oM).alloc oC).alloc oE) none := World.grownBy_alloc _ _ _
  have z1 : (w3.alloc oM).heap.size = w3.heap.size + 1 := by simp
  have z2 : ((w3.alloc oM).alloc oC).heap.size = w3.heap.size + 1 + 1 := by simp
  have hM := heap_alloc_new w3 oM
  have hC := heap_alloc_new (w3.alloc oM) oC
  have hE := heap_alloc_new ((w3.alloc oM).alloc oC) oE
  rw [z1] at hC
  rw [z2] at hE
  have gA := grownBy_none_trans (grownBy_none_trans g1 g2) g3
  have hM3 := heap_kept (grownBy_none_trans g2 g3) hM (by simp)
  have hC3 := heap_kept g3 hC (by simp)
  have hW3 := heap_kept gA hW (by simp)
  have hF := grownBy_none_trans hg gA
  have t5 := s5.kept gA
  have t6 := s6.kept gA
  generalize ((w3.alloc oM).alloc oC).alloc oE = F at *
  rw [← hoE] at hE
  rw [← hoM] at hM3
  rw [← hoC] at hC3
  refine ⟨⟨?_, ?_, ?_, ?_, ?_, ?_, ?_, ?_, ?_, hsp⟩, hF⟩
  · exact (cell_mid (cs := [v0, v1, _, _, _, _, v6]) (k := 2) hE rfl).1
  · have : ss.length - 1 = m := by omega
    rw [this]
    exact (cell_mid (cs := [_]) (k := 0) hM3 rfl).1
  · exact (cell_mid (cs := [v0, v1, _, _, _, _, v6]) (k := 3) hE rfl).1
  · rw [hl]
    exact (cell_mid (cs := [_]) (k := 0) hC3 rfl).1
  · intro i j v hi hv
    exact (cell_mid hW3 (rcells_at rs i j v hi hv)).1
  · rw [hs1]
    exact (cell_mid (cs := [v0, v1, _, _, _, _, v6]) (k := 4) hE rfl).1
  · rw [hs1]; exact t5
  · rw [hs2]
    exact (cell_mid (cs := [v0, v1, _, _, _, _, v6]) (k := 5) hE rfl).1
  · rw [hs2]; exact t6

set_option maxHeartbeats 3200000 in
set_option maxRecDepth 100000 in
theorem new_any (a0 a1 a2 a3 a4 a5 a6 : Option Addr) (n c0 c1 c2 c3 c4 c5 c6 m no : Nat) (zb zm zd zw zl : List Int) (ss os : List Nat) (w : World) (hn : n ≤ 32768) (hm : m ≤ 32768) (hno : no ≤ 32768)
    (s0 : SeesV w a0 n c0 (ints .i64 zb)) (s1 : SeesV w a1 n c1 (ints .i32 zm)) (s2 : SeesV w a2 n c2 (ints .i32 zd)) (s3 : SeesV w a3 n c3 (ints .i32 zw)) (s4 : SeesV w a4 n c4 (ints .i32 zl))
    (s5 : SeesV w a5 (m + 1) c5 (u32s ss)) (s6 : SeesV w a6 no c6 (u32s os)) (hsp : ∀ a, a6 = some a → a.spot = none) :
    Calls Try.prog 8 #[.slice a0 n c0, .slice a1 n c1, .slice a2 n c2, .slice a3 n c3, .slice a4 n c4, .slice a5 (m + 1) c5, .slice a6 no c6] w fun e w' =>
      ∃ L : Lay, e = .returned (.pointer (some ⟨L.E, 0, none⟩)) ∧ Exp w' L (rowsOf n zb zm zd zw zl) ss os ∧ w.grownBy w' none := by
  have HSP : Hid (∀ a, a6 = some a → a.spot = none) := hsp
  clear hsp
  obtain ⟨i0, hi, hz0, hz1, hz2⟩ := info_parts info42
  have q0 : zb.length = n := by have := s0.1; simpa [ints] using this
  have q1 : zm.length = n := by have := s1.1; simpa [ints] using this
  have q2 : zd.length = n := by have := s2.1; simpa [ints] using this
  have q3 : zw.length = n := by have := s3.1; simpa [ints] using this
  have q4 : zl.length = n := by have := s4.1; simpa [ints] using this
  have HR : Hid (∃ rs, rowsOf n zb zm zd zw zl = rs) := ⟨_, rfl⟩
  obtain ⟨rs, HR⟩ := HR
  have HL : Hid (rs.length = n) := by show rs.length = n; rw [← HR, rowsOf_len]
  have HR : Hid (rowsOf n zb zm zd zw zl = rs) := HR
  go_enter Try.func8, Try.ntmps8
  go_upto_region 3 with (first
      | (at_make; refine wpList_make_full _ rfl _ _ 38 rfl w.heap.size 42 i0 _ 5 Try.underlying38 hi hz0 hz1 _ _ _ _ n rfl rfl rfl rfl (by rw [hz2]; omega) (by unfold maxLen; omega) (Nat.le_refl _) ?_; intro w1 hown hgrow)
      | fail)
  rw [made5] at hown
  clear hi hz0 hz1 hz2 i0
  go_loopw [16] (fun vi wr => ∃ k : Nat, k ≤ n ∧ vi = .int .i64 k ∧ Hid (wr.heap[w.heap.size]? = some (.cells (rcells (rs.take k ++ List.replicate (n - k) R0)).toArray 42 (0, 0))) ∧ w.grownBy wr none) (fun vi _ => n - (intOf vi).toNat)
  case atStart =>
    refine ⟨0, by omega, rfl, ?_, hgrow⟩
    have e : rs.take 0 ++ List.replicate (n - 0) R0 = List.replicate n R0 := by simp
    rw [e]
    exact rows_heap hown
  case round =>
    obtain ⟨k, hk, rfl, HH, hg⟩ := hrel
    by_cases hlt : k < n
    · obtain ⟨g0, o0, rfl, t0⟩ := s0.at (by omega)
      obtain ⟨g1, o1, rfl, t1⟩ := s1.at (by omega)
      obtain ⟨g2, o2, rfl, t2⟩ := s2.at (by omega)
      obtain ⟨g3, o3, rfl, t3⟩ := s3.at (by omega)
      obtain ⟨g4, o4, rfl, t4⟩ := s4.at (by omega)
      have u0 := t0 k _ (ints_get (by omega))
      have u1 := t1 k _ (ints_get (by omega))
      have u2 := t2 k _ (ints_get (by omega))
      have u3 := t3 k _ (ints_get (by omega))
      have u4 := t4 k _ (ints_get (by omega))
      have HK : Hid (rs.getD k R0 = ⟨zb.getD k 0, zm.getD k 0, zd.getD k 0, zw.getD k 0, zl.getD k 0⟩) := by show _ = _; rw [← HR.out, rowsOf_get hlt]
      generalize zb.getD k 0 = b at u0 HK
      generalize zm.getD k 0 = rm at u1 HK
      generalize zd.getD k 0 = d at u2 HK
      generalize zw.getD k 0 = rw at u3 HK
      generalize zl.getD k 0 = l at u4 HK
      have m0 : g0 ≠ w.heap.size := Nat.ne_of_lt (World.block_lt_of_cell? w _ u0)
      have m1 : g1 ≠ w.heap.size := Nat.ne_of_lt (World.block_lt_of_cell? w _ u1)
      have m2 : g2 ≠ w.heap.size := Nat.ne_of_lt (World.block_lt_of_cell? w _ u2)
      have m3 : g3 ≠ w.heap.size := Nat.ne_of_lt (World.block_lt_of_cell? w _ u3)
      have m4 : g4 ≠ w.heap.size := Nat.ne_of_lt (World.block_lt_of_cell? w _ u4)
      have v0 := hg.cell u0 (by simp)
      have v1 := hg.cell u1 (by simp)
      have v2 := hg.cell u2 (by simp)
      have v3 := hg.cell u3 (by simp)
      have v4 := hg.cell u4 (by simp)
      clear u0 u1 u2 u3 u4 t0 t1 t2 t3 t4
      have hll : (rs.take k ++ List.replicate (n - k) R0).length = n := by simp [HL.out]; omega
      have HX : ∀ j, j < 5 → wr.frozen? ⟨w.heap.size, k * 5 + j, none⟩ = false ∧ ∃ v, wr.cell? ⟨w.heap.size, k * 5 + j, none⟩ = some v := by
        intro j hj
        have hlen : k * 5 + j < (rcells (rs.take k ++ List.replicate (n - k) R0)).length := by rw [rcells_len, hll]; omega
        have := cell_mid HH.out (List.getElem?_eq_getElem hlen)
        exact ⟨this.2, _, this.1⟩
      obtain ⟨x0, y0, z0⟩ := HX 0 (by omega)
      obtain ⟨x1, y1, z1⟩ := HX 1 (by omega)
      obtain ⟨x2, y2, z2⟩ := HX 2 (by omega)
      obtain ⟨x3, y3, z3⟩ := HX 3 (by omega)
      obtain ⟨x4, y4, z4⟩ := HX 4 (by omega)
      simp only [Nat.add_zero] at x0 z0
      clear HX hll
      have e0 : wr.drew.cell? ⟨g0, o0 + k, none⟩ = some (.int .i64 b) := v0
      have e1 : wr.drew.cell? ⟨g1, o1 + k, none⟩ = some (.int .i32 rm) := v1
      have e2 : wr.drew.cell? ⟨g2, o2 + k, none⟩ = some (.int .i32 d) := v2
      have e3 : wr.drew.cell? ⟨g3, o3 + k, none⟩ = some (.int .i32 rw) := v3
      have e4 : wr.drew.cell? ⟨g4, o4 + k, none⟩ = some (.int .i32 l) := v4
      go_upto_region 5 with fail
      go_region_held3 (fun w' => w'.cell? ⟨g0, o0 + k, none⟩ = some (.int .i64 b) ∧ w'.cell? ⟨g1, o1 + k, none⟩ = some (.int .i32 rm) ∧ w'.cell? ⟨g2, o2 + k, none⟩ = some (.int .i32 d) ∧ w'.cell? ⟨g3, o3 + k, none⟩ = some (.int .i32 rw) ∧ w'.cell? ⟨g4, o4 + k, none⟩ = some (.int .i32 l)) (first | (with_reducible exact ⟨v0, v1, v2, v3, v4⟩) | (with_reducible exact ⟨e0, e1, e2, e3, e4⟩) | (with_reducible exact ⟨far5d _ _ _ _ _ _ v0 m0, far5d _ _ _ _ _ _ v1 m1, far5d _ _ _ _ _ _ v2 m2, far5d _ _ _ _ _ _ v3 m3, far5d _ _ _ _ _ _ v4 m4⟩) | fail) (fail)
      have hs5 := set5 (k := k) ⟨b, rm, d, rw, l⟩ HH.out (by simp [HL.out]; omega)
      rw [take_set HL.out hlt HK.out] at hs5
      have hg5 := grown_drew (grown1 (R := w.heap.size) (p := k * 5 + 4) (.int .i32 l) (grown1 (R := w.heap.size) (p := k * 5 + 3) (.int .i32 rw) (grown1 (R := w.heap.size) (p := k * 5 + 2) (.int .i32 d) (grown1 (R := w.heap.size) (p := k * 5 + 1) (.int .i32 rm) (grown1 (R := w.heap.size) (p := k * 5) (.int .i64 b) hg (Nat.le_refl _)) (Nat.le_refl _)) (Nat.le_refl _)) (Nat.le_refl _)) (Nat.le_refl _))
      rw [← heap_drew] at hs5
      clear x0 x1 x2 x3 x4 z0 z1 z2 z3 z4 v0 v1 v2 v3 v4 e0 e1 e2 e3 e4 HH hg
      have HS : Hid _ := hs5
      clear hs5
      generalize World.drew _ = V at HS hg5 ⊢
      go_wp2
      exact ⟨⟨k + 1, by omega, by go_num, HS, hg5⟩, by simp [intOf]; omega⟩
    · obtain rfl : k = n := by omega
      have e : rs.take k ++ List.replicate (k - k) R0 = rs := by rw [Nat.sub_self, List.take_of_length_le (by rw [HL.out]; omega)]; simp
      rw [e] at HH
      clear e hgrow hown
      obtain ⟨i1, hi1, hy0, hy1, hy2⟩ := info_parts info64
      go_wp2_with (first
        | (at_make; refine wpList_make_full _ rfl _ _ 43 rfl wr.heap.size 64 i1 _ 2 Try.underlying43 hi1 hy0 hy1 _ _ _ _ m rfl rfl (by go_num) (by go_num) (by rw [hy2]; omega) (by unfold maxLen; omega) (Nat.le_refl _) ?_; intro w3 hown3 hgrow3)
        | fail)
      go_ret
      clear hi1 hy0 hy1 hy2 hown3
      have hs1 : ss.length = m + 1 := by have := s5.1; simpa [u32s] using this
      have hs2 : os.length = no := by have := s6.1; simpa [u32s] using this
      have hg3 := grownBy_none_trans hg hgrow3
      have hW3 := heap_kept hgrow3 HH.out (by simp)
      have s53 := s5.kept hg3
      have s63 := s6.kept hg3
      rw [HR.out]
      refine ⟨⟨w3.heap.size + 1 + 1, w3.heap.size, some ⟨wr.heap.size, 0, none⟩, w3.heap.size + 1, w.heap.size, a5, c5, a6, c6⟩, rfl, ?_⟩
      exact made_exp hg3 hW3 s53 s63 hs1 hs2 HL.out HSP.out

end Go.Proofs.Qxb6614834a
