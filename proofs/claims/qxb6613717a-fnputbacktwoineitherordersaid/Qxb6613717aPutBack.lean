/- (*readyList).putBack and ZZputBack. -/
import Derived.Test.Qxb6613717aSearch
import Derived.Deep.RegionWith
import Derived.Deep.RegionHeld3
namespace Go.Proofs.Qxb6613717a
open Go.RowKit

/-- A ready list in block L: its returned run (a row of the call's own), its fresh run, its bytes. -/
structure Ready (w : World) (L : Nat) (ao : Option Addr) (n cap : Nat) (fv : Value) (B : Int) (es : List Ent) : Prop where
  head : w.heap[L]? = some (.cells #[.slice ao n cap, fv, .int .i64 B] 68 (0, 0))
  row : w.ownsRow 0 65 4 (.slice ao n cap) n (entCells es)

theorem Ready.len {w : World} {L n cap : Nat} {ao : Option Addr} {fv : Value} {B : Int} {es : List Ent} (h : Ready w L ao n cap fv B es) : es.length = n := by
  have := h.row.1
  rw [entCells_length] at this
  omega

/-- What a step on a ready list may have turned: the list's block, the row's block, new blocks. -/
structure Put (w : World) (L : Nat) (ao : Option Addr) (w' : World) (ao' : Option Addr) : Prop where
  os : w'.os = w.os
  tape : w'.tape = w.tape
  output : w'.output = w.output
  size : w.heap.size ≤ w'.heap.size
  block : ∀ k, k < w.heap.size → k ≠ L → some k ≠ ao.map (·.block) → w'.heap[k]? = w.heap[k]?
  follows : ao'.map (·.block) = ao.map (·.block) ∨ ∃ k, ao'.map (·.block) = some k ∧ w.heap.size ≤ k

theorem head_cells {w : World} {L e : Nat} {a b c : Value} (h : w.heap[L]? = some (.cells #[a, b, c] e (0, 0))) : w.cell? ⟨L, 0, none⟩ = some a ∧ w.cell? ⟨L, 1, none⟩ = some b ∧ w.cell? ⟨L, 2, none⟩ = some c ∧ (∀ o, w.frozen? ⟨L, o, none⟩ = false) ∧ L < w.heap.size := by
  refine ⟨by simp [World.cell?, h], by simp [World.cell?, h], by simp [World.cell?, h], fun o => by simp [World.frozen?, h], ?_⟩
  exact (Array.getElem?_eq_some_iff.1 h).1

theorem kept_none {w w' : World} {b e sz n : Nat} {v : Value} {xs : List Value} (h : w.ownsRow b e sz v n xs) (hg : w.grownBy w' none) : w'.ownsRow b e sz v n xs :=
  h.kept hg (by cases v.ownBlock <;> simp)

theorem heap_kept {w w' : World} {row : Option Nat} {k : Nat} {o : Obj} (hg : w.grownBy w' row) (h : w.heap[k]? = some o) (hne : some k ≠ row) : w'.heap[k]? = some o :=
  (hg.block k (Array.getElem?_eq_some_iff.1 h).1 hne).trans h

theorem box_cells {w : World} {k : Nat} {x : Ent} (h : w.heap[k]? = some (.cells (x.cells).toArray 65 (0, 0))) : w.cell? ⟨k, 0, none⟩ = some (.int .u64 x.seq) ∧ w.cell? ⟨k, 1, none⟩ = some (.pointer (some ⟨x.msg, 0, none⟩)) ∧ w.cell? ⟨k, 2, none⟩ = some (.bool x.red) ∧ w.cell? ⟨k, 3, none⟩ = some (.int .i64 x.exp) := by
  refine ⟨?_, ?_, ?_, ?_⟩ <;> simp [World.cell?, h, Ent.cells]

/-- A row of entries does not lie in a block of another kind. -/
theorem row_ne {w : World} {L e n cap : Nat} {ao : Option Addr} {xs : List Value} {cs : Array Value} {fr : Nat × Nat} (h : w.ownsRow 0 65 4 (.slice ao n cap) n xs) (hL : w.heap[L]? = some (.cells cs e fr)) (he : e ≠ 65) : some L ≠ ao.map (·.block) := by
  intro e1
  rcases h.2 with ⟨h1, _⟩ | ⟨g, c, cur, h1, _, hh, _⟩
  · simp at h1; rw [h1.1] at e1; simp at e1
  · simp at h1
    rw [h1.1] at e1
    simp at e1
    subst e1
    rw [hh] at hL
    simp only [Option.some.injEq, Obj.cells.injEq] at hL
    exact he hL.2.1.symm

theorem grownBy_alloc_drew (w : World) (o : Obj) : w.grownBy (w.alloc o).drew none := ⟨rfl, rfl, rfl, by simp, fun k hk _ => Below.heap_alloc w o k hk⟩

theorem set_head {w : World} {L e : Nat} {a b c : Value} (h : w.heap[L]? = some (.cells #[a, b, c] e (0, 0))) (v : Value) : (w.setCell ⟨L, 0, none⟩ v).heap[L]? = some (.cells #[v, b, c] e (0, 0)) := by
  simp [World.setCell, Array.getElem?_modify, h]

theorem set_tail {w : World} {L e : Nat} {a b c : Value} (h : w.heap[L]? = some (.cells #[a, b, c] e (0, 0))) (v : Value) : (w.setCell ⟨L, 2, none⟩ v).heap[L]? = some (.cells #[a, b, v] e (0, 0)) := by
  simp [World.setCell, Array.getElem?_modify, h]

theorem grownBy_setCell (w : World) (p : Addr) (v : Value) : w.grownBy (w.setCell p v) (some p.block) := ⟨rfl, rfl, rfl, by simp [World.setCell], fun k _ hk => Below.heap_setCell w p v k (fun e => hk (by rw [e]))⟩

theorem grownBy_setCellD (w : World) (p : Addr) (v : Value) : w.grownBy (w.setCell p v).drew (some p.block) := ⟨rfl, rfl, rfl, by simp [World.setCell], fun k _ hk => Below.heap_setCell w p v k (fun e => hk (by rw [e]))⟩

theorem ownBlock_sl (ao : Option Addr) (n cap : Nat) : (Value.slice ao n cap).ownBlock = ao.map (·.block) := by cases ao <;> rfl

theorem put_of {w w1 w2 w3 w4 : World} {L : Nat} {ao ao' : Option Addr} (h1 : w.grownBy w1 none) (h2 : w1.grownBy w2 none) (h3 : w2.grownBy w3 (ao.map (·.block))) (h4 : w3.grownBy w4 (some L)) (hf : ao'.map (·.block) = ao.map (·.block) ∨ ∃ k, ao'.map (·.block) = some k ∧ w2.heap.size ≤ k) (hz : w.heap.size ≤ w2.heap.size) : Put w L ao w4 ao' := by
  refine ⟨h4.os.trans (h3.os.trans (h2.os.trans h1.os)), h4.tape.trans (h3.tape.trans (h2.tape.trans h1.tape)), h4.output.trans (h3.output.trans (h2.output.trans h1.output)), Nat.le_trans h1.size (Nat.le_trans h2.size (Nat.le_trans h3.size h4.size)), fun k hk hL ha => ?_, ?_⟩
  · have s1 := h1.size
    have s2 := h2.size
    have s3 := h3.size
    exact (h4.block k (by omega) (by simpa using hL)).trans ((h3.block k (by omega) ha).trans ((h2.block k (by omega) (by simp)).trans (h1.block k hk (by simp))))
  · rcases hf with h | ⟨k, h, hk⟩
    · exact .inl h
    · exact .inr ⟨k, h, by omega⟩

theorem put_set {w w' : World} {L o : Nat} {ao ao' : Option Addr} {v : Value} (h : Put w L ao w' ao') : Put w L ao (w'.setCell ⟨L, o, none⟩ v).drew ao' :=
  ⟨h.os, h.tape, h.output, by have := h.size; simp [World.setCell] at this ⊢; exact this, fun k hk hL ha => (Below.heap_setCell _ _ _ _ hL).trans (h.block k hk hL ha), h.follows⟩

theorem row_lt {w : World} {n cap : Nat} {ao : Option Addr} {xs : List Value} (h : w.ownsRow 0 65 4 (.slice ao n cap) n xs) : ∀ a, ao = some a → a.block < w.heap.size := by
  rintro a rfl
  exact (h.lt a.block rfl).2

/-- slices.Insert behind the making of its one-element argument: told from the world ahead of that. -/
theorem insert_rel (n vb vc cap : Nat) (ao : Option Addr) (es : List Ent) (x : Ent) (w W : World) (hown : w.ownsRow 0 65 4 (.slice ao n cap) n (entCells es)) (hl : es.length = n) (hn : n ≤ 1048576)
    (hW : w.grownBy W none) (hvs : W.heap[vb]? = some (.cells x.cells.toArray 65 (0, 0))) (hvb : w.heap.size ≤ vb) (L : Nat) (cs : Array Value) (hL : w.heap[L]? = some (.cells cs 68 (0, 0))) :
    Calls Try.prog 41 #[.slice ao n cap, .int .i64 (ahead es x.seq), .slice (some ⟨vb, 0, none⟩) 1 vc] W fun e w' => ∃ ao' cap', e = .returned (.slice ao' (n + 1) cap') ∧
      w'.ownsRow 0 65 4 (.slice ao' (n + 1) cap') (n + 1) (entCells (es.take (ahead es x.seq) ++ [x] ++ es.drop (ahead es x.seq))) ∧ w.grownBy w' (ao.map (·.block)) ∧ (ao'.map (·.block) = ao.map (·.block) ∨ ∃ k, ao'.map (·.block) = some k ∧ w.heap.size ≤ k) ∧
      w'.heap[L]? = some (.cells cs 68 (0, 0)) := by
  have hle := ahead_le es x.seq
  have hlt := row_lt hown
  refine (insert_any n (ahead es x.seq) vb vc cap ao (entCells es) x.cells W (kept_none hown hW) hn (by omega) rfl ?_ (entCells_one es) hvs ?_).mono ?_
  · intro u hu
    exact entCells_one [x] u (by simpa [entCells] using hu)
  · intro a ha e
    have := hlt a ha
    omega
  · rintro e w' ⟨v', rfl, ho, hs⟩
    have e1 : (entCells es).take (ahead es x.seq * 4) ++ x.cells ++ (entCells es).drop (ahead es x.seq * 4) = entCells (es.take (ahead es x.seq) ++ [x] ++ es.drop (ahead es x.seq)) := by
      rw [entCells_take es _ hle, entCells_drop es _ hle, entCells_append, entCells_append]
      simp [entCells]
    rw [e1] at ho
    have hb : (Value.slice ao n cap).ownBlock = ao.map (·.block) := by cases ao <;> rfl
    have hg : w.grownBy w' (ao.map (·.block)) := ⟨hs.grown.os.trans hW.os, hs.grown.tape.trans hW.tape, hs.grown.output.trans hW.output, Nat.le_trans hW.size hs.grown.size, fun k hk hne => (hs.grown.block k (Nat.lt_of_lt_of_le hk hW.size) (by rw [hb]; exact hne)).trans (hW.block k hk (by simp))⟩
    rcases ho.2 with ⟨_, h0⟩ | ⟨g, c, cur, rfl, _⟩
    · omega
    · refine ⟨some ⟨g, 0, none⟩, c, rfl, ho, hg, ?_, heap_kept hg hL (row_ne hown hL (by decide))⟩
      rcases hs.follows with h | ⟨k, h, hk⟩
      · exact .inl (by rw [hb] at h; exact h)
      · exact .inr ⟨k, h, Nat.le_trans hW.size hk⟩

set_option maxHeartbeats 1600000 in
set_option maxRecDepth 100000 in
theorem putBack_any (L n cap bn bc : Nat) (ao bo : Option Addr) (fv : Value) (B : Int) (es : List Ent) (x : Ent) (w : World) (hr : Ready w L ao n cap fv B es) (hn : n ≤ 1048575) (hs : Sorted es) (hB : 0 ≤ B) (hB' : B ≤ 4398046511104) (hbn : bn ≤ 1048576)
    (hm : w.cell? ⟨x.msg, 18, none⟩ = some (.slice bo bn bc)) (hmL : x.msg ≠ L) (hma : some x.msg ≠ ao.map (·.block)) :
    Calls Try.prog 34 #[.pointer (some ⟨L, 0, none⟩), .agg #[.int .u64 x.seq, .pointer (some ⟨x.msg, 0, none⟩), .bool x.red, .int .i64 x.exp]] w fun e w' => e = .returned (.tuple #[]) ∧
      ∃ ao' cap', Ready w' L ao' (n + 1) cap' fv (B + bn) (es.take (ahead es x.seq) ++ [x] ++ es.drop (ahead es x.seq)) ∧ Put w L ao w' ao' := by
  obtain ⟨c0, c1, c2, cf, hL⟩ := head_cells hr.head
  have hlen := hr.len
  have hrow := hr.row
  have hhead := hr.head
  have hmlt : x.msg < w.heap.size := World.block_lt_of_cell? w _ hm
  obtain ⟨X, hX⟩ : ∃ X : Obj, X = .cells #[.int .u64 x.seq, .pointer (some ⟨x.msg, 0, none⟩), .bool x.red, .int .i64 x.exp] 65 := ⟨_, rfl⟩
  have hg1 : w.grownBy (w.alloc X) none := World.grownBy_alloc _ _ _
  have hbox : (w.alloc X).heap[w.heap.size]? = some (.cells (x.cells).toArray 65 (0, 0)) := by rw [hX]; exact heap_alloc_new w _
  have hsz : (w.alloc X).heap.size = w.heap.size + 1 := by simp
  go_enter Try.func34, Try.ntmps34
  go_wp2_with fail
  rw [← hX]
  generalize w.alloc X = w1 at hg1 hbox hsz ⊢
  have HX : Hid (X = .cells #[.int .u64 x.seq, .pointer (some ⟨x.msg, 0, none⟩), .bool x.red, .int .i64 x.exp] 65) := hX
  have hrow1 := kept_none hrow hg1
  have hhead1 := heap_kept hg1 hhead (by simp)
  have hm1 := hg1.cell hm (by simp)
  obtain ⟨d0, d1, d2, df, dL⟩ := head_cells hhead1
  obtain ⟨b0, b1, b2, b3⟩ := box_cells hbox
  have ha := ahead_le es x.seq
  clear c0 c1 c2 cf hX
  go_region_held3 (fun w' => w'.cell? ⟨L, 0, none⟩ = some (.slice ao n cap) ∧ w'.cell? ⟨w.heap.size, 0, none⟩ = some (.int .u64 x.seq)) (first | (exact ⟨World.grownBy.cell (by assumption) d0 (by simp), World.grownBy.cell (by assumption) b0 (by simp)⟩) | (exact ⟨d0, b0⟩)) ((go_at_call 38; refine (search_any n cap x.seq ao es _ ?_ hlen (by omega) hs).mono ?_; exact hrow1; rintro e w2 ⟨f, rfl, hg2⟩; have hg2 : w1.grownBy w2 none := ⟨hg2.os, hg2.tape, hg2.output, hg2.size, hg2.block⟩))
  have hrow2 := kept_none hrow1 hg2
  have hhead2 := heap_kept hg2 hhead1 (by simp)
  have hbox2 := heap_kept hg2 hbox (by simp)
  have hm2 := hg2.cell hm1 (by simp)
  have hz2 := hg2.size
  obtain ⟨d0, d1, d2, df, dL⟩ := head_cells hhead2
  obtain ⟨b0, b1, b2, b3⟩ := box_cells hbox2
  have hne : w.heap.size ≠ L := by omega
  have HR : Hid (∀ k, ao.map (·.block) = some k → k < w.heap.size) := fun k hk => by
    have := row_lt hrow
    cases ao with
    | none => simp at hk
    | some a => simp at hk; have := this a rfl; omega
  go_wp2_with fail
  go_region_with ((go_at_call 41; refine (insert_rel n _ _ cap ao es x w2 _ hrow2 hlen (by omega) ?_ ?_ ?_ L _ hhead2).mono ?_; exact grownBy_alloc_drew _ _; exact heap_alloc_new w2 _; exact Nat.le_refl _; rintro e w3 ⟨ao3, cap3, rfl, hown3, hg3, hf3, hh3⟩; obtain ⟨f0, f1, f2, ff, fL⟩ := head_cells hh3))
  all_goals
    have hh4 : (w3.setCell ⟨L, 0, none⟩ (.slice ao3 (n + 1) cap3)).heap[L]? = some (.cells #[.slice ao3 (n + 1) cap3, fv, .int .i64 B] 68 (0, 0)) := set_head hh3 _
    have hbox3 := heap_kept hg3 hbox2 (fun e => by have := HR.out _ e.symm; omega)
    have hbox4 : (w3.setCell ⟨L, 0, none⟩ (.slice ao3 (n + 1) cap3)).heap[w.heap.size]? = some (.cells x.cells.toArray 65 (0, 0)) := (Below.heap_setCell _ _ _ _ hne).trans hbox3
    have hm3 := hg3.cell hm2 hma
    have hm4 : (w3.setCell ⟨L, 0, none⟩ (.slice ao3 (n + 1) cap3)).cell? ⟨x.msg, 18, none⟩ = some (.slice bo bn bc) := (World.cell?_of_block (Below.heap_setCell _ _ _ _ hmL)).trans hm3
    have hg4 : w3.grownBy (w3.setCell ⟨L, 0, none⟩ (.slice ao3 (n + 1) cap3)) (some L) := grownBy_setCell _ _ _
    have hown4 : (w3.setCell ⟨L, 0, none⟩ (.slice ao3 (n + 1) cap3)).ownsRow 0 65 4 (.slice ao3 (n + 1) cap3) (n + 1) _ := hown3.kept hg4 (.inr (by rw [ownBlock_sl]; exact (row_ne hown3 hh3 (by decide)).symm))
    generalize w3.setCell ⟨L, 0, none⟩ (.slice ao3 (n + 1) cap3) = w4 at hh4 hbox4 hm4 hg4 hown4 ⊢
    obtain ⟨p0, p1, p2, pf, pL⟩ := head_cells hh4
    obtain ⟨r0, r1, r2, r3⟩ := box_cells hbox4
    clear d0 d1 d2 df dL b0 b1 b2 b3 f0 f1 f2 ff fL
    have hw : IntKind.i64.wrap (B + (bn : Int)) = B + (bn : Int) := by rw [IntKind.wrap_i64]; omega
    have P4 : Hid (Put w L ao w4 ao3) := put_of hg1 hg2 hg3 hg4 hf3 (by omega)
    go_wp2_with fail
    go_region
    all_goals
      go_end0
      refine ⟨rfl, ao3, cap3, ⟨set_tail hh4 _, hown4.kept (grownBy_setCellD _ _ _) (.inr (by rw [ownBlock_sl]; exact (row_ne hown3 hh3 (by decide)).symm))⟩, put_set P4.out⟩

end Go.Proofs.Qxb6613717a
