/- A ready list with both its runs; ZZpushReturned, ZZpushFresh. -/
import Derived.Test.Qxb6613717aSt
namespace Go.Proofs.Qxb6613717a
open Go.RowKit

/-- Blocks of other kinds than entries' rows and ready lists are as they were. -/
def Kind (w w' : World) : Prop := ∀ (k : Nat) (cs : Array Value) (e : TypeId) (fr : Nat × Nat), w.heap[k]? = some (.cells cs e fr) → e ≠ 65 → e ≠ 68 → w'.heap[k]? = some (.cells cs e fr)

theorem Kind.trans {a b c : World} (h : Kind a b) (k : Kind b c) : Kind a c := fun i cs e fr hh h1 h2 => k i cs e fr (h i cs e fr hh h1 h2) h1 h2

theorem Kind.grown {w w' : World} (hg : w.grownBy w' none) : Kind w w' := fun _ _ _ _ h _ _ => heap_kept hg h (by simp)

theorem Kind.put {w w' : World} {L n cap : Nat} {ao ao' : Option Addr} {xs : List Value} {c0 : Array Value} {f0 : Nat × Nat} (hp : Put w L ao w' ao') (hL : w.heap[L]? = some (.cells c0 68 f0)) (hr : w.ownsRow 0 65 4 (.slice ao n cap) n xs) : Kind w w' := by
  intro k cs e fr h h1 h2
  have hk : k < w.heap.size := (Array.getElem?_eq_some_iff.1 h).1
  refine (hp.block k hk ?_ (row_ne hr h h1)).trans h
  rintro rfl
  rw [hL] at h
  simp only [Option.some.injEq, Obj.cells.injEq] at h
  exact h2 h.2.1.symm

theorem Kind.own {w w' : World} {e sz m b : Nat} {v : Value} {xs : List Value} (hk : Kind w w') (h : w.ownsRow b e sz v m xs) (h1 : e ≠ 65) (h2 : e ≠ 68) : w'.ownsRow b e sz v m xs := by
  obtain ⟨hx, hh⟩ := h
  refine ⟨hx, ?_⟩
  rcases hh with h | ⟨g, c, cur, e1, hb, hh, r⟩
  · exact .inl h
  · exact .inr ⟨g, c, cur, e1, hb, hk _ _ _ _ hh h1 h2, r⟩

theorem Kind.filed {w w' : World} {x : Ent} {sp : Spec} (hk : Kind w w') (h : Filed w x sp) : Filed w' x sp := by
  obtain ⟨h1, h2, h3, b, hb, ho, hl⟩ := h
  exact ⟨h1, h2, h3, b, hk _ _ _ _ hb (by decide) (by decide), hk.own ho (by decide) (by decide), hl⟩

theorem Kind.filedAll {w w' : World} {es : List Ent} {sps : List Spec} (hk : Kind w w') (h : FiledAll w es sps) : FiledAll w' es sps :=
  ⟨h.1, fun j x sp hx hs => hk.filed (h.2 j x sp hx hs)⟩

/-- A ready list, both runs. -/
structure RL (w : World) (L : Nat) (ao : Option Addr) (n cap : Nat) (es : List Ent) (fo : Option Addr) (fn fc : Nat) (fs : List Ent) (B : Int) : Prop where
  ready : Ready w L ao n cap (.slice fo fn fc) B es
  fresh : w.ownsRow 0 65 4 (.slice fo fn fc) fn (entCells fs)
  apart : ∀ k, ao.map (·.block) = some k → fo.map (·.block) ≠ some k

theorem RL.grown {w w' : World} {L : Nat} {ao : Option Addr} {n cap : Nat} {es : List Ent} {fo : Option Addr} {fn fc : Nat} {fs : List Ent} {B : Int} (h : RL w L ao n cap es fo fn fc fs B) (hg : w.grownBy w' none) : RL w' L ao n cap es fo fn fc fs B :=
  ⟨⟨heap_kept hg h.ready.head (by simp), kept_none h.ready.row hg⟩, kept_none h.fresh hg, h.apart⟩

theorem put_ne {w w' : World} {L k : Nat} {ao ao' : Option Addr} (hp : Put w L ao w' ao') (hk : k < w.heap.size) (h : ao.map (·.block) ≠ some k) : ao'.map (·.block) ≠ some k := by
  intro e
  rcases hp.follows with f | ⟨j, f, hj⟩
  · exact h (f.symm.trans e)
  · rw [f] at e
    have := Option.some.inj e
    omega

/-- A row of entries that lies elsewhere is kept. -/
theorem Put.row {w w' : World} {L n cap : Nat} {ao ao' fo : Option Addr} {xs : List Value} {c0 : Array Value} {f0 : Nat × Nat} (hp : Put w L ao w' ao') (hL : w.heap[L]? = some (.cells c0 68 f0)) (h : w.ownsRow 0 65 4 (.slice fo n cap) n xs) (hne : ∀ k, fo.map (·.block) = some k → ao.map (·.block) ≠ some k) : w'.ownsRow 0 65 4 (.slice fo n cap) n xs := by
  obtain ⟨hx, hh⟩ := h
  refine ⟨hx, ?_⟩
  rcases hh with h | ⟨g, c, cur, e1, hb, hh, r⟩
  · exact .inl h
  · refine .inr ⟨g, c, cur, e1, hb, ?_, r⟩
    simp only [Value.slice.injEq] at e1
    have hg : g < w.heap.size := (Array.getElem?_eq_some_iff.1 hh).1
    refine (hp.block g hg ?_ (fun e => hne g (by rw [e1.1]; rfl) e.symm)).trans hh
    rintro rfl
    rw [hL] at hh
    simp only [Option.some.injEq, Obj.cells.injEq] at hh
    exact absurd hh.2.1 (by decide)

/-- What a push leaves. -/
def Pushed (w : World) (L : Nat) (ao : Option Addr) (es : List Ent) (s : Nat) (b : Body) (P : World → Option Addr → Nat → List Ent → Prop) (e : Ending) (w' : World) : Prop :=
  e = .returned (.tuple #[]) ∧ ∃ ao' cap' x, P w' ao' cap' (es ++ [x]) ∧ Put w L ao w' ao' ∧ Filed w' x ⟨s, false, 0, b.l⟩

theorem row_lt' {w : World} {n cap : Nat} {ao : Option Addr} {xs : List Value} (h : w.ownsRow 0 65 4 (.slice ao n cap) n xs) : ∀ k, ao.map (·.block) = some k → k < w.heap.size := by
  intro k hk
  cases ao with
  | none => simp at hk
  | some a => simp at hk; have := row_lt h a rfl; omega

theorem set_mid {w : World} {L e : Nat} {a b c : Value} (h : w.heap[L]? = some (.cells #[a, b, c] e (0, 0))) (v : Value) : (w.setCell ⟨L, 1, none⟩ v).heap[L]? = some (.cells #[a, v, c] e (0, 0)) := by
  simp [World.setCell, Array.getElem?_modify, h]

theorem put_cell {w w' : World} {L o : Nat} {ao ao' : Option Addr} {v : Value} (h : Put w L ao w' ao') : Put w L ao (w'.setCell ⟨L, o, none⟩ v) ao' :=
  ⟨h.os, h.tape, h.output, by have := h.size; simp [World.setCell] at this ⊢; exact this, fun k hk hL ha => (Below.heap_setCell _ _ _ _ hL).trans (h.block k hk hL ha), h.follows⟩

set_option maxHeartbeats 1600000 in
set_option maxRecDepth 100000 in
theorem pushRet_any (L n cap fn fc s : Nat) (ao fo : Option Addr) (es fs : List Ent) (B : Int) (b : Body) (w : World) (h : RL w L ao n cap es fo fn fc fs B) (hn : n ≤ 1048576) (ho : OwnB w b) :
    Calls Try.prog 32 #[.pointer (some ⟨L, 0, none⟩), .int .u64 s, .slice b.ao b.n b.cap] w fun e w' => Pushed w L ao es s b (fun w' ao' cap' es' => RL w' L ao' (n + 1) cap' es' fo fn fc fs B) e w' := by
  obtain ⟨i0, hi, hz0, hz1, hz2⟩ := info_parts info65
  obtain ⟨c0, c1, c2, cf, hL⟩ := head_cells h.ready.head
  have hrow := h.ready.row
  have hhead := h.ready.head
  have HO : Hid (∀ k, fo.map (·.block) = some k → k < w.heap.size) := row_lt' h.fresh
  have hg1 : w.grownBy (w.alloc (.cells (msgCells b.ao b.n b.cap) 63)) none := World.grownBy_alloc _ _ _
  have hm1 : (w.alloc (.cells (msgCells b.ao b.n b.cap) 63)).heap[w.heap.size]? = some (.cells (msgCells b.ao b.n b.cap) 63 (0, 0)) := heap_alloc_new w _
  have hs1 : (w.alloc (.cells (msgCells b.ao b.n b.cap) 63)).heap.size = w.heap.size + 1 := by simp
  obtain ⟨x, hx⟩ : ∃ x : Ent, x = ⟨s, w.heap.size, false, 0⟩ := ⟨_, rfl⟩
  have hg2 : w.grownBy ((w.alloc (.cells (msgCells b.ao b.n b.cap) 63)).alloc (.cells x.cells.toArray 65)) none := grownBy_none_trans hg1 (World.grownBy_alloc _ _ _)
  have hx2 : ((w.alloc (.cells (msgCells b.ao b.n b.cap) 63)).alloc (.cells x.cells.toArray 65)).heap[w.heap.size + 1]? = some (.cells x.cells.toArray 65 (0, 0)) := by rw [← hs1]; exact heap_alloc_new _ _
  have hm2 := heap_kept (World.grownBy_alloc _ (.cells x.cells.toArray 65) none) hm1 (by simp)
  have hrow2 := kept_none hrow hg2
  have hhead2 := heap_kept hg2 hhead (by simp)
  have hcell : ∀ a, (some ⟨w.heap.size + 1, 0, none⟩ : Option Addr) = some a → ∀ j u, x.cells[j]? = some u → ((w.alloc (.cells (msgCells b.ao b.n b.cap) 63)).alloc (.cells x.cells.toArray 65)).cell? (a.add j) = some u := by
    intro a ha j u hu
    obtain rfl := Option.some.inj ha
    exact cell_of hx2 0 j u (by simpa using hu)
  have hxc : x.cells = [.int .u64 s, .pointer (some ⟨w.heap.size, 0, none⟩), .bool false, .int .i64 0] := by rw [hx]; rfl
  have hx1 : ∀ u ∈ x.cells, u.oneCell' = true := fun u hu => entCells_one [x] u (by simpa [entCells] using hu)
  have HX : Hid (x = ⟨s, w.heap.size, false, 0⟩) := hx
  have LAW : Hid (∀ (ops : Array Oper) (rest : List Oper) (o : Oper) (a : Act) (Q : Exit → Act → World → Prop), o.guard = none → o.op = .call { callee := .builtin .append, args := #[.tmp 10, .tmp 16], argTypes := #[66, 66] } → a.eval (.tmp 10) = .slice ao n cap → a.eval (.tmp 16) = .slice (some ⟨w.heap.size + 1, 0, none⟩) 1 1 →
      (∀ ao3 cap3 w3, w3.ownsRow 0 65 4 (.slice ao3 (n + 1) cap3) (n + 1) (entCells (es ++ [x])) → Put w L ao w3 ao3 → w3.heap[L]? = some (.cells #[.slice ao n cap, .slice fo fn fc, .int .i64 B] 68 (0, 0)) → w3.heap[w.heap.size]? = some (.cells (msgCells b.ao b.n b.cap) 63 (0, 0)) → wpList Try.prog ops Q rest (a.put o.dst (.slice ao3 (n + 1) cap3)) w3) → wpList Try.prog ops Q (o :: rest) a ((w.alloc (.cells (msgCells b.ao b.n b.cap) 63)).alloc (.cells x.cells.toArray 65))) := by
    intro ops rest o a Q hgd hop h10 h16 hK
    refine wpList_append_step hgd (.tmp 10) (.tmp 16) 66 hop 65 i0 _ 4 32 Try.underlying66 hi hz0 hz1 hz2 rfl (by decide) _ _ _ h10 hrow2 _ 1 1 x.cells h16 (by rw [hxc]; rfl) (fun h => by simp at h) hcell hx1 (by unfold maxLen; omega) (by omega) (fun v' w' h1 h2 _ => ?_)
    have hb : (Value.slice ao n cap).ownBlock = ao.map (·.block) := ownBlock_sl _ _ _
    rcases h1.2 with ⟨_, h0⟩ | ⟨g, c, cur, rfl, _⟩
    · omega
    · have hgr : w.grownBy w' (ao.map (·.block)) := by
        have g := h2.grown
        rw [hb] at g
        exact ⟨g.os.trans hg2.os, g.tape.trans hg2.tape, g.output.trans hg2.output, Nat.le_trans hg2.size g.size, fun k hk hne => (g.block k (Nat.lt_of_lt_of_le hk hg2.size) hne).trans (hg2.block k hk (by simp))⟩
      refine hK _ _ _ (by rw [entCells_append]; simpa [entCells] using h1) ⟨hgr.os, hgr.tape, hgr.output, hgr.size, fun k hk _ ha => hgr.block k hk ha, ?_⟩ (heap_kept hgr hhead (row_ne hrow hhead (by decide))) (heap_kept (by rw [← hb]; exact h2.grown) hm2 (row_ne hrow2 hm2 (by decide)))
      rcases h2.follows with f | ⟨k, f, hk⟩
      · exact .inl (by rw [hb] at f; exact f)
      · exact .inr ⟨k, f, Nat.le_trans hg2.size hk⟩
  rw [hxc] at LAW
  clear hx hx1 hcell hxc hx2 hm2 hrow2 hhead2 hm1 hs1 hg1 hg2
  go_enter Try.func32, Try.ntmps32
  go_wp2_with (at_builtin; refine LAW.out _ _ _ _ _ rfl rfl rfl rfl ?_; intro ao3 cap3 w3 hown3 hp3 hh3 hm3; obtain ⟨f0, f1, f2, ff, fL⟩ := head_cells hh3)
  go_end0
  have hh4 := set_head hh3 (.slice ao3 (n + 1) cap3)
  have hg4 := grownBy_setCell w3 ⟨L, 0, none⟩ (.slice ao3 (n + 1) cap3)
  have hown4 := hown3.kept hg4 (.inr (by rw [ownBlock_sl]; exact (row_ne hown3 hh3 (by decide)).symm))
  have hoth3 := hp3.row hhead h.fresh (fun k hk e => h.apart k e hk)
  have hoth4 := hoth3.kept hg4 (.inr (by rw [ownBlock_sl]; exact (row_ne hoth3 hh3 (by decide)).symm))
  have hP : Put w L ao (w3.setCell ⟨L, 0, none⟩ (.slice ao3 (n + 1) cap3)) ao3 := put_cell hp3
  have hk : Kind w (w3.setCell ⟨L, 0, none⟩ (.slice ao3 (n + 1) cap3)) := Kind.put hP hhead hrow
  refine ⟨rfl, ao3, cap3, x, ⟨⟨hh4, hown4⟩, hoth4, fun k hk e => put_ne hP (HO.out k e) (fun e2 => h.apart k e2 e) hk⟩, hP, ?_⟩
  rw [HX.out]
  exact ⟨rfl, rfl, rfl, b, (Below.heap_setCell _ _ _ _ (by show w.heap.size ≠ L; omega)).trans hm3, hk.own ho (by decide) (by decide), rfl⟩

set_option maxHeartbeats 1600000 in
set_option maxRecDepth 100000 in
theorem pushFresh_any (L n cap fn fc s : Nat) (ao fo : Option Addr) (es fs : List Ent) (B : Int) (b : Body) (w : World) (h : RL w L ao n cap es fo fn fc fs B) (hn : fn ≤ 1048576) (ho : OwnB w b) :
    Calls Try.prog 33 #[.pointer (some ⟨L, 0, none⟩), .int .u64 s, .slice b.ao b.n b.cap] w fun e w' => Pushed w L fo fs s b (fun w' fo' fc' fs' => RL w' L ao n cap es fo' (fn + 1) fc' fs' B) e w' := by
  obtain ⟨i0, hi, hz0, hz1, hz2⟩ := info_parts info65
  obtain ⟨c0, c1, c2, cf, hL⟩ := head_cells h.ready.head
  have hrow := h.fresh
  have hhead := h.ready.head
  have HO : Hid (∀ k, ao.map (·.block) = some k → k < w.heap.size) := row_lt' h.ready.row
  have hg1 : w.grownBy (w.alloc (.cells (msgCells b.ao b.n b.cap) 63)) none := World.grownBy_alloc _ _ _
  have hm1 : (w.alloc (.cells (msgCells b.ao b.n b.cap) 63)).heap[w.heap.size]? = some (.cells (msgCells b.ao b.n b.cap) 63 (0, 0)) := heap_alloc_new w _
  have hs1 : (w.alloc (.cells (msgCells b.ao b.n b.cap) 63)).heap.size = w.heap.size + 1 := by simp
  obtain ⟨x, hx⟩ : ∃ x : Ent, x = ⟨s, w.heap.size, false, 0⟩ := ⟨_, rfl⟩
  have hg2 : w.grownBy ((w.alloc (.cells (msgCells b.ao b.n b.cap) 63)).alloc (.cells x.cells.toArray 65)) none := grownBy_none_trans hg1 (World.grownBy_alloc _ _ _)
  have hx2 : ((w.alloc (.cells (msgCells b.ao b.n b.cap) 63)).alloc (.cells x.cells.toArray 65)).heap[w.heap.size + 1]? = some (.cells x.cells.toArray 65 (0, 0)) := by rw [← hs1]; exact heap_alloc_new _ _
  have hm2 := heap_kept (World.grownBy_alloc _ (.cells x.cells.toArray 65) none) hm1 (by simp)
  have hrow2 := kept_none hrow hg2
  have hhead2 := heap_kept hg2 hhead (by simp)
  have hcell : ∀ a, (some ⟨w.heap.size + 1, 0, none⟩ : Option Addr) = some a → ∀ j u, x.cells[j]? = some u → ((w.alloc (.cells (msgCells b.ao b.n b.cap) 63)).alloc (.cells x.cells.toArray 65)).cell? (a.add j) = some u := by
    intro a ha j u hu
    obtain rfl := Option.some.inj ha
    exact cell_of hx2 0 j u (by simpa using hu)
  have hxc : x.cells = [.int .u64 s, .pointer (some ⟨w.heap.size, 0, none⟩), .bool false, .int .i64 0] := by rw [hx]; rfl
  have hx1 : ∀ u ∈ x.cells, u.oneCell' = true := fun u hu => entCells_one [x] u (by simpa [entCells] using hu)
  have HX : Hid (x = ⟨s, w.heap.size, false, 0⟩) := hx
  have LAW : Hid (∀ (ops : Array Oper) (rest : List Oper) (o : Oper) (a : Act) (Q : Exit → Act → World → Prop), o.guard = none → o.op = .call { callee := .builtin .append, args := #[.tmp 10, .tmp 16], argTypes := #[66, 66] } → a.eval (.tmp 10) = .slice fo fn fc → a.eval (.tmp 16) = .slice (some ⟨w.heap.size + 1, 0, none⟩) 1 1 →
      (∀ ao3 cap3 w3, w3.ownsRow 0 65 4 (.slice ao3 (fn + 1) cap3) (fn + 1) (entCells (fs ++ [x])) → Put w L fo w3 ao3 → w3.heap[L]? = some (.cells #[.slice ao n cap, .slice fo fn fc, .int .i64 B] 68 (0, 0)) → w3.heap[w.heap.size]? = some (.cells (msgCells b.ao b.n b.cap) 63 (0, 0)) → wpList Try.prog ops Q rest (a.put o.dst (.slice ao3 (fn + 1) cap3)) w3) → wpList Try.prog ops Q (o :: rest) a ((w.alloc (.cells (msgCells b.ao b.n b.cap) 63)).alloc (.cells x.cells.toArray 65))) := by
    intro ops rest o a Q hgd hop h10 h16 hK
    refine wpList_append_step hgd (.tmp 10) (.tmp 16) 66 hop 65 i0 _ 4 32 Try.underlying66 hi hz0 hz1 hz2 rfl (by decide) _ _ _ h10 hrow2 _ 1 1 x.cells h16 (by rw [hxc]; rfl) (fun h => by simp at h) hcell hx1 (by unfold maxLen; omega) (by omega) (fun v' w' h1 h2 _ => ?_)
    have hb : (Value.slice fo fn fc).ownBlock = fo.map (·.block) := ownBlock_sl _ _ _
    rcases h1.2 with ⟨_, h0⟩ | ⟨g, c, cur, rfl, _⟩
    · omega
    · have hgr : w.grownBy w' (fo.map (·.block)) := by
        have g := h2.grown
        rw [hb] at g
        exact ⟨g.os.trans hg2.os, g.tape.trans hg2.tape, g.output.trans hg2.output, Nat.le_trans hg2.size g.size, fun k hk hne => (g.block k (Nat.lt_of_lt_of_le hk hg2.size) hne).trans (hg2.block k hk (by simp))⟩
      refine hK _ _ _ (by rw [entCells_append]; simpa [entCells] using h1) ⟨hgr.os, hgr.tape, hgr.output, hgr.size, fun k hk _ ha => hgr.block k hk ha, ?_⟩ (heap_kept hgr hhead (row_ne hrow hhead (by decide))) (heap_kept (by rw [← hb]; exact h2.grown) hm2 (row_ne hrow2 hm2 (by decide)))
      rcases h2.follows with f | ⟨k, f, hk⟩
      · exact .inl (by rw [hb] at f; exact f)
      · exact .inr ⟨k, f, Nat.le_trans hg2.size hk⟩
  rw [hxc] at LAW
  clear hx hx1 hcell hxc hx2 hm2 hrow2 hhead2 hm1 hs1 hg1 hg2
  go_enter Try.func33, Try.ntmps33
  go_wp2_with (at_builtin; refine LAW.out _ _ _ _ _ rfl rfl rfl rfl ?_; intro ao3 cap3 w3 hown3 hp3 hh3 hm3; obtain ⟨f0, f1, f2, ff, fL⟩ := head_cells hh3)
  go_end0
  have hh4 := set_mid hh3 (.slice ao3 (fn + 1) cap3)
  have hg4 := grownBy_setCell w3 ⟨L, 1, none⟩ (.slice ao3 (fn + 1) cap3)
  have hown4 := hown3.kept hg4 (.inr (by rw [ownBlock_sl]; exact (row_ne hown3 hh3 (by decide)).symm))
  have hoth3 := hp3.row hhead h.ready.row (h.apart)
  have hoth4 := hoth3.kept hg4 (.inr (by rw [ownBlock_sl]; exact (row_ne hoth3 hh3 (by decide)).symm))
  have hP : Put w L fo (w3.setCell ⟨L, 1, none⟩ (.slice ao3 (fn + 1) cap3)) ao3 := put_cell hp3
  have hk : Kind w (w3.setCell ⟨L, 1, none⟩ (.slice ao3 (fn + 1) cap3)) := Kind.put hP hhead hrow
  refine ⟨rfl, ao3, cap3, x, ⟨⟨hh4, hoth4⟩, hown4, fun k hk => put_ne hP (HO.out k hk) (h.apart k hk)⟩, hP, ?_⟩
  rw [HX.out]
  exact ⟨rfl, rfl, rfl, b, (Below.heap_setCell _ _ _ _ (by show w.heap.size ≠ L; omega)).trans hm3, hk.own ho (by decide) (by decide), rfl⟩

end Go.Proofs.Qxb6613717a
