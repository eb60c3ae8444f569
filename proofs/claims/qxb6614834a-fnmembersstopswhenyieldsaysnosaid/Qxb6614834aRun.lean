/- ZZmembersAll, ZZmembersUntil. -/
import Derived.Test.Qxb6614834aMembers
namespace Go.Proofs.Qxb6614834a
open Go.RowKit
set_option linter.unusedVariables false

/-- The value that is handed out: what the first c members hold. -/
def Got (w : World) (rs : List R) (ss os : List Nat) (c : Nat) (e : Ending) : Prop :=
  ∃ (a0 a1 a2 a3 a4 a5 a6 : Option Addr) (c0 c1 c2 c3 c4 c5 c6 t : Nat), t = (rsOf rs os (ss.getD c 0)).length ∧
    e = .returned (.agg #[.slice a0 c c0, .slice a1 c c1, .slice a2 t c2, .slice a3 t c3, .slice a4 t c4, .slice a5 t c5, .slice a6 t c6]) ∧
    SeesV w a0 c c0 (ints .i64 (ksOf c)) ∧ SeesV w a1 c c1 (ints .i64 (lsOf ss c)) ∧
    SeesV w a2 t c2 (ints .i64 ((rsOf rs os (ss.getD c 0)).map (·.b))) ∧ SeesV w a3 t c3 (ints .i32 ((rsOf rs os (ss.getD c 0)).map (·.m))) ∧
    SeesV w a4 t c4 (ints .i32 ((rsOf rs os (ss.getD c 0)).map (·.d))) ∧ SeesV w a5 t c5 (ints .i32 ((rsOf rs os (ss.getD c 0)).map (·.w))) ∧
    SeesV w a6 t c6 (ints .i32 ((rsOf rs os (ss.getD c 0)).map (·.l)))

/-- The seven slices, one by one. -/
theorem After.out {w : World} {B Y c : Nat} {rs : List R} {ss os : List Nat} (h : After w B Y rs ss os c) :
    ∃ (a0 a1 a2 a3 a4 a5 a6 : Option Addr) (c0 c1 c2 c3 c4 c5 c6 t : Nat), t = (rsOf rs os (ss.getD c 0)).length ∧
      w.heap[Y]? = some (.cells #[.slice a0 c c0, .slice a1 c c1, .slice a2 t c2, .slice a3 t c3, .slice a4 t c4, .slice a5 t c5, .slice a6 t c6] 31 (0, 0)) ∧
      ∀ (N : Nat) (V : World), N < B → w.grownBy V (some N) → Got V rs ss os c (.returned (.agg #[.slice a0 c c0, .slice a1 c c1, .slice a2 t c2, .slice a3 t c3, .slice a4 t c4, .slice a5 t c5, .slice a6 t c6])) := by
  obtain ⟨a0, a1, a2, a3, a4, a5, a6, c0, c1, c2, c3, c4, c5, c6, hb⟩ := h
  have lk : (ints .i64 (ksOf c)).length = c := by simp [ints, ksOf]
  have ll : (ints .i64 (lsOf ss c)).length = c := by simp [ints, lsOf]
  have lr : ∀ (k : IntKind) (f : R → Int), (ints k ((rsOf rs os (ss.getD c 0)).map f)).length = (rsOf rs os (ss.getD c 0)).length := fun k f => by simp [ints]
  refine ⟨a0, a1, a2, a3, a4, a5, a6, c0, c1, c2, c3, c4, c5, c6, _, rfl, ?_, fun N V hN hg => ?_⟩
  · have := hb.head
    simp only [fl7, List.map_cons, List.map_nil, Fld.v, lk, ll, lr] at this
    exact this
  · have key : ∀ (i : Nat) (f : Fld) (n : Nat), (fl7 a0 a1 a2 a3 a4 a5 a6 c0 c1 c2 c3 c4 c5 c6 (ints .i64 (ksOf c)) (ints .i64 (lsOf ss c)) (ints .i64 ((rsOf rs os (ss.getD c 0)).map (·.b))) (ints .i32 ((rsOf rs os (ss.getD c 0)).map (·.m))) (ints .i32 ((rsOf rs os (ss.getD c 0)).map (·.d))) (ints .i32 ((rsOf rs os (ss.getD c 0)).map (·.w))) (ints .i32 ((rsOf rs os (ss.getD c 0)).map (·.l))))[i]? = some f → f.xs.length = n → SeesV V f.a n f.c f.xs := by
      intro i f n hf hn
      subst hn
      have o := (hb.own i f hf).2.2
      refine own_seesV (o.kept hg (.inr (fun e => ?_)))
      have := (o.lt N e).1
      omega
    exact ⟨a0, a1, a2, a3, a4, a5, a6, c0, c1, c2, c3, c4, c5, c6, _, rfl, rfl, key 0 _ _ rfl lk, key 1 _ _ rfl ll, key 2 _ _ rfl (lr _ _), key 3 _ _ rfl (lr _ _), key 4 _ _ rfl (lr _ _), key 5 _ _ rfl (lr _ _), key 6 _ _ rfl (lr _ _)⟩

theorem grown_some {w0 w : World} {R p : Nat} (u : Value) (h : w0.grownBy w (some R)) : w0.grownBy (w.setCell ⟨R, p, none⟩ u) (some R) :=
  ⟨h.os, h.tape, h.output, by have := h.size; simp [World.setCell]; exact this, fun i hi hne => (Below.heap_setCell _ _ _ _ (by show i ≠ R; exact fun e => hne (by rw [e]))).trans (h.block i hi hne)⟩

theorem after_zero {w : World} {B Y : Nat} {rs : List R} {ss os : List Nat} (hB : B ≤ Y) (h0 : ss.getD 0 0 = 0)
    (hh : w.heap[Y]? = some (.cells #[.slice none 0 0, .slice none 0 0, .slice none 0 0, .slice none 0 0, .slice none 0 0, .slice none 0 0, .slice none 0 0] 31 (0, 0))) : After w B Y rs ss os 0 := by
  unfold After Yielded
  have e1 : ksOf 0 = [] := rfl
  have e2 : lsOf ss 0 = [] := rfl
  have e3 : rsOf rs os (ss.getD 0 0) = [] := by rw [h0]; rfl
  rw [e1, e2, e3]
  refine ⟨none, none, none, none, none, none, none, 0, 0, 0, 0, 0, 0, 0, hB, hh, ?_, ?_⟩
  · intro a f hf
    match a, hf with
    | 0, hf | 1, hf | 2, hf | 3, hf | 4, hf | 5, hf | 6, hf =>
      obtain rfl := Option.some.inj hf
      exact ⟨by decide, by decide, World.ownsRow_nil _ _ _ _⟩
    | n + 7, hf => simp [fl7, ints] at hf
  · intro a b f g _ hf _ k hk
    match a, hf with
    | 0, hf | 1, hf | 2, hf | 3, hf | 4, hf | 5, hf | 6, hf =>
      obtain rfl := Option.some.inj hf
      simp [Fld.v, Value.ownBlock] at hk
    | n + 7, hf => simp [fl7, ints] at hf

theorem enter_of {f : FuncId} {fn : Func} (hf : Try.prog.funcs[f]? = some fn) (hn : (fn.name == "runtime.NumGoroutine") = false) (hb : fn.body.isSome = true) (args : Array Value) (w : World) : (callFunc f args).run Try.prog w = .ok (.enter f args) w := by
  have h1 : fn.name ≠ "runtime.NumGoroutine" := by simpa using hn
  obtain ⟨c, hc⟩ := Option.isSome_iff_exists.1 hb
  simp [callFunc, hf, h1, hc]

theorem enter14 : ∀ (args : Array Value) (w : World), (callFunc 14 args).run Try.prog w = .ok (.enter 14 args) w := enter_of Try.func14 (by kernel_rfl) (by kernel_rfl)
theorem enter16 : ∀ (args : Array Value) (w : World), (callFunc 16 args).run Try.prog w = .ok (.enter 16 args) w := enter_of Try.func16 (by kernel_rfl) (by kernel_rfl)

/-- The seven cells of the result. -/
theorem set7 {w : World} {N : Nat} {x0 x1 x2 x3 x4 x5 x6 : Value} (h : w.heap[N]? = some (.cells #[x0, x1, x2, x3, x4, x5, x6] 31 (0, 0))) (v0 v1 v2 v3 v4 v5 v6 : Value) :
    (((((((w.setCell ⟨N, 0, none⟩ v0).setCell ⟨N, 1, none⟩ v1).setCell ⟨N, 2, none⟩ v2).setCell ⟨N, 3, none⟩ v3).setCell ⟨N, 4, none⟩ v4).setCell ⟨N, 5, none⟩ v5).setCell ⟨N, 6, none⟩ v6).heap[N]? = some (.cells #[v0, v1, v2, v3, v4, v5, v6] 31 (0, 0)) ∧
    w.grownBy (((((((w.setCell ⟨N, 0, none⟩ v0).setCell ⟨N, 1, none⟩ v1).setCell ⟨N, 2, none⟩ v2).setCell ⟨N, 3, none⟩ v3).setCell ⟨N, 4, none⟩ v4).setCell ⟨N, 5, none⟩ v5).setCell ⟨N, 6, none⟩ v6) (some N) :=
  ⟨set_at (set_at (set_at (set_at (set_at (set_at (set_at (cs := [x0, x1, x2, x3, x4, x5, x6]) h _) _) _) _) _) _) _,
   grown_some _ (grown_some _ (grown_some _ (grown_some _ (grown_some _ (grown_some _ (grown_some _ ⟨rfl, rfl, rfl, Nat.le_refl _, fun _ _ _ => rfl⟩))))))⟩

theorem size31 : (Try.prog.info? 31).map (·.size) = some 7 := by kernel_rfl

abbrev nil7 : Obj := .cells #[.slice none 0 0, .slice none 0 0, .slice none 0 0, .slice none 0 0, .slice none 0 0, .slice none 0 0, .slice none 0 0] 31

set_option maxHeartbeats 1600000 in
set_option maxRecDepth 100000 in
theorem mall_any (L : Lay) (m : Nat) (rs : List R) (ss os : List Nat) (w : World) (hE : Exp w L rs ss os) (h0 : ss.getD 0 0 = 0)
    (hm : ss.length = m + 1) (hms : m ≤ 32768) (hos : os.length ≤ 32768) (hrs : rs.length ≤ 32768) (hsm : Small ss) (hso : Small os) (mono : ∀ i j, i ≤ j → j ≤ m → ss.getD i 0 ≤ ss.getD j 0) (last : ss.getD m 0 = os.length) (rows : ∀ i, i < os.length → os.getD i 0 < rs.length) :
    Calls Try.prog 9 #[.pointer (some ⟨L.E, 0, none⟩)] w fun e w' => Got w' rs ss os m e ∧ Below w.heap.size w w' := by
  go_enter Try.func9, Try.ntmps9
  go_upto_region 2 with fail
  have g1 : w.grownBy (w.alloc nil7) none := World.grownBy_alloc _ _ _
  have hbl1 : Below w.heap.size w (w.alloc nil7) := (Below.refl _ _).grown g1 (Nat.le_refl _) (by simp)
  have hE1 : Exp (w.alloc nil7) L rs ss os := hE.below hbl1
  have hs1 : (w.alloc nil7).heap.size = w.heap.size + 1 := by simp
  have hr1 := heap_alloc_new w nil7
  clear g1 hE
  generalize w.alloc _ = W1 at hE1 hs1 hr1 hbl1 ⊢
  have hb2 : Below (w.heap.size + 1) W1 (W1.alloc nil7) := (Below.refl _ _).alloc (by omega) _
  have hh2 := heap_alloc_new W1 nil7
  rw [hs1] at hh2
  have hA := after_zero (B := w.heap.size + 1) (Y := w.heap.size + 1) (rs := rs) (ss := ss) (os := os) (Nat.le_refl _) h0 hh2
  have C := members_any 14 (w.heap.size + 1) (w.heap.size + 1) m #[.pointer (some ⟨w.heap.size + 1, 0, none⟩)] L rs ss os (fun _ => true) W1 _ hE1 (by omega) hb2 hA hm hms hos hrs hsm hso mono last rows enter14
    (fun c n cap ao nr w' h1 h2 h3 h4 h5 h6 h7 => all_any (w.heap.size + 1) (w.heap.size + 1) c n cap ao rs nr ss os w' h1 h3 hos h4 h5 h6 h7)
  clear hA hh2 hb2 hE1 hs1 mono last rows hsm hso
  generalize W1.alloc _ = W2 at C ⊢
  go_wp2_with (go_at_call 13; refine C.mono ?_)
  rintro e w' ⟨rfl, c, hcm, hc, hmo, hA, hb⟩
  obtain rfl : c = m := by
    rcases hc with h | ⟨_, h⟩
    · exact h
    · simp at h
  obtain ⟨a0, a1, a2, a3, a4, a5, a6, c0, c1, c2, c3, c4, c5, c6, t, ht, hY, hG⟩ := hA.out
  have hr2 : w'.heap[w.heap.size]? = some nil7 := (hb.block _ (by omega)).trans hr1
  have HG : Hid (∀ (N : Nat) (V : World), N < w.heap.size + 1 → w'.grownBy V (some N) → Got V rs ss os c (.returned (.agg #[.slice a0 c c0, .slice a1 c c1, .slice a2 t c2, .slice a3 t c3, .slice a4 t c4, .slice a5 t c5, .slice a6 t c6]))) := hG
  have HB : Hid (Below w.heap.size w w') := hbl1.trans (hb.mono (by omega))
  clear C hA hG hb hbl1 hr1 hmo hc ht
  obtain ⟨d0, _⟩ := heads hY 0 _ rfl
  obtain ⟨d1, _⟩ := heads hY 1 _ rfl
  obtain ⟨d2, _⟩ := heads hY 2 _ rfl
  obtain ⟨d3, _⟩ := heads hY 3 _ rfl
  obtain ⟨d4, _⟩ := heads hY 4 _ rfl
  obtain ⟨d5, _⟩ := heads hY 5 _ rfl
  obtain ⟨d6, _⟩ := heads hY 6 _ rfl
  obtain ⟨r0, f0⟩ := heads hr2 0 _ rfl
  obtain ⟨r1, f1⟩ := heads hr2 1 _ rfl
  obtain ⟨r2, f2⟩ := heads hr2 2 _ rfl
  obtain ⟨r3, f3⟩ := heads hr2 3 _ rfl
  obtain ⟨r4, f4⟩ := heads hr2 4 _ rfl
  obtain ⟨r5, f5⟩ := heads hr2 5 _ rfl
  obtain ⟨r6, f6⟩ := heads hr2 6 _ rfl
  clear hY
  go_wp2_with fail
  obtain ⟨hV, hgV⟩ := set7 hr2 (.slice a0 c c0) (.slice a1 c c1) (.slice a2 t c2) (.slice a3 t c3) (.slice a4 t c4) (.slice a5 t c5) (.slice a6 t c6)
  clear d0 d1 d2 d3 d4 d5 d6 r0 r1 r2 r3 r4 r5 r6 f0 f1 f2 f3 f4 f5 f6 hr2
  generalize World.setCell _ _ _ = V at hV hgV ⊢
  refine bodyPost_ret (results_cell_row rfl _ _ w.heap.size 31 _ (0, 0) _ rfl hV Try.underlying31 rfl size31) rfl ?_
  exact ⟨HG.out _ _ (by omega) hgV, HB.out.grown hgV (HB.out.size) (by simp)⟩

set_option maxHeartbeats 1600000 in
set_option maxRecDepth 100000 in
theorem muntil_any (stop : Int) (L : Lay) (m : Nat) (rs : List R) (ss os : List Nat) (w : World) (hE : Exp w L rs ss os) (h0 : ss.getD 0 0 = 0)
    (hm : ss.length = m + 1) (hms : m ≤ 32768) (hos : os.length ≤ 32768) (hrs : rs.length ≤ 32768) (hsm : Small ss) (hso : Small os) (mono : ∀ i j, i ≤ j → j ≤ m → ss.getD i 0 ≤ ss.getD j 0) (last : ss.getD m 0 = os.length) (rows : ∀ i, i < os.length → os.getD i 0 < rs.length) :
    Calls Try.prog 12 #[.pointer (some ⟨L.E, 0, none⟩), .int .i64 stop] w fun e w' => (∃ c, c ≤ m ∧ (c = m ∨ (0 < c ∧ stop ≤ (c : Int))) ∧ (∀ i : Nat, 0 < i → i < c → (i : Int) < stop) ∧ Got w' rs ss os c e) ∧ Below w.heap.size w w' := by
  go_enter Try.func12, Try.ntmps12
  go_upto_region 2 with fail
  have g0 : w.grownBy (w.alloc (.cells #[.int .i64 stop] 3)) none := World.grownBy_alloc _ _ _
  have hs0 : (w.alloc (.cells #[.int .i64 stop] 3)).heap.size = w.heap.size + 1 := by simp
  have hT0 : (w.alloc (.cells #[.int .i64 stop] 3)).cell? ⟨w.heap.size, 0, none⟩ = some (.int .i64 stop) := World.cell?_alloc_new _ _ _ _
  generalize w.alloc _ = W0 at g0 hs0 hT0 ⊢
  have g1 : W0.grownBy (W0.alloc nil7) none := World.grownBy_alloc _ _ _
  have hbl1 : Below w.heap.size w (W0.alloc nil7) := (Below.refl _ _).grown (grownBy_none_trans g0 g1) (Nat.le_refl _) (by simp)
  have hE1 : Exp (W0.alloc nil7) L rs ss os := hE.below hbl1
  have hs1 : (W0.alloc nil7).heap.size = w.heap.size + 2 := by simp; omega
  have hr1 := heap_alloc_new W0 nil7
  rw [hs0] at hr1
  have hT1 := g1.cell hT0 (by simp)
  clear g1 hE g0 hT0
  generalize W0.alloc _ = W1 at hE1 hs1 hr1 hbl1 hT1 ⊢
  have hb2 : Below (w.heap.size + 2) W1 (W1.alloc nil7) := (Below.refl _ _).alloc (by omega) _
  have hh2 := heap_alloc_new W1 nil7
  rw [hs1] at hh2
  have hA := after_zero (B := w.heap.size + 2) (Y := w.heap.size + 2) (rs := rs) (ss := ss) (os := os) (Nat.le_refl _) h0 hh2
  have C := members_any 16 (w.heap.size + 2) (w.heap.size + 2) m #[.pointer (some ⟨w.heap.size + 2, 0, none⟩), .pointer (some ⟨w.heap.size, 0, none⟩)] L rs ss os (fun k => decide ((k : Int) < stop)) W1 _ hE1 (by omega) hb2 hA hm hms hos hrs hsm hso mono last rows enter16
    (fun c n cap ao nr w' h1 h2 h3 h4 h5 h6 h7 => until_any (w.heap.size + 2) (w.heap.size + 2) w.heap.size c n cap stop ao rs nr ss os w' h1 (by rw [← hT1]; exact World.cell?_of_block (h2.block _ (by show w.heap.size < _; omega))) (by omega) h3 hos h4 h5 h6 h7)
  clear hA hh2 hb2 hE1 hs1 mono last rows hsm hso hT1 hs0
  generalize W1.alloc _ = W2 at C ⊢
  go_wp2_with (go_at_call 13; refine C.mono ?_)
  rintro e w' ⟨rfl, c, hcm, hc, hmo, hA, hb⟩
  have HC : Hid (c ≤ m ∧ (c = m ∨ (0 < c ∧ stop ≤ (c : Int))) ∧ (∀ i : Nat, 0 < i → i < c → (i : Int) < stop)) := by
    refine ⟨hcm, ?_, fun i h1 h2 => by simpa using hmo i h1 h2⟩
    rcases hc with h | ⟨h1, h2⟩
    · exact .inl h
    · exact .inr ⟨h1, by simpa using h2⟩
  obtain ⟨a0, a1, a2, a3, a4, a5, a6, c0, c1, c2, c3, c4, c5, c6, t, ht, hY, hG⟩ := hA.out
  have hr2 : w'.heap[w.heap.size + 1]? = some nil7 := (hb.block _ (by omega)).trans hr1
  have HG : Hid (∀ (N : Nat) (V : World), N < w.heap.size + 2 → w'.grownBy V (some N) → Got V rs ss os c (.returned (.agg #[.slice a0 c c0, .slice a1 c c1, .slice a2 t c2, .slice a3 t c3, .slice a4 t c4, .slice a5 t c5, .slice a6 t c6]))) := hG
  have HB : Hid (Below w.heap.size w w') := hbl1.trans (hb.mono (by omega))
  clear C hA hG hb hbl1 hr1 hmo hc ht
  obtain ⟨d0, _⟩ := heads hY 0 _ rfl
  obtain ⟨d1, _⟩ := heads hY 1 _ rfl
  obtain ⟨d2, _⟩ := heads hY 2 _ rfl
  obtain ⟨d3, _⟩ := heads hY 3 _ rfl
  obtain ⟨d4, _⟩ := heads hY 4 _ rfl
  obtain ⟨d5, _⟩ := heads hY 5 _ rfl
  obtain ⟨d6, _⟩ := heads hY 6 _ rfl
  obtain ⟨r0, f0⟩ := heads hr2 0 _ rfl
  obtain ⟨r1, f1⟩ := heads hr2 1 _ rfl
  obtain ⟨r2, f2⟩ := heads hr2 2 _ rfl
  obtain ⟨r3, f3⟩ := heads hr2 3 _ rfl
  obtain ⟨r4, f4⟩ := heads hr2 4 _ rfl
  obtain ⟨r5, f5⟩ := heads hr2 5 _ rfl
  obtain ⟨r6, f6⟩ := heads hr2 6 _ rfl
  clear hY
  go_wp2_with fail
  obtain ⟨hV, hgV⟩ := set7 hr2 (.slice a0 c c0) (.slice a1 c c1) (.slice a2 t c2) (.slice a3 t c3) (.slice a4 t c4) (.slice a5 t c5) (.slice a6 t c6)
  clear d0 d1 d2 d3 d4 d5 d6 r0 r1 r2 r3 r4 r5 r6 f0 f1 f2 f3 f4 f5 f6 hr2
  generalize World.setCell _ _ _ = V at hV hgV ⊢
  refine bodyPost_ret (results_cell_row rfl _ _ (w.heap.size + 1) 31 _ (0, 0) _ rfl hV Try.underlying31 rfl size31) rfl ?_
  exact ⟨⟨c, HC.out.1, HC.out.2.1, HC.out.2.2, HG.out _ _ (by omega) hgV⟩, HB.out.grown hgV (HB.out.size) (by simp)⟩

end Go.Proofs.Qxb6614834a
