/- zzTake: the seven slices of what was yielded. -/
import Derived.Test.Qxb6614834aBag
import Derived.Deep.RegionHeld3
import Derived.Deep.RegionLaw
import Derived.Deep.DeepCutAuto
namespace Go.Proofs.Qxb6614834a
open Go.RowKit
set_option linter.unusedVariables false

def fl7 (a0 a1 a2 a3 a4 a5 a6 : Option Addr) (c0 c1 c2 c3 c4 c5 c6 : Nat) (x0 x1 x2 x3 x4 x5 x6 : List Value) : List Fld :=
  [⟨3, a0, c0, x0⟩, ⟨3, a1, c1, x1⟩, ⟨2, a2, c2, x2⟩, ⟨21, a3, c3, x3⟩, ⟨21, a4, c4, x4⟩, ⟨21, a5, c5, x5⟩, ⟨21, a6, c6, x6⟩]

/-- The struct at Y holds seven slices of its own, with these cells. -/
def Seven (w : World) (B Y : Nat) (x0 x1 x2 x3 x4 x5 x6 : List Value) : Prop := ∃ a0 a1 a2 a3 a4 a5 a6 c0 c1 c2 c3 c4 c5 c6, Bag w B Y (fl7 a0 a1 a2 a3 a4 a5 a6 c0 c1 c2 c3 c4 c5 c6 x0 x1 x2 x3 x4 x5 x6)

/-- What was yielded. -/
def Yielded (w : World) (B Y : Nat) (ks ls : List Int) (rs : List R) : Prop :=
  Seven w B Y (ints .i64 ks) (ints .i64 ls) (ints .i64 (rs.map (·.b))) (ints .i32 (rs.map (·.m))) (ints .i32 (rs.map (·.d))) (ints .i32 (rs.map (·.w))) (ints .i32 (rs.map (·.l)))

theorem info3 : (Try.prog.info? 3).map (fun i => (i.zero, i.size, i.bytes)) = some (some (.int .i64 0), 1, 8) := by kernel_rfl
theorem info2 : (Try.prog.info? 2).map (fun i => (i.zero, i.size, i.bytes)) = some (some (.int .i64 0), 1, 8) := by kernel_rfl
theorem info21 : (Try.prog.info? 21).map (fun i => (i.zero, i.size, i.bytes)) = some (some (.int .i32 0), 1, 4) := by kernel_rfl

/-- Rows in a block of rows. -/
structure RowsAt (w : World) (ao : Option Addr) (m : Nat) (rs : List R) : Prop where
  len : rs.length = m
  nil : ao = none → m = 0
  at' : ∀ a, ao = some a → ∃ (g o : Nat) (cs : Array Value), a = ⟨g, o, none⟩ ∧ w.heap[g]? = some (.cells cs 42 (0, 0)) ∧ ∀ i j v, i < m → (rs.getD i R0).cells[j]? = some v → cs[o + i * 5 + j]? = some v

theorem RowsAt.kept {B : Nat} {w w' : World} {ao : Option Addr} {m : Nat} {rs : List R} (h : RowsAt w ao m rs) (hk : Keeps B w w') : RowsAt w' ao m rs :=
  ⟨h.len, h.nil, fun a ha => by obtain ⟨g, o, cs, e, hg, hc⟩ := h.at' a ha; exact ⟨g, o, cs, e, hk.rows g cs _ hg, hc⟩⟩

theorem heads {w : World} {Y : Nat} {v0 v1 v2 v3 v4 v5 v6 : Value} (h : w.heap[Y]? = some (.cells #[v0, v1, v2, v3, v4, v5, v6] 31 (0, 0))) (i : Nat) (v : Value) (hv : [v0, v1, v2, v3, v4, v5, v6][i]? = some v) : w.cell? ⟨Y, i, none⟩ = some v ∧ w.frozen? ⟨Y, i, none⟩ = false :=
  cell_mid (cs := [v0, v1, v2, v3, v4, v5, v6]) h hv

/-- A push in a plain region, as a law for the walk. -/
def PushLaw (w : World) (B Y i : Nat) (fs : List Fld) (f : Fld) (x : Value) (s y : Nat) (t : TypeId) (n : Nat) (hn : f.xs.length = n) : Prop :=
  ∀ (ops : Array Oper) (rest : List Oper) (o : Oper) (a : Act) (Q : Exit → Act → World → Prop), o.guard = none → o.op = .call { callee := .builtin .append, args := #[.tmp s, .tmp y], argTypes := #[t, t] } → a.eval (.tmp s) = f.v → a.eval (.tmp y) = .slice (some ⟨w.heap.size, 0, none⟩) 1 1 →
      (∀ g cap w2, Pushed w B Y i fs f x g cap w2 → wpList Try.prog ops Q rest (a.put o.dst (.slice (some ⟨g, 0, none⟩) (n + 1) cap)) w2) → wpList Try.prog ops Q (o :: rest) a (w.alloc (.cells #[x] f.e))

theorem pushLaw {w : World} {B Y i : Nat} {fs : List Fld} {f : Fld} {x : Value} {s y : Nat} {t : TypeId} {z : Value} {bytes n : Nat} (hn : f.xs.length = n) (hu : Try.prog.underlying t = some (.slice f.e))
    (hinfo : (Try.prog.info? f.e).map (fun i => (i.zero, i.size, i.bytes)) = some (some z, 1, bytes)) (hz : z.cells.size = 1) (hby : bytes ≤ 8) (h : Bag w B Y fs) (hi : fs[i]? = some f) (hx1 : x.oneCell' = true) (hlen : n ≤ 1048576) : PushLaw w B Y i fs f x s y t n hn := by
  subst hn
  intro ops rest o a Q hgd hop h11 h13 hK
  exact wpList_push hgd (.tmp s) (.tmp y) t hop w _ B Y i fs f x z bytes hu hinfo hz hby h hi (World.grownBy_alloc _ _ _) w.heap.size (Nat.le_refl _) f.e (heap_alloc_new w _) hx1 hlen h11 h13 hK

/-- A push in a region that draws its order. -/
def StepLaw (w : World) (B Y i : Nat) (fs : List Fld) (f : Fld) (x : Value) (s y : Nat) (t : TypeId) (n : Nat) (hn : f.xs.length = n) : Prop :=
  ∀ (ops : Array Oper) (o : Oper) (a : Act) (K : Act → World → Prop) (Q : Exit → Act → World → Prop) (E : Prop), o.guard = none → o.op = .call { callee := .builtin .append, args := #[.tmp s, .tmp y], argTypes := #[t, t] } → a.eval (.tmp s) = f.v → a.eval (.tmp y) = .slice (some ⟨w.heap.size, 0, none⟩) 1 1 →
      (∀ g cap w2, Pushed w B Y i fs f x g cap w2 → K (a.put o.dst (.slice (some ⟨g, 0, none⟩) (n + 1) cap)) w2) → (if Region.wanted o (yielded ops a.tmps) = true then Oper.wp Try.prog o a (w.alloc (.cells #[x] f.e)).drew K Q else E)

theorem stepLaw {w : World} {B Y i : Nat} {fs : List Fld} {f : Fld} {x : Value} {s y : Nat} {t : TypeId} {z : Value} {bytes n : Nat} (hn : f.xs.length = n) (hu : Try.prog.underlying t = some (.slice f.e))
    (hinfo : (Try.prog.info? f.e).map (fun i => (i.zero, i.size, i.bytes)) = some (some z, 1, bytes)) (hz : z.cells.size = 1) (hby : bytes ≤ 8) (h : Bag w B Y fs) (hi : fs[i]? = some f) (hx1 : x.oneCell' = true) (hlen : n ≤ 1048576) : StepLaw w B Y i fs f x s y t n hn := by
  subst hn
  intro ops o a K Q E hgd hop h11 h13 hK
  have hg : w.grownBy (w.alloc (.cells #[x] f.e)).drew none := grownBy_none_trans (World.grownBy_alloc _ _ _) (grownBy_drewN _ 1 none)
  exact step_push hgd (.tmp s) (.tmp y) t hop w _ B Y i fs f x z bytes hu hinfo hz hby h hi hg w.heap.size (Nat.le_refl _) f.e (heap_alloc_new w _) hx1 hlen h11 h13 hK

theorem R.at {rs : List R} {i j m o : Nat} {cs : Array Value} {r : R} {v : Value} (hc : ∀ i j v, i < m → (rs.getD i R0).cells[j]? = some v → cs[o + i * 5 + j]? = some v) (hi : i < m) (hr : rs.getD i R0 = r) (hv : r.cells[j]? = some v) : cs[o + i * 5 + j]? = some v := hc i j v hi (by rw [hr]; exact hv)

theorem ints_take {k : IntKind} {nr : List R} {i : Nat} {r : R} {f : R → Int} (hr : nr.getD i R0 = r) (hi : i < nr.length) : ints k ((nr.take (i + 1)).map f) = ints k ((nr.take i).map f) ++ [.int k (f r)] := by
  have e : nr[i] = r := by rw [← hr]; simp [List.getD_eq_getElem?_getD, hi]
  rw [List.take_succ_eq_append_getElem hi, e]
  simp only [ints, List.map_append, List.map_cons, List.map_nil]

theorem cell_rows {w : World} {g o : Nat} {cs : Array Value} {v : Value} (h : w.heap[g]? = some (.cells cs 42 (0, 0))) (hv : cs[o]? = some v) : w.cell? ⟨g, o, none⟩ = some v := by
  simp only [World.cell?, h]
  simpa using hv

set_option maxHeartbeats 30000000 in
set_option maxRecDepth 100000 in
theorem take_any (B Y m c : Nat) (k : Int) (ao : Option Addr) (x0 x1 x2 x3 x4 x5 x6 : List Value) (nr : List R) (w : World)
    (h : Seven w B Y x0 x1 x2 x3 x4 x5 x6) (hr : RowsAt w ao m nr) (h0 : x0.length ≤ 1048576) (h1 : x1.length ≤ 1048576) (h2 : x2.length + m ≤ 1048576) (h3 : x3.length + m ≤ 1048576) (h4 : x4.length + m ≤ 1048576) (h5 : x5.length + m ≤ 1048576) (h6 : x6.length + m ≤ 1048576) :
    Calls Try.prog 15 #[.pointer (some ⟨Y, 0, none⟩), .int .i64 k, .slice ao m c] w fun e w' => e = .returned (.tuple #[]) ∧
      Seven w' B Y (x0 ++ [.int .i64 k]) (x1 ++ [.int .i64 m]) (x2 ++ ints .i64 (nr.map (·.b))) (x3 ++ ints .i32 (nr.map (·.m))) (x4 ++ ints .i32 (nr.map (·.d))) (x5 ++ ints .i32 (nr.map (·.w))) (x6 ++ ints .i32 (nr.map (·.l))) ∧ Keeps B w w' := by
  obtain ⟨a0, a1, a2, a3, a4, a5, a6, c0, c1, c2, c3, c4, c5, c6, hb⟩ := h
  obtain ⟨d0, f0⟩ := heads hb.head 0 _ rfl
  have LAW0 : Hid (PushLaw w B Y 0 _ ⟨3, a0, c0, x0⟩ (.int .i64 k) 11 13 29 x0.length rfl) := pushLaw rfl Try.underlying29 info3 rfl (by decide) hb rfl rfl h0
  have d0' : w.cell? ⟨Y, 0, none⟩ = some (.slice a0 x0.length c0) := d0
  clear d0
  go_enter Try.func15, Try.ntmps15
  go_upto_region 1 with (at_builtin; refine LAW0.out _ _ _ _ _ rfl rfl rfl rfl ?_; intro g0 cap0 w2 hp; have p0 := hp.cell; have p1 := hp.free)
  have hb1 : Bag _ B Y (fl7 (some ⟨g0, 0, none⟩) a1 a2 a3 a4 a5 a6 cap0 c1 c2 c3 c4 c5 c6 (x0 ++ [.int .i64 k]) x1 x2 x3 x4 x5 x6) := hp.bag
  have k1 := hp.keeps
  clear hb LAW0 d0' f0 p0 p1 hp
  generalize w2.setCell _ _ = W1 at hb1 k1 ⊢
  obtain ⟨d0, f0⟩ := heads hb1.head 1 _ rfl
  have LAW0 : Hid (PushLaw W1 B Y 1 _ ⟨3, a1, c1, x1⟩ (.int .i64 m) 21 24 29 x1.length rfl) := pushLaw rfl Try.underlying29 info3 rfl (by decide) hb1 rfl rfl h1
  have d0' : W1.cell? ⟨Y, 1, none⟩ = some (.slice a1 x1.length c1) := d0
  clear d0
  go_upto_region 3 with (at_builtin; refine LAW0.out _ _ _ _ _ rfl rfl rfl rfl ?_; intro g1 cap1 w2 hp; have p0 := hp.cell; have p1 := hp.free)
  have hb2 : Bag _ B Y (fl7 (some ⟨g0, 0, none⟩) (some ⟨g1, 0, none⟩) a2 a3 a4 a5 a6 cap0 cap1 c2 c3 c4 c5 c6 (x0 ++ [.int .i64 k]) (x1 ++ [.int .i64 m]) x2 x3 x4 x5 x6) := hp.bag
  have k2 := k1.trans hp.keeps
  clear hb1 LAW0 d0' f0 p0 p1 hp k1
  generalize w2.setCell _ _ = W2 at hb2 k2 ⊢
  have hs2 : Seven W2 B Y (x0 ++ [.int .i64 k]) (x1 ++ [.int .i64 m]) x2 x3 x4 x5 x6 := ⟨_, _, _, _, _, _, _, _, _, _, _, _, _, _, hb2⟩
  clear hb2
  go_loopw [6] (fun vi wr => ∃ i : Nat, i ≤ m ∧ vi = .int .i64 i ∧ Hid (Seven wr B Y (x0 ++ [.int .i64 k]) (x1 ++ [.int .i64 m]) (x2 ++ ints .i64 ((nr.take i).map (·.b))) (x3 ++ ints .i32 ((nr.take i).map (·.m))) (x4 ++ ints .i32 ((nr.take i).map (·.d))) (x5 ++ ints .i32 ((nr.take i).map (·.w))) (x6 ++ ints .i32 ((nr.take i).map (·.l)))) ∧ Keeps B w wr) (fun vi _ => m - (intOf vi).toNat)
  case atStart => exact ⟨0, Nat.zero_le _, rfl, by show Seven _ _ _ _ _ _ _ _ _ _; simpa [ints] using hs2, k2⟩
  case round =>
    obtain ⟨i, hi, rfl, HS, hk⟩ := hrel
    by_cases hlt : i < m
    · have hr2 := hr.kept hk
      cases ao with
      | none => exact absurd (hr2.nil rfl) (by omega)
      | some a =>
        obtain ⟨g, o, cs, rfl, hg, hc⟩ := hr2.at' a rfl
        obtain ⟨r, er⟩ : ∃ r, nr.getD i R0 = r := ⟨_, rfl⟩
        have r0 := R.at (j := 0) hc hlt er rfl
        have r1 := R.at (j := 1) hc hlt er rfl
        have r2 := R.at (j := 2) hc hlt er rfl
        have r3 := R.at (j := 3) hc hlt er rfl
        have r4 := R.at (j := 4) hc hlt er rfl
        have HR : Hid (nr.getD i R0 = r) := er
        have HN : Hid (nr.length = m) := hr2.len
        clear er hc hr2 hr k2 hs2
        obtain ⟨b, rm, d, rw, l⟩ := r
        have l2 : (x2 ++ ints .i64 ((nr.take i).map (·.b))).length ≤ 1048576 := by simp [ints]; omega
        have l3 : (x3 ++ ints .i32 ((nr.take i).map (·.m))).length ≤ 1048576 := by simp [ints]; omega
        have l4 : (x4 ++ ints .i32 ((nr.take i).map (·.d))).length ≤ 1048576 := by simp [ints]; omega
        have l5 : (x5 ++ ints .i32 ((nr.take i).map (·.w))).length ≤ 1048576 := by simp [ints]; omega
        have l6 : (x6 ++ ints .i32 ((nr.take i).map (·.l))).length ≤ 1048576 := by simp [ints]; omega
        have hm : m ≤ 1048576 := by omega
        obtain ⟨X0, E0⟩ : ∃ X, x0 ++ [.int .i64 k] = X := ⟨_, rfl⟩
        obtain ⟨X1, E1⟩ : ∃ X, x1 ++ [.int .i64 m] = X := ⟨_, rfl⟩
        obtain ⟨X2, E2⟩ : ∃ X, x2 ++ ints .i64 ((nr.take i).map (·.b)) = X := ⟨_, rfl⟩
        obtain ⟨X3, E3⟩ : ∃ X, x3 ++ ints .i32 ((nr.take i).map (·.m)) = X := ⟨_, rfl⟩
        obtain ⟨X4, E4⟩ : ∃ X, x4 ++ ints .i32 ((nr.take i).map (·.d)) = X := ⟨_, rfl⟩
        obtain ⟨X5, E5⟩ : ∃ X, x5 ++ ints .i32 ((nr.take i).map (·.w)) = X := ⟨_, rfl⟩
        obtain ⟨X6, E6⟩ : ∃ X, x6 ++ ints .i32 ((nr.take i).map (·.l)) = X := ⟨_, rfl⟩
        rw [E0, E1, E2, E3, E4, E5, E6] at HS
        rw [E2] at l2
        rw [E3] at l3
        rw [E4] at l4
        rw [E5] at l5
        rw [E6] at l6
        have HE : Hid (x0 ++ [.int .i64 k] = X0 ∧ x1 ++ [.int .i64 m] = X1 ∧ x2 ++ ints .i64 ((nr.take i).map (·.b)) = X2 ∧ x3 ++ ints .i32 ((nr.take i).map (·.m)) = X3 ∧ x4 ++ ints .i32 ((nr.take i).map (·.d)) = X4 ∧ x5 ++ ints .i32 ((nr.take i).map (·.w)) = X5 ∧ x6 ++ ints .i32 ((nr.take i).map (·.l)) = X6) := ⟨E0, E1, E2, E3, E4, E5, E6⟩
        clear E0 E1 E2 E3 E4 E5 E6 h0 h1 h2 h3 h4 h5 h6
        -- GEN
        obtain ⟨a0_0, a1_0, a2_0, a3_0, a4_0, a5_0, a6_0, c0_0, c1_0, c2_0, c3_0, c4_0, c5_0, c6_0, hb⟩ := HS.out
        clear HS
        go_upto_region 5 with fail
        obtain ⟨d0, f0⟩ := heads hb.head 2 _ rfl
        have d0' : wr.cell? ⟨Y, 2, none⟩ = some (.slice a2_0 X2.length c2_0) := d0
        have e0 := cell_rows hg r0
        have e0' : wr.cell? ⟨g, o + i * 5, none⟩ = some (.int .i64 b) := e0
        have LAW : Hid (StepLaw wr B Y 2 _ ⟨2, a2_0, c2_0, X2⟩ (.int .i64 b) 38 44 22 X2.length rfl) := stepLaw rfl Try.underlying22 info2 rfl (by decide) hb rfl rfl l2
        have dA : (wr.alloc (Obj.cells #[Value.int .i64 b] 2)).cell? ⟨Y, 2, none⟩ = some (.slice a2_0 X2.length c2_0) := (World.grownBy_alloc _ _ none).cell d0 (by simp)
        clear d0 e0
        go_cut [] (fun wx => Hid (Seven wx B Y X0 X1 (X2 ++ [.int .i64 b]) X3 X4 X5 X6) ∧ Keeps B wr wx)
        case first =>
          go_region_law (refine LAW.out _ _ _ _ _ _ (by rfl) (by rfl) (by simp [Act.eval, Fld.v]) (by simp [Act.eval]) ?_; intro gn capn w2 hp; have p0 := hp.cell; have p1 := hp.free)
          all_goals
            go_wp2_with fail
            go_meet
            exact ⟨⟨_, _, _, _, _, _, _, _, _, _, _, _, _, _, hp.bag⟩, hp.keeps⟩
        case rest =>
          obtain ⟨HS, kp⟩ := hcut
          clear LAW dA d0' e0' f0 hb
          have hk := hk.trans kp
          have hg := kp.rows g cs _ hg
          clear kp
          obtain ⟨Z2, EZ2⟩ : ∃ Z, X2 ++ [.int .i64 b] = Z := ⟨_, rfl⟩
          rw [EZ2] at HS
          have HZ2 : Hid (X2 ++ [.int .i64 b] = Z2) := EZ2
          clear EZ2
          generalize wc = wc1 at HS hk hg ⊢
          obtain ⟨a0_1, a1_1, a2_1, a3_1, a4_1, a5_1, a6_1, c0_1, c1_1, c2_1, c3_1, c4_1, c5_1, c6_1, hb⟩ := HS.out
          clear HS
          go_upto_region 6 with fail
          obtain ⟨d0, f0⟩ := heads hb.head 3 _ rfl
          have d0' : wc1.cell? ⟨Y, 3, none⟩ = some (.slice a3_1 X3.length c3_1) := d0
          have e0 := cell_rows hg r1
          have e0' : wc1.cell? ⟨g, o + i * 5 + 1, none⟩ = some (.int .i32 rm) := e0
          have LAW : Hid (StepLaw wc1 B Y 3 _ ⟨21, a3_1, c3_1, X3⟩ (.int .i32 rm) 52 58 23 X3.length rfl) := stepLaw rfl Try.underlying23 info21 rfl (by decide) hb rfl rfl l3
          have dA : (wc1.alloc (Obj.cells #[Value.int .i32 rm] 21)).cell? ⟨Y, 3, none⟩ = some (.slice a3_1 X3.length c3_1) := (World.grownBy_alloc _ _ none).cell d0 (by simp)
          clear d0 e0
          go_cut [] (fun wx => Hid (Seven wx B Y X0 X1 Z2 (X3 ++ [.int .i32 rm]) X4 X5 X6) ∧ Keeps B wc1 wx)
          case first =>
            go_region_law (refine LAW.out _ _ _ _ _ _ (by rfl) (by rfl) (by simp [Act.eval, Fld.v]) (by simp [Act.eval]) ?_; intro gn capn w2 hp; have p0 := hp.cell; have p1 := hp.free)
            all_goals
              go_wp2_with fail
              go_meet
              exact ⟨⟨_, _, _, _, _, _, _, _, _, _, _, _, _, _, hp.bag⟩, hp.keeps⟩
          case rest =>
            obtain ⟨HS, kp⟩ := hcut
            clear LAW dA d0' e0' f0 hb
            have hk := hk.trans kp
            have hg := kp.rows g cs _ hg
            clear kp
            obtain ⟨Z3, EZ3⟩ : ∃ Z, X3 ++ [.int .i32 rm] = Z := ⟨_, rfl⟩
            rw [EZ3] at HS
            have HZ3 : Hid (X3 ++ [.int .i32 rm] = Z3) := EZ3
            clear EZ3
            generalize wc = wc2 at HS hk hg ⊢
            obtain ⟨a0_2, a1_2, a2_2, a3_2, a4_2, a5_2, a6_2, c0_2, c1_2, c2_2, c3_2, c4_2, c5_2, c6_2, hb⟩ := HS.out
            clear HS
            go_upto_region 7 with fail
            obtain ⟨d0, f0⟩ := heads hb.head 4 _ rfl
            have d0' : wc2.cell? ⟨Y, 4, none⟩ = some (.slice a4_2 X4.length c4_2) := d0
            have e0 := cell_rows hg r2
            have e0' : wc2.cell? ⟨g, o + i * 5 + 2, none⟩ = some (.int .i32 d) := e0
            have LAW : Hid (StepLaw wc2 B Y 4 _ ⟨21, a4_2, c4_2, X4⟩ (.int .i32 d) 66 72 23 X4.length rfl) := stepLaw rfl Try.underlying23 info21 rfl (by decide) hb rfl rfl l4
            have dA : (wc2.alloc (Obj.cells #[Value.int .i32 d] 21)).cell? ⟨Y, 4, none⟩ = some (.slice a4_2 X4.length c4_2) := (World.grownBy_alloc _ _ none).cell d0 (by simp)
            clear d0 e0
            go_cut [] (fun wx => Hid (Seven wx B Y X0 X1 Z2 Z3 (X4 ++ [.int .i32 d]) X5 X6) ∧ Keeps B wc2 wx)
            case first =>
              go_region_law (refine LAW.out _ _ _ _ _ _ (by rfl) (by rfl) (by simp [Act.eval, Fld.v]) (by simp [Act.eval]) ?_; intro gn capn w2 hp; have p0 := hp.cell; have p1 := hp.free)
              all_goals
                go_wp2_with fail
                go_meet
                exact ⟨⟨_, _, _, _, _, _, _, _, _, _, _, _, _, _, hp.bag⟩, hp.keeps⟩
            case rest =>
              obtain ⟨HS, kp⟩ := hcut
              clear LAW dA d0' e0' f0 hb
              have hk := hk.trans kp
              have hg := kp.rows g cs _ hg
              clear kp
              obtain ⟨Z4, EZ4⟩ : ∃ Z, X4 ++ [.int .i32 d] = Z := ⟨_, rfl⟩
              rw [EZ4] at HS
              have HZ4 : Hid (X4 ++ [.int .i32 d] = Z4) := EZ4
              clear EZ4
              generalize wc = wc3 at HS hk hg ⊢
              obtain ⟨a0_3, a1_3, a2_3, a3_3, a4_3, a5_3, a6_3, c0_3, c1_3, c2_3, c3_3, c4_3, c5_3, c6_3, hb⟩ := HS.out
              clear HS
              go_upto_region 8 with fail
              obtain ⟨d0, f0⟩ := heads hb.head 5 _ rfl
              have d0' : wc3.cell? ⟨Y, 5, none⟩ = some (.slice a5_3 X5.length c5_3) := d0
              have e0 := cell_rows hg r3
              have e0' : wc3.cell? ⟨g, o + i * 5 + 3, none⟩ = some (.int .i32 rw) := e0
              have LAW : Hid (StepLaw wc3 B Y 5 _ ⟨21, a5_3, c5_3, X5⟩ (.int .i32 rw) 80 86 23 X5.length rfl) := stepLaw rfl Try.underlying23 info21 rfl (by decide) hb rfl rfl l5
              have dA : (wc3.alloc (Obj.cells #[Value.int .i32 rw] 21)).cell? ⟨Y, 5, none⟩ = some (.slice a5_3 X5.length c5_3) := (World.grownBy_alloc _ _ none).cell d0 (by simp)
              clear d0 e0
              go_cut [] (fun wx => Hid (Seven wx B Y X0 X1 Z2 Z3 Z4 (X5 ++ [.int .i32 rw]) X6) ∧ Keeps B wc3 wx)
              case first =>
                go_region_law (refine LAW.out _ _ _ _ _ _ (by rfl) (by rfl) (by simp [Act.eval, Fld.v]) (by simp [Act.eval]) ?_; intro gn capn w2 hp; have p0 := hp.cell; have p1 := hp.free)
                all_goals
                  go_wp2_with fail
                  go_meet
                  exact ⟨⟨_, _, _, _, _, _, _, _, _, _, _, _, _, _, hp.bag⟩, hp.keeps⟩
              case rest =>
                obtain ⟨HS, kp⟩ := hcut
                clear LAW dA d0' e0' f0 hb
                have hk := hk.trans kp
                have hg := kp.rows g cs _ hg
                clear kp
                obtain ⟨Z5, EZ5⟩ : ∃ Z, X5 ++ [.int .i32 rw] = Z := ⟨_, rfl⟩
                rw [EZ5] at HS
                have HZ5 : Hid (X5 ++ [.int .i32 rw] = Z5) := EZ5
                clear EZ5
                generalize wc = wc4 at HS hk hg ⊢
                obtain ⟨a0_4, a1_4, a2_4, a3_4, a4_4, a5_4, a6_4, c0_4, c1_4, c2_4, c3_4, c4_4, c5_4, c6_4, hb⟩ := HS.out
                clear HS
                go_upto_region 9 with fail
                obtain ⟨d0, f0⟩ := heads hb.head 6 _ rfl
                have d0' : wc4.cell? ⟨Y, 6, none⟩ = some (.slice a6_4 X6.length c6_4) := d0
                have e0 := cell_rows hg r4
                have e0' : wc4.cell? ⟨g, o + i * 5 + 4, none⟩ = some (.int .i32 l) := e0
                have LAW : Hid (StepLaw wc4 B Y 6 _ ⟨21, a6_4, c6_4, X6⟩ (.int .i32 l) 94 100 23 X6.length rfl) := stepLaw rfl Try.underlying23 info21 rfl (by decide) hb rfl rfl l6
                have dA : (wc4.alloc (Obj.cells #[Value.int .i32 l] 21)).cell? ⟨Y, 6, none⟩ = some (.slice a6_4 X6.length c6_4) := (World.grownBy_alloc _ _ none).cell d0 (by simp)
                clear d0 e0
                go_region_law (refine LAW.out _ _ _ _ _ _ (by rfl) (by rfl) (by simp [Act.eval, Fld.v]) (by simp [Act.eval]) ?_; intro gn capn w2 hp; have p0 := hp.cell; have p1 := hp.free)
                all_goals
                  go_wp2
                  refine ⟨⟨i + 1, by omega, by go_num, ?_, hk.trans hp.keeps⟩, by simp [intOf]; omega⟩
                  obtain ⟨E0, E1, E2, E3, E4, E5, E6⟩ := HE.out
                  have t2 : x2 ++ ints .i64 ((nr.take (i + 1)).map (·.b)) = Z2 := by rw [← HZ2.out, ← E2, ints_take HR.out (by rw [HN.out]; exact hlt), List.append_assoc]
                  have t3 : x3 ++ ints .i32 ((nr.take (i + 1)).map (·.m)) = Z3 := by rw [← HZ3.out, ← E3, ints_take HR.out (by rw [HN.out]; exact hlt), List.append_assoc]
                  have t4 : x4 ++ ints .i32 ((nr.take (i + 1)).map (·.d)) = Z4 := by rw [← HZ4.out, ← E4, ints_take HR.out (by rw [HN.out]; exact hlt), List.append_assoc]
                  have t5 : x5 ++ ints .i32 ((nr.take (i + 1)).map (·.w)) = Z5 := by rw [← HZ5.out, ← E5, ints_take HR.out (by rw [HN.out]; exact hlt), List.append_assoc]
                  have t6 : x6 ++ ints .i32 ((nr.take (i + 1)).map (·.l)) = X6 ++ [.int .i32 l] := by rw [← E6, ints_take HR.out (by rw [HN.out]; exact hlt), List.append_assoc]
                  show Seven _ _ _ _ _ _ _ _ _ _
                  rw [E0, E1, t2, t3, t4, t5, t6]
                  exact ⟨_, _, _, _, _, _, _, _, _, _, _, _, _, _, hp.bag⟩
    · have e : nr.take i = nr := List.take_of_length_le (by rw [hr.len]; omega)
      rw [e] at HS
      clear e
      go_wp2
      go_end0
      exact ⟨rfl, HS.out, hk⟩

end Go.Proofs.Qxb6614834a
