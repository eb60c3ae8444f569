/- Members. -/
import Derived.Test.Qxb6614834aYield
import Derived.Test.Qxb6614834aSlice3
namespace Go.Proofs.Qxb6614834a
open Go.RowKit
set_option linter.unusedVariables false

theorem Bag.rowKept {w w' : World} {B B' Y n : Nat} {fs : List Fld} {v : Value} {xs : List Value} (h : Bag w B Y fs) (ho : w.ownsRow B' 42 5 v n xs) (hg : w.grownBy w' v.ownBlock) : Bag w' B Y fs := by
  refine ⟨h.base, heap_kept hg h.head (fun e => own_ne ho h.head (by decide) e.symm), fun a f hf => ?_, h.apart⟩
  obtain ⟨k1, k2, o⟩ := h.own a f hf
  refine ⟨k1, k2, o.kept hg ?_⟩
  rcases hv : f.v.ownBlock with _ | k
  · exact .inl rfl
  · refine .inr (fun e => ?_)
    rcases o.2 with ⟨e1, _⟩ | ⟨g, cp, cur, e1, _, hh, _⟩
    · rw [e1] at hv; simp [Value.ownBlock] at hv
    · rw [e1] at hv
      have hgk : g = k := by simpa [Value.ownBlock] using hv
      subst hgk
      exact own_ne ho hh k2 e.symm

theorem After.rowKept {w w' : World} {B B' Y n c : Nat} {v : Value} {xs : List Value} {rs : List R} {ss os : List Nat} (h : After w B Y rs ss os c) (ho : w.ownsRow B' 42 5 v n xs) (hg : w.grownBy w' v.ownBlock) : After w' B Y rs ss os c := by
  obtain ⟨a0, a1, a2, a3, a4, a5, a6, c0, c1, c2, c3, c4, c5, c6, hb⟩ := h
  exact ⟨a0, a1, a2, a3, a4, a5, a6, c0, c1, c2, c3, c4, c5, c6, hb.rowKept ho hg⟩

theorem After.grown {w w' : World} {B Y c : Nat} {rs : List R} {ss os : List Nat} (h : After w B Y rs ss os c) (hg : w.grownBy w' none) : After w' B Y rs ss os c := by
  obtain ⟨a0, a1, a2, a3, a4, a5, a6, c0, c1, c2, c3, c4, c5, c6, hb⟩ := h
  exact ⟨a0, a1, a2, a3, a4, a5, a6, c0, c1, c2, c3, c4, c5, c6, hb.grown hg⟩

/-- The rows' buffer. -/
def Buf (w : World) (B : Nat) (v : Value) (buf : List R) : Prop := w.ownsRow B 42 5 v buf.length (rcells buf)

theorem Buf.keeps {w w' : World} {B : Nat} {v : Value} {buf : List R} (h : Buf w B v buf) (hk : Keeps B w w') : Buf w' B v buf := by
  obtain ⟨hx, hh⟩ := h
  refine ⟨hx, ?_⟩
  rcases hh with h | ⟨g, c, cur, e1, hb, hh, r⟩
  · exact .inl h
  · exact .inr ⟨g, c, cur, e1, hb, hk.rows _ _ _ hh, r⟩

/-- What holds ahead of each batch. -/
def Outer (wE : World) (B Y : Nat) (rs : List R) (ss os : List Nat) (m : Nat) (more : Nat → Bool) (v4 v5 : Value) (w : World) : Prop :=
  ∃ (f : Nat) (buf : List R), f ≤ m ∧ v5 = .int .i64 f ∧ Buf w B v4 buf ∧ After w B Y rs ss os f ∧ Below B wE w ∧ ∀ i, 0 < i → i ≤ f → more i = true

/-- What Members leaves. -/
def Done (wE : World) (B Y : Nat) (rs : List R) (ss os : List Nat) (m : Nat) (more : Nat → Bool) (e : Ending) (w : World) : Prop :=
  e = .returned (.tuple #[]) ∧ ∃ c, c ≤ m ∧ (c = m ∨ (0 < c ∧ more c = false)) ∧ (∀ i, 0 < i → i < c → more i = true) ∧ After w B Y rs ss os c ∧ Below B wE w

theorem Buf.form {w : World} {B : Nat} {v : Value} {buf : List R} (h : Buf w B v buf) : (v = .slice none 0 0 ∧ buf = []) ∨ ∃ (g cap : Nat) (cur : List Value), v = .slice (some ⟨g, 0, none⟩) buf.length cap ∧ B ≤ g ∧ w.heap[g]? = some (.cells cur.toArray 42 (0, 0)) ∧ buf.length ≤ cap ∧ cap ≤ maxLen ∧ cur.length = cap * 5 ∧ cur.take (buf.length * 5) = rcells buf := by
  rcases h.2 with ⟨h1, h2⟩ | ⟨g, c, cur, e1, hb, hh, h3, h4, h5, h6⟩
  · exact .inl ⟨h1, List.eq_nil_of_length_eq_zero h2⟩
  · exact .inr ⟨g, c, cur.toList, e1, hb, by simpa using hh, h3, h4, by simpa using h5, h6⟩

theorem Buf.nil {w : World} {B : Nat} {v : Value} {buf : List R} (h : Buf w B v buf) : (v = .slice none 0 0 ∧ Buf w B (.slice none 0 0) []) ∨ ∃ (g cap : Nat), v = .slice (some ⟨g, 0, none⟩) buf.length cap ∧ buf.length ≤ cap ∧ cap ≤ maxLen ∧ Buf w B (.slice (some ⟨g, 0, none⟩) 0 cap) [] := by
  rcases h.form with ⟨rfl, rfl⟩ | ⟨g, cap, cur, rfl, hb, hh, h3, h4, h5, h6⟩
  · exact .inl ⟨rfl, h⟩
  · refine .inr ⟨g, cap, rfl, h3, h4, rfl, .inr ⟨g, cap, cur.toArray, rfl, hb, hh, Nat.zero_le _, h4, by simpa using h5, by simp [rcells]⟩⟩

/-- A piece of a slice of uint32. -/
theorem SeesV.part {w : World} {b o n cap i j : Nat} {zs : List Nat} (h : SeesV w (some ⟨b, o, none⟩) n cap (u32s zs)) (hij : i ≤ j) (hj : j ≤ n) : SeesV w (some ⟨b, o + i, none⟩) (j - i) (cap - i) (u32s ((zs.drop i).take (j - i))) := by
  have hl : zs.length = n := by have := h.1; simpa [u32s] using this
  have hc := h.2.1
  have hm := h.2.2.1
  refine ⟨by simp [u32s]; omega, by omega, by omega, fun e => by simp at e, fun a ha k u hu => ?_⟩
  obtain rfl := Option.some.inj ha
  have hk : k < j - i := by
    rcases Nat.lt_or_ge k (j - i) with hk | hk
    · exact hk
    · rw [List.getElem?_eq_none (by simp [u32s]; omega)] at hu; simp at hu
  have e : (u32s zs)[i + k]? = some u := by
    rw [← hu]
    simp only [u32s, List.getElem?_map, List.getElem?_take, List.getElem?_drop]
    rw [if_pos hk]
  have := h.2.2.2.2 _ rfl (i + k) u e
  rw [Addr.add_lit] at this ⊢
  rw [Nat.add_assoc]
  exact this

theorem seesV_zero {w : World} {a : Addr} {cap : Nat} (hc : cap ≤ maxLen) : SeesV w (some a) 0 cap [] := ⟨rfl, Nat.zero_le _, hc, fun e => by simp at e, fun _ _ j u hu => by simp at hu⟩

theorem rcells_snoc (buf : List R) (r : R) : rcells (buf ++ [r]) = rcells buf ++ r.cells := by simp [rcells]

/-- An append of one row onto the buffer, as a law for the walk. -/
def RowLaw (w wE : World) (B Y : Nat) (rs : List R) (ss os : List Nat) (f : Nat) (ra : Option Addr) (n rc : Nat) (buf : List R) (r : R) : Prop :=
  ∀ (ops : Array Oper) (rest : List Oper) (o : Oper) (a : Act) (Q : Exit → Act → World → Prop), o.guard = none → o.op = .call { callee := .builtin .append, args := #[.tmp 45, .tmp 53], argTypes := #[38, 38] } → a.eval (.tmp 45) = .slice ra n rc → a.eval (.tmp 53) = .slice (some ⟨w.heap.size, 0, none⟩) 1 1 →
      (∀ g cap w2, Hid (Buf w2 B (.slice (some ⟨g, 0, none⟩) (n + 1) cap) (buf ++ [r])) → Hid (After w2 B Y rs ss os f) → Hid (Below B wE w2) → wpList Try.prog ops Q rest (a.put o.dst (.slice (some ⟨g, 0, none⟩) (n + 1) cap)) w2) →
      wpList Try.prog ops Q (o :: rest) a (w.alloc (.cells #[.int .i64 r.b, .int .i32 r.m, .int .i32 r.d, .int .i32 r.w, .int .i32 r.l] 42))

theorem rowLaw {w wE : World} {B Y : Nat} {rs : List R} {ss os : List Nat} {f : Nat} {ra : Option Addr} {n rc : Nat} {buf : List R} {r : R} (hb : Buf w B (.slice ra n rc) buf) (hn : buf.length = n) (hA : After w B Y rs ss os f) (hbl : Below B wE w) (hB : B ≤ w.heap.size) (hlen : n ≤ 1048576) : RowLaw w wE B Y rs ss os f ra n rc buf r := by
  subst hn
  intro ops rest o a Q hgd hop h45 h53 hK
  obtain ⟨i0, hi, hz0, hz1, hz2⟩ := info_parts info42
  have g1 : w.grownBy (w.alloc (.cells #[.int .i64 r.b, .int .i32 r.m, .int .i32 r.d, .int .i32 r.w, .int .i32 r.l] 42)) none := World.grownBy_alloc _ _ _
  have ho : (w.alloc (.cells #[.int .i64 r.b, .int .i32 r.m, .int .i32 r.d, .int .i32 r.w, .int .i32 r.l] 42)).ownsRow B 42 5 (.slice ra buf.length rc) buf.length (rcells buf) := kept_none hb g1
  refine wpList_append_lies _ hgd (.tmp 45) (.tmp 53) 38 hop B 42 i0 _ 5 24 Try.underlying38 hi hz0 hz1 hz2 rfl (by decide) _ _ _ h45 ho ⟨w.heap.size, 0, none⟩ 1 1 r.cells h53 rfl (World.news_of_block (heap_alloc_new w _)) ?_ (by decide) (by unfold maxLen; omega) (by omega) (Nat.le_trans hB g1.size) _ rfl (fun g cap w2 hown hg hat hlt => ?_)
  · intro u hu
    simp only [R.cells, List.mem_cons, List.not_mem_nil, or_false] at hu
    rcases hu with rfl | rfl | rfl | rfl | rfl <;> rfl
  · refine hK g cap w2 ?_ ((hA.grown g1).rowKept ho hg) (((hbl.grown g1 hB (by simp)).grown hg (Nat.le_trans hB g1.size) (fun k hk => (ho.lt k hk).1)))
    show World.ownsRow _ _ _ _ _ _ _
    have e : (buf ++ [r]).length = buf.length + 1 := by simp
    rw [e, rcells_snoc]
    exact hown

theorem After.base {w : World} {B Y c : Nat} {rs : List R} {ss os : List Nat} (h : After w B Y rs ss os c) : B ≤ w.heap.size := by
  obtain ⟨a0, a1, a2, a3, a4, a5, a6, c0, c1, c2, c3, c4, c5, c6, hb⟩ := h
  exact Nat.le_trans hb.base (Nat.le_of_lt hb.lt)

theorem map_take_succ {ps : List Nat} {i : Nat} {r : R} {rs : List R} (hi : i < ps.length) (hr : rs.getD (ps.getD i 0) R0 = r) : ((ps.take (i + 1)).map fun o => rs.getD o R0) = ((ps.take i).map fun o => rs.getD o R0) ++ [r] := by
  have e : ps[i] = ps.getD i 0 := by simp [List.getD_eq_getElem?_getD, hi]
  rw [List.take_succ_eq_append_getElem hi, List.map_append, e]
  simp only [List.map_cons, List.map_nil, hr]

theorem Buf.rowsAt {w : World} {B g D rc i j : Nat} {buf : List R} (h : Buf w B (.slice (some ⟨g, 0, none⟩) D rc) buf) (hl : buf.length = D) (hij : i ≤ j) (hj : j ≤ D) : RowsAt w (some ⟨g, i * 5, none⟩) (j - i) ((buf.drop i).take (j - i)) ∧ RowsAt w (some ⟨g, 0, none⟩) 0 [] := by
  rcases h.form with ⟨e, _⟩ | ⟨g', cap, cur, e, hb, hh, h3, h4, h5, h6⟩
  · simp at e
  · simp only [Value.slice.injEq, Option.some.injEq, Addr.mk.injEq, and_true] at e
    obtain ⟨rfl, _, rfl⟩ := e
    refine ⟨⟨by simp; omega, fun e => by simp at e, fun a ha => ?_⟩, ⟨rfl, fun e => by simp at e, fun a ha => ?_⟩⟩
    · obtain rfl := Option.some.inj ha
      refine ⟨g, i * 5, cur.toArray, rfl, hh, fun k q v hk hv => ?_⟩
      have e : ((buf.drop i).take (j - i)).getD k R0 = buf.getD (i + k) R0 := by
        simp only [List.getD_eq_getElem?_getD, List.getElem?_take, List.getElem?_drop]
        rw [if_pos hk]
      rw [e] at hv
      have hq : q < 5 := by
        rcases Nat.lt_or_ge q 5 with h | h
        · exact h
        · rw [List.getElem?_eq_none (by simpa [R.cells] using h)] at hv; simp at hv
      have := rcells_at buf (i + k) q v (by omega) hv
      rw [← h6, List.getElem?_take, if_pos (by omega)] at this
      have e2 : i * 5 + k * 5 + q = (i + k) * 5 + q := by omega
      rw [e2]
      simpa using this
    · obtain rfl := Option.some.inj ha
      exact ⟨g, 0, cur.toArray, rfl, hh, fun k q v hk => absurd hk (by omega)⟩

theorem rowsAt_nil (w : World) : RowsAt w none 0 [] := ⟨rfl, fun _ => rfl, fun a ha => by simp at ha⟩

theorem Buf.piece {w : World} {B D rc i j : Nat} {ra : Option Addr} {buf : List R} (h : Buf w B (.slice ra D rc) buf) (hl : buf.length = D) (hij : i ≤ j) (hj : j ≤ D) : RowsAt w (if j = i then ra else ra.map (·.add (i * 5))) (j - i) ((buf.drop i).take (j - i)) ∧ j ≤ rc := by
  rcases h.form with ⟨e, e2⟩ | ⟨g, cap, cur, e, _, _, hle, _⟩
  · simp only [Value.slice.injEq] at e
    obtain ⟨rfl, rfl, rfl⟩ := e
    obtain rfl : j = 0 := by omega
    obtain rfl : i = 0 := by omega
    subst e2
    exact ⟨rowsAt_nil w, Nat.le_refl _⟩
  · simp only [Value.slice.injEq] at e
    obtain ⟨rfl, hel, rfl⟩ := e
    refine ⟨?_, by omega⟩
    have hr := h.rowsAt (i := i) (j := j) hl hij hj
    split
    · rename_i he
      subst he
      rw [Nat.sub_self, List.take_zero]
      exact hr.2
    · rw [Option.map_some, Addr.add_lit, Nat.zero_add]
      exact hr.1

theorem part_map (os : List Nat) (Sf Sk Sn D : Nat) (h1 : Sf ≤ Sk) (h2 : Sk ≤ Sn) (h3 : Sn - Sf ≤ D) (g : Nat → R) : (((((os.drop Sf).take D).map g).drop (Sk - Sf)).take (Sn - Sk)) = ((os.drop Sk).take (Sn - Sk)).map g := by
  rw [← List.map_drop, ← List.map_take, List.drop_take, List.take_take, List.drop_drop]
  have e1 : min (Sn - Sk) (D - (Sk - Sf)) = Sn - Sk := by omega
  have e2 : Sf + (Sk - Sf) = Sk := by omega
  rw [e1, e2]

set_option maxHeartbeats 3200000 in
set_option maxRecDepth 100000 in
theorem members_any (F B Y m : Nat) (caps : Array Value) (L : Lay) (rs : List R) (ss os : List Nat) (more : Nat → Bool) (wE w : World) (hE : Exp wE L rs ss os) (hB : wE.heap.size ≤ B) (hbel : Below B wE w) (h0 : After w B Y rs ss os 0)
    (hm : ss.length = m + 1) (hms : m ≤ 32768) (hos : os.length ≤ 32768) (hrs : rs.length ≤ 32768) (hsm : Small ss) (hso : Small os) (mono : ∀ i j, i ≤ j → j ≤ m → ss.getD i 0 ≤ ss.getD j 0) (last : ss.getD m 0 = os.length) (rows : ∀ i, i < os.length → os.getD i 0 < rs.length)
    (HF : Hid (∀ (args : Array Value) (w : World), (callFunc F args).run Try.prog w = .ok (.enter F args) w))
    (HY : Hid (∀ (c n cap : Nat) (ao : Option Addr) (nr : List R) (w : World), After w B Y rs ss os c → Below B wE w → RowsAt w ao n nr → c ≤ 32768 → n ≤ 32768 → ss.getD (c + 1) 0 = ss.getD c 0 + n → nr = ((os.drop (ss.getD c 0)).take n).map (fun o => rs.getD o R0) →
      Calls Try.prog F (#[.int .i64 c, .slice ao n cap] ++ caps) w fun e w' => YieldPost w B Y rs ss os c more e w')) :
    Calls Try.prog 13 #[.pointer (some ⟨L.E, 0, none⟩), .func (.func F) #[] caps] w fun e w' => Done wE B Y rs ss os m more e w' := by
  have HM : Hid (∀ i j, i ≤ j → j ≤ m → ss.getD i 0 ≤ ss.getD j 0) := mono
  have HL : Hid (ss.getD m 0 = os.length) := last
  have HR : Hid (∀ i, i < os.length → os.getD i 0 < rs.length) := rows
  have HS : Hid (Small ss ∧ Small os) := ⟨hsm, hso⟩
  have HLen : Hid (ss.length = m + 1) := hm
  have hbE : ∀ {w' : World}, Below B wE w' → Exp w' L rs ss os := fun hb => hE.below (hb.mono hB)
  clear mono last rows hsm hso hm
  go_enter Try.func13, Try.ntmps13
  go_upto_region 2 with fail
  go_loopw [4, 5] (fun v4 v5 wr => Outer wE B Y rs ss os m more v4 v5 wr) (fun _ v5 _ => m - (intOf v5).toNat)
  case atStart => exact ⟨0, [], Nat.zero_le _, rfl, World.ownsRow_nil _ _ _ _, h0, hbel, fun i h1 h2 => absurd h2 (by omega)⟩
  case round =>
    obtain ⟨f, buf, hf, rfl, hbuf, hA, hb, HMo⟩ := hrel
    have hX := hbE hb
    have c2 := hX.c2
    have cM := hX.cM
    rw [HLen.out] at cM
    go_wp2_with fail
    refine (len_any L.E L.M m L.am wr c2 cM hms).mono ?_
    rintro e w' ⟨rfl, q, rfl⟩
    by_cases hlt : f < m
    · have hXd := hX.drewN q
      go_wp2_with fail
      refine (batch_any L rs ss os f m (wr.drewN q) hXd HLen.out hms hlt HM.out HS.out.1).mono ?_
      rintro e w' ⟨l, q2, hfl, hlm, rfl, rfl⟩
      have hbuf : Buf ((wr.drewN q).drewN q2) B u4 buf := hbuf
      have hA : After ((wr.drewN q).drewN q2) B Y rs ss os f := (hA.grown (grownBy_drewN _ q none)).grown (grownBy_drewN _ q2 none)
      have hb : Below B wE ((wr.drewN q).drewN q2) := ⟨hb.os, hb.tape, hb.output, hb.size, hb.block⟩
      clear hX hXd c2 cM
      generalize (wr.drewN q).drewN q2 = V at hbuf hA hb ⊢
      have HMo : Hid (∀ i, 0 < i → i ≤ f → more i = true) := HMo
      go_upto_region 4 with fail
      go_cut [4] (fun v wx => V = wx ∧ ∃ ra rc, v = .slice ra 0 rc ∧ Buf V B (.slice ra 0 rc) [])
      case first =>
        rcases hbuf.nil with ⟨rfl, hn⟩ | ⟨g, cap, rfl, hc1, hc2, hn⟩
        · go_wp2_with fail
          go_meet
          exact ⟨rfl, none, 0, rfl, hn⟩
        · go_wp2_with fail
          go_meet
          exact ⟨rfl, _, _, rfl, hn⟩
      case rest =>
        obtain ⟨rfl, ra, rc, rfl, hn⟩ := hcut
        clear hbuf
        have hX := hbE hb
        have c4 := hX.c4
        have c5 := hX.c5
        obtain ⟨b4, o4, e4, t4⟩ := hX.s4.at (by rw [HLen.out]; omega)
        rw [HLen.out, e4] at c4
        have vF := t4 f _ (u32s_get (by rw [HLen.out]; omega))
        have vL := t4 l _ (u32s_get (by rw [HLen.out]; omega))
        have hFL := HM.out f l (by omega) hlm
        have hLo := HM.out l m hlm (Nat.le_refl _)
        rw [HL.out] at hLo
        obtain ⟨Sf, hSf⟩ : ∃ x, ss.getD f 0 = x := ⟨_, rfl⟩
        obtain ⟨Sl, hSl⟩ : ∃ x, ss.getD l 0 = x := ⟨_, rfl⟩
        rw [hSf] at vF hFL
        rw [hSl] at vL hFL hLo
        have HSf : Hid (ss.getD f 0 = Sf) := hSf
        have HSl : Hid (ss.getD l 0 = Sl) := hSl
        clear hSf hSl
        have s5 := hE.s5
        have sp := hE.sp
        clear hX
        go_upto_region 5 with fail
        go_cut [39, 40, 41] (fun v39 v40 v41 wx => ∃ (oa : Option Addr) (co q : Nat), v39 = .slice oa (Sl - Sf) co ∧ v40 = .int .i64 ((Sl - Sf : Nat) : Int) ∧ v41 = .int .i64 0 ∧ SeesV wE oa (Sl - Sf) co (u32s ((os.drop Sf).take (Sl - Sf))) ∧ wx = V.drewN q)
        case first =>
          obtain ⟨E, M, am, C, W, sa, cs, oa, co⟩ := L
          cases oa with
          | none =>
            obtain ⟨h1, h2⟩ := s5.2.2.2.1 rfl
            obtain rfl : Sl = 0 := by omega
            obtain rfl : Sf = 0 := by omega
            simp only [] at c4 c5 h2
            subst h2
            rw [h1] at c5
            go_quiet (fail)
            go_wp2_with fail
            go_meet
            exact ⟨none, 0, _, rfl, rfl, rfl, seesV_nil _, rfl⟩
          | some a =>
            obtain ⟨b5, o5, spot⟩ := a
            obtain rfl : spot = none := sp _ rfl
            have s5p := s5.part hFL hLo
            have hcap := s5.2.1
            have hcm := s5.2.2.1
            simp only [] at c4 c5 hcap
            generalize os.length = no at *
            have i1 : (0 : Int) ≤ (Sf : Int) := by omega
            have i2 : (Sf : Int) ≤ (Sl : Int) := by omega
            have i3 : (Sl : Int) ≤ (co : Int) := by omega
            by_cases hz : co = Sf
            · obtain rfl : Sl = Sf := by omega
              subst hz
              go_quiet (fail)
              go_wp2_with fail
              go_meet
              rw [Nat.sub_self]
              exact ⟨some ⟨b5, o5, none⟩, 0, nq, rfl, rfl, rfl, seesV_zero (Nat.zero_le _), rfl⟩
            · go_quiet (fail)
              go_wp2_with fail
              go_meet
              exact ⟨_, _, _, rfl, rfl, rfl, s5p, rfl⟩
        case rest =>
          obtain ⟨oa, co, q3, rfl, rfl, rfl, sD, rfl⟩ := hcut
          have hn : Buf (V.drewN q3) B (.slice ra 0 rc) [] := hn
          have hA : After (V.drewN q3) B Y rs ss os f := hA.grown (grownBy_drewN _ q3 none)
          have hb : Below B wE (V.drewN q3) := ⟨hb.os, hb.tape, hb.output, hb.size, hb.block⟩
          clear c4 c5 vF vL t4 s5 sp e4
          generalize V.drewN q3 = U at hn hA hb ⊢
          obtain ⟨D, hD⟩ : ∃ D, Sl - Sf = D := ⟨_, rfl⟩
          rw [hD] at sD ⊢
          obtain ⟨ps, hps⟩ : ∃ ps, (os.drop Sf).take D = ps := ⟨_, rfl⟩
          rw [hps] at sD
          have HPS : Hid ((os.drop Sf).take D = ps) := hps
          clear hps
          have hDs : D ≤ 32768 := by omega
          have hpl : ps.length = D := by have := sD.1; simpa [u32s] using this
          have HP : Hid (∀ i, i < D → ps.getD i 0 < rs.length) := by
            intro i hi
            have e : ps.getD i 0 = os.getD (Sf + i) 0 := by
              rw [← HPS.out]
              simp only [List.getD_eq_getElem?_getD, List.getElem?_take, List.getElem?_drop]
              rw [if_pos hi]
            rw [e]
            exact HR.out _ (by omega)
          go_upto_region 6 with fail
          go_loopw [4, 41] (fun v4 v41 wr => ∃ (i : Nat) (ra : Option Addr) (rc : Nat), i ≤ D ∧ v41 = .int .i64 i ∧ v4 = .slice ra i rc ∧ Hid (Buf wr B (.slice ra i rc) ((ps.take i).map fun o => rs.getD o R0)) ∧ Hid (After wr B Y rs ss os f) ∧ Hid (Below B wE wr)) (fun _ v41 _ => D - (intOf v41).toNat)
          case atStart => exact ⟨0, ra, rc, Nat.zero_le _, rfl, rfl, hn, hA, hb⟩
          case round =>
            clear hn hA hb
            obtain ⟨i, ra, rc, hi, rfl, rfl, HBu, HA, Hb⟩ := hrel
            by_cases hlt2 : i < D
            · obtain ⟨b, o, rfl, vx⟩ := (sD.below (Hb.out.mono hB)).getU hlt2
              have hx := HP.out i hlt2
              have HMT : Hid (∀ r, rs.getD (ps.getD i 0) R0 = r → ((ps.take (i + 1)).map fun o => rs.getD o R0) = ((ps.take i).map fun o => rs.getD o R0) ++ [r]) := fun r hr => map_take_succ (by omega) hr
              generalize ps.getD i 0 = x at vx hx HMT
              have hX := hbE Hb.out
              have c3 := hX.c3
              have cC := hX.cC
              obtain ⟨r, er⟩ : ∃ r, rs.getD x R0 = r := ⟨_, rfl⟩
              have HE : Hid (((ps.take (i + 1)).map fun o => rs.getD o R0) = ((ps.take i).map fun o => rs.getD o R0) ++ [r]) := HMT.out r er
              have e0 : wr.cell? ⟨L.W, x * 5, none⟩ = some (.int .i64 r.b) := hX.row x 0 _ hx (by rw [er]; rfl)
              have e1 : wr.cell? ⟨L.W, x * 5 + 1, none⟩ = some (.int .i32 r.m) := hX.row x 1 _ hx (by rw [er]; rfl)
              have e2 : wr.cell? ⟨L.W, x * 5 + 2, none⟩ = some (.int .i32 r.d) := hX.row x 2 _ hx (by rw [er]; rfl)
              have e3 : wr.cell? ⟨L.W, x * 5 + 3, none⟩ = some (.int .i32 r.w) := hX.row x 3 _ hx (by rw [er]; rfl)
              have e4 : wr.cell? ⟨L.W, x * 5 + 4, none⟩ = some (.int .i32 r.l) := hX.row x 4 _ hx (by rw [er]; rfl)
              have LAW : Hid (RowLaw wr wE B Y rs ss os f ra i rc ((ps.take i).map fun o => rs.getD o R0) r) := rowLaw HBu.out (by simp; omega) HA.out Hb.out HA.out.base (by omega)
              clear er HMT hX
              generalize rs.length = nR at *
              go_wp2_with (first | (go_at_call 19; refine (at_any L.E L.C L.W nR x wr c3 cC hrs hx).mono ?_; rintro e w' ⟨rfl, rfl⟩) | (at_builtin; refine LAW.out _ _ _ _ _ rfl rfl rfl rfl ?_; intro g cap w2 H1 H2 H3))
              refine ⟨⟨i + 1, some ⟨g, 0, none⟩, cap, by omega, by go_num, rfl, ?_, H2, H3⟩, by simp [intOf]; omega⟩
              rw [HE.out]
              exact H1
            · obtain rfl : i = D := by omega
              have e : ps.take i = ps := List.take_of_length_le (by omega)
              rw [e] at HBu
              clear e
              go_upto_region 11 with fail
              have hLL := HSl.out
              go_loopw [9] (fun v9 wr => ∃ k : Nat, f ≤ k ∧ k ≤ l ∧ v9 = .int .i64 k ∧ Hid (After wr B Y rs ss os k) ∧ Hid (Below B wE wr) ∧ Hid (Buf wr B (.slice ra i rc) (ps.map fun o => rs.getD o R0)) ∧ Hid (∀ i, 0 < i → i ≤ k → more i = true)) (fun v9 _ => l - (intOf v9).toNat)
              case atStart => exact ⟨f, Nat.le_refl _, by omega, rfl, HA, Hb, HBu, HMo⟩
              case round =>
                clear HA Hb HBu
                obtain ⟨k, hfk, hkl, rfl, HA2, Hb2, HBu2, HM2⟩ := hrel
                by_cases hlt3 : k < l
                · have hX := hbE Hb2.out
                  have c4 := hX.c4
                  obtain ⟨b4, o4, e4, t4⟩ := hX.s4.at (by rw [HLen.out]; omega)
                  rw [HLen.out, e4] at c4
                  have vF := t4 f _ (u32s_get (by rw [HLen.out]; omega))
                  have vK := t4 k _ (u32s_get (by rw [HLen.out]; omega))
                  have vN := t4 (k + 1) _ (u32s_get (by rw [HLen.out]; omega))
                  have m1 := HM.out f k hfk (by omega)
                  have m2 := HM.out k (k + 1) (by omega) (by omega)
                  have m3 := HM.out (k + 1) l (by omega) hlm
                  have z1 := HS.out.1 (k + 1)
                  rw [HSf.out] at vF m1
                  rw [HSl.out] at m3
                  obtain ⟨Sk, hSk⟩ : ∃ x, ss.getD k 0 = x := ⟨_, rfl⟩
                  obtain ⟨Sn, hSn⟩ : ∃ x, ss.getD (k + 1) 0 = x := ⟨_, rfl⟩
                  rw [hSk] at vK m1 m2
                  rw [hSn] at vN m2 m3 z1
                  have HSk : Hid (ss.getD k 0 = Sk) := hSk
                  have HSn : Hid (ss.getD (k + 1) 0 = Sn) := hSn
                  clear hSk hSn hX t4 e4
                  obtain ⟨I, hI⟩ : ∃ I, Sk - Sf = I := ⟨_, rfl⟩
                  obtain ⟨J, hJ⟩ : ∃ J, Sn - Sf = J := ⟨_, rfl⟩
                  have w1 : IntKind.u32.wrap ((Sk : Int) - (Sf : Int)) = (I : Int) := by rw [IntKind.wrap_u32]; omega
                  have w2 : IntKind.u32.wrap ((Sn : Int) - (Sf : Int)) = (J : Int) := by rw [IntKind.wrap_u32]; omega
                  have hIJ : I ≤ J := by omega
                  have hJi : J ≤ i := by omega
                  have HI : Hid (Sk - Sf = I ∧ Sn - Sf = J ∧ Sn - Sk = J - I) := ⟨hI, hJ, by omega⟩
                  clear hI hJ
                  go_upto_region 13 with fail
                  go_quiet (fail)
                  have hA3 : After (wr.drewN nq) B Y rs ss os k := HA2.out.grown (grownBy_drewN _ nq none)
                  have hb3 : Below B wE (wr.drewN nq) := ⟨Hb2.out.os, Hb2.out.tape, Hb2.out.output, Hb2.out.size, Hb2.out.block⟩
                  have hB3 : Buf (wr.drewN nq) B (.slice ra i rc) (ps.map fun o => rs.getD o R0) := HBu2.out
                  go_upto_region 14 with fail
                  generalize wr.drewN nq = X at hA3 hb3 hB3 ⊢
                  have hnn : Sn - Sk ≤ 32768 := by omega
                  have hSS : Hid (ss.getD (k + 1) 0 = ss.getD k 0 + (Sn - Sk)) := by show _ = _; rw [HSn.out, HSk.out]; omega
                  have hNR : Hid ((((ps.map fun o => rs.getD o R0).drop (Sk - Sf)).take (Sn - Sk)) = ((os.drop (ss.getD k 0)).take (Sn - Sk)).map fun o => rs.getD o R0) := by
                    show _ = _
                    rw [HSk.out, ← HPS.out]
                    exact part_map os Sf Sk Sn i (by omega) (by omega) (by omega) _
                  have hr4 := hB3.piece (i := I) (j := J) (by simp; omega) hIJ hJi
                  have hN := hNR.out
                  have hS := hSS.out
                  rw [HI.out.1, HI.out.2.2] at hN
                  rw [HI.out.2.2] at hnn hS
                  have hJc := hr4.2
                  obtain ⟨pb, hpb⟩ : ∃ pb, (if J = I then ra else ra.map (·.add (I * 5))) = pb := ⟨_, rfl⟩
                  rw [hpb] at hr4
                  have HPB : Hid ((if J = I then ra else ra.map (·.add (I * 5))) = pb) := hpb
                  clear hpb
                  have C := HY.out k (J - I) (J - I) pb _ X hA3 hb3 hr4.1 (by omega) hnn hS hN
                  clear hr4 hN hS hNR hSS hA3
                  go_wp2_with (first | (refine wpList_slice3 rfl (.tmp 95) (.tmp 96) (.tmp 97) (.tmp 98) rfl ra i rc I J rfl rfl rfl rfl hIJ hJc pb HPB.out ?_) | fail)
                  rw [HF.out, Oper.upon_enter]
                  refine C.mono ?_
                  rintro e w' ⟨rfl, hA4, hk4⟩
                  have hB4 := hB3.keeps hk4
                  have hb4 := hb3.trans hk4.below
                  have HB4 : Hid (Buf w' B (.slice ra i rc) (ps.map fun o => rs.getD o R0)) := hB4
                  have Hb4 : Hid (Below B wE w') := hb4
                  have HA4 : Hid (After w' B Y rs ss os (k + 1)) := hA4
                  clear hB4 hb4 hA4 hb3 hB3 hk4
                  cases hmk : more (k + 1) with
                  | true =>
                    have HM3 : Hid (∀ i, 0 < i → i ≤ k + 1 → more i = true) := by
                      intro i h1 h2
                      rcases Nat.lt_or_ge k i with h | h
                      · obtain rfl : i = k + 1 := by omega
                        exact hmk
                      · exact HM2.out i h1 h
                    clear hmk HM2
                    go_wp2_with fail
                    exact ⟨⟨k + 1, by omega, by omega, by go_num, HA4, Hb4, HB4, HM3⟩, by simp [intOf]; omega⟩
                  | false =>
                    go_wp2_with fail
                    go_end0
                    exact ⟨rfl, k + 1, by omega, .inr ⟨by omega, hmk⟩, fun i h1 h2 => HM2.out i h1 (by omega), HA4.out, Hb4.out⟩
                · obtain rfl : k = l := by omega
                  go_wp2_with fail
                  exact ⟨⟨k, _, hlm, rfl, HBu2.out, HA2.out, Hb2.out, HM2.out⟩, by simp [intOf]; omega⟩
    · obtain rfl : f = m := by omega
      have hA : After (wr.drewN q) B Y rs ss os f := hA.grown (grownBy_drewN _ q none)
      have hb : Below B wE (wr.drewN q) := ⟨hb.os, hb.tape, hb.output, hb.size, hb.block⟩
      go_wp2_with fail
      go_end0
      exact ⟨rfl, f, Nat.le_refl _, .inl rfl, fun i h1 h2 => HMo i h1 (by omega), hA, hb⟩

end Go.Proofs.Qxb6614834a
