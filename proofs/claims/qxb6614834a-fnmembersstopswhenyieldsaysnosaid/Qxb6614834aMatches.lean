/- zzMatches. -/
import Derived.Test.Qxb6614834aNew
namespace Go.Proofs.Qxb6614834a
open Go.RowKit
set_option linter.unusedVariables false

/-- The seven slices that were yielded, somewhere in memory, and the arguments that they are held against. -/
structure MArgs where
  (aK aL aB aM aD aW aN : Option Addr)
  (kK kL kB kM kD kW kN : Nat)
  (a2 a3 a4 a5 a6 a7 a8 : Option Addr)
  (c2 c3 c4 c5 c6 c7 c8 : Nat)

structure MSees (w : World) (A : MArgs) (c t n no : Nat) (ks ls yb ym yd yw yl zb zm zd zw zl : List Int) (ss os : List Nat) : Prop where
  sK : SeesV w A.aK c A.kK (ints .i64 ks)
  sL : SeesV w A.aL c A.kL (ints .i64 ls)
  sB : SeesV w A.aB t A.kB (ints .i64 yb)
  sM : SeesV w A.aM t A.kM (ints .i32 ym)
  sD : SeesV w A.aD t A.kD (ints .i32 yd)
  sW : SeesV w A.aW t A.kW (ints .i32 yw)
  sN : SeesV w A.aN t A.kN (ints .i32 yl)
  s2 : SeesV w A.a2 n A.c2 (ints .i64 zb)
  s3 : SeesV w A.a3 n A.c3 (ints .i32 zm)
  s4 : SeesV w A.a4 n A.c4 (ints .i32 zd)
  s5 : SeesV w A.a5 n A.c5 (ints .i32 zw)
  s6 : SeesV w A.a6 n A.c6 (ints .i32 zl)
  s7 : SeesV w A.a7 ss.length A.c7 (u32s ss)
  s8 : SeesV w A.a8 no A.c8 (u32s os)

structure MFacts (c t n no : Nat) (ks ls yb ym yd yw yl zb zm zd zw zl : List Int) (ss os : List Nat) : Prop where
  hn : n ≤ 32768
  hno : no ≤ 32768
  hs : ss.length ≤ 32768
  hc : c < ss.length
  first : ss.getD 0 0 = 0
  last : ss.getD c 0 = t
  mono : ∀ i j, i ≤ j → j ≤ c → ss.getD i 0 ≤ ss.getD j 0
  tno : t ≤ no
  os_lt : ∀ j, j < no → os.getD j 0 < n
  k : ∀ i, i < c → ks.getD i 0 = (i : Int)
  l : ∀ i, i < c → ls.getD i 0 = (ss.getD (i + 1) 0 : Int) - (ss.getD i 0 : Int)
  b : ∀ j, j < t → yb.getD j 0 = zb.getD (os.getD j 0) 0
  m : ∀ j, j < t → ym.getD j 0 = zm.getD (os.getD j 0) 0
  d : ∀ j, j < t → yd.getD j 0 = zd.getD (os.getD j 0) 0
  w : ∀ j, j < t → yw.getD j 0 = zw.getD (os.getD j 0) 0
  ln : ∀ j, j < t → yl.getD j 0 = zl.getD (os.getD j 0) 0

theorem SeesV.get {w : World} {ao : Option Addr} {n cap j : Nat} {k : IntKind} {zs : List Int} (h : SeesV w ao n cap (ints k zs)) (hj : j < n) : ∃ b o, ao = some ⟨b, o, none⟩ ∧ w.cell? ⟨b, o + j, none⟩ = some (.int k (zs.getD j 0)) := by
  have hl : zs.length = n := by have := h.1; simpa [ints] using this
  obtain ⟨b, o, e, hc⟩ := h.at (by omega)
  exact ⟨b, o, e, hc j _ (ints_get (by omega))⟩

theorem SeesV.getU {w : World} {ao : Option Addr} {n cap j : Nat} {zs : List Nat} (h : SeesV w ao n cap (u32s zs)) (hj : j < n) : ∃ b o, ao = some ⟨b, o, none⟩ ∧ w.cell? ⟨b, o + j, none⟩ = some (.int .u32 ((zs.getD j 0 : Nat) : Int)) := by
  have hl : zs.length = n := by have := h.1; simpa [u32s] using this
  obtain ⟨b, o, e, hc⟩ := h.at (by omega)
  exact ⟨b, o, e, hc j _ (u32s_get (by omega))⟩

theorem MSees.kept {w w' : World} {A : MArgs} {c t n no : Nat} {ks ls yb ym yd yw yl zb zm zd zw zl : List Int} {ss os : List Nat} (h : MSees w A c t n no ks ls yb ym yd yw yl zb zm zd zw zl ss os) (hg : w.grownBy w' none) : MSees w' A c t n no ks ls yb ym yd yw yl zb zm zd zw zl ss os :=
  ⟨h.sK.kept hg, h.sL.kept hg, h.sB.kept hg, h.sM.kept hg, h.sD.kept hg, h.sW.kept hg, h.sN.kept hg, h.s2.kept hg, h.s3.kept hg, h.s4.kept hg, h.s5.kept hg, h.s6.kept hg, h.s7.kept hg, h.s8.kept hg⟩

theorem below_drewN {B : Nat} {a w : World} (h : Below B a w) (q : Nat) : Below B a (w.drewN q) := ⟨h.os, h.tape, h.output, h.size, h.block⟩

set_option maxHeartbeats 3200000 in
set_option maxRecDepth 100000 in
theorem matches_any (A : MArgs) (c t n no : Nat) (ks ls yb ym yd yw yl zb zm zd zw zl : List Int) (ss os : List Nat) (w : World)
    (hs : MSees w A c t n no ks ls yb ym yd yw yl zb zm zd zw zl ss os) (F : MFacts c t n no ks ls yb ym yd yw yl zb zm zd zw zl ss os) :
    Calls Try.prog 10 #[.agg #[.slice A.aK c A.kK, .slice A.aL c A.kL, .slice A.aB t A.kB, .slice A.aM t A.kM, .slice A.aD t A.kD, .slice A.aW t A.kW, .slice A.aN t A.kN], .int .i64 c,
      .slice A.a2 n A.c2, .slice A.a3 n A.c3, .slice A.a4 n A.c4, .slice A.a5 n A.c5, .slice A.a6 n A.c6, .slice A.a7 ss.length A.c7, .slice A.a8 no A.c8] w fun e w' => e = .returned (.bool true) ∧ Below w.heap.size w w' := by
  obtain ⟨aK, aL, aB, aM, aD, aW, aN, kK, kL, kB, kM, kD, kW, kN, a2, a3, a4, a5, a6, a7, a8, c2, c3, c4, c5, c6, c7, c8⟩ := A
  have hgA : w.grownBy (w.alloc (.cells #[.slice aK c kK, .slice aL c kL, .slice aB t kB, .slice aM t kM, .slice aD t kD, .slice aW t kW, .slice aN t kN] 31)) none := World.grownBy_alloc _ _ _
  have hh := heap_alloc_new w (.cells #[.slice aK c kK, .slice aL c kL, .slice aB t kB, .slice aM t kM, .slice aD t kD, .slice aW t kW, .slice aN t kN] 31)
  have hs1 := hs.kept hgA
  have HB : Hid (Below w.heap.size w (w.alloc (.cells #[.slice aK c kK, .slice aL c kL, .slice aB t kB, .slice aM t kM, .slice aD t kD, .slice aW t kW, .slice aN t kN] 31))) := (Below.refl _ _).alloc (Nat.le_refl _) _
  go_enter Try.func10, Try.ntmps10
  go_upto_region 1 with fail
  clear hs hgA
  generalize w.alloc _ = W at hh hs1 HB ⊢
  obtain ⟨d0, _⟩ := cell_mid (cs := [.slice aK c kK, .slice aL c kL, .slice aB t kB, .slice aM t kM, .slice aD t kD, .slice aW t kW, .slice aN t kN]) (k := 0) hh rfl
  obtain ⟨d1, _⟩ := cell_mid (cs := [.slice aK c kK, .slice aL c kL, .slice aB t kB, .slice aM t kM, .slice aD t kD, .slice aW t kW, .slice aN t kN]) (k := 1) hh rfl
  obtain ⟨d2, _⟩ := cell_mid (cs := [.slice aK c kK, .slice aL c kL, .slice aB t kB, .slice aM t kM, .slice aD t kD, .slice aW t kW, .slice aN t kN]) (k := 2) hh rfl
  obtain ⟨d3, _⟩ := cell_mid (cs := [.slice aK c kK, .slice aL c kL, .slice aB t kB, .slice aM t kM, .slice aD t kD, .slice aW t kW, .slice aN t kN]) (k := 3) hh rfl
  obtain ⟨d4, _⟩ := cell_mid (cs := [.slice aK c kK, .slice aL c kL, .slice aB t kB, .slice aM t kM, .slice aD t kD, .slice aW t kW, .slice aN t kN]) (k := 4) hh rfl
  obtain ⟨d5, _⟩ := cell_mid (cs := [.slice aK c kK, .slice aL c kL, .slice aB t kB, .slice aM t kM, .slice aD t kD, .slice aW t kW, .slice aN t kN]) (k := 5) hh rfl
  obtain ⟨d6, _⟩ := cell_mid (cs := [.slice aK c kK, .slice aL c kL, .slice aB t kB, .slice aM t kM, .slice aD t kD, .slice aW t kW, .slice aN t kN]) (k := 6) hh rfl
  clear hh
  obtain ⟨sK, sL, sB, sM, sD, sW, sN, s2, s3, s4, s5, s6, s7, s8⟩ := hs1
  have S7 := s7.at (by have := F.hc; omega)
  obtain ⟨b7, o7, e7, t7⟩ := S7
  simp only [] at e7 sK sL sB sM sD sW sN s2 s3 s4 s5 s6 s8
  subst e7
  have x7 := t7 c _ (u32s_get F.hc)
  rw [F.last] at x7
  have hc := F.hc
  have hsl := F.hs
  have htn := F.tno
  have hno := F.hno
  have hn := F.hn
  have T7 : Hid (∀ j u, (u32s ss)[j]? = some u → W.cell? ⟨b7, o7 + j, none⟩ = some u) := t7
  have HF : Hid (MFacts c t n no ks ls yb ym yd yw yl zb zm zd zw zl ss os) := F
  have HNS : Hid (∃ ns, ss.length = ns) := ⟨_, rfl⟩
  obtain ⟨ns, hns⟩ := HNS
  rw [hns] at hc hsl ⊢
  have HNS : Hid (ss.length = ns) := hns
  clear F t7 hns s7
  go_upto_region 8 with fail
  clear x7
  go_loopw [20, 21] (fun vp vk wr => ∃ k q : Nat, k ≤ c ∧ vp = .int .i64 ((ss.getD k 0 : Nat) : Int) ∧ vk = .int .i64 k ∧ wr = W.drewN q) (fun _ vk _ => c - (intOf vk).toNat)
  case atStart => exact ⟨0, 0, Nat.zero_le _, by rw [HF.out.first]; rfl, rfl, rfl⟩
  case round =>
    obtain ⟨k, q, hk, rfl, rfl, rfl⟩ := hrel
    by_cases hlt : k < c
    · obtain ⟨bK, oK, eK, vK⟩ := sK.get hlt
      obtain ⟨bL, oL, eL, vL⟩ := sL.get hlt
      subst eK eL
      rw [HF.out.k k hlt] at vK
      rw [HF.out.l k hlt] at vL
      have vS := T7.out k _ (u32s_get (by rw [HNS.out]; omega))
      have vT := T7.out (k + 1) _ (u32s_get (by rw [HNS.out]; omega))
      have hST := HF.out.mono k (k + 1) (by omega) (by omega)
      have hTt := HF.out.mono (k + 1) c (by omega) (by omega)
      rw [HF.out.last] at hTt
      obtain ⟨Sk, hSk⟩ : ∃ x, ss.getD k 0 = x := ⟨_, rfl⟩
      obtain ⟨Tk, hTk⟩ : ∃ x, ss.getD (k + 1) 0 = x := ⟨_, rfl⟩
      rw [hSk] at vS hST vL ⊢
      rw [hTk] at vT hST vL hTt
      have HSk : Hid (ss.getD k 0 = Sk) := hSk
      have HTk : Hid (ss.getD (k + 1) 0 = Tk) := hTk
      clear hSk hTk
      have hadd : IntKind.i64.wrap ((k : Int) + 1) = (k : Int) + 1 := by rw [IntKind.wrap_i64]; omega
      have hsub : IntKind.i64.wrap ((Tk : Int) - (Sk : Int)) = (Tk : Int) - (Sk : Int) := by rw [IntKind.wrap_i64]; omega
      have hbne : (((Tk : Int) - (Sk : Int)) != ((Tk : Int) - (Sk : Int))) = false := by simp
      go_upto_region 17 with fail
      clear vK vL vS vT hadd hsub hbne sK sL d0 d1
      go_loopw [20, 24] (fun vp vj wr => ∃ j q' : Nat, Sk ≤ j ∧ j ≤ Tk ∧ vp = .int .i64 j ∧ vj = .int .i64 j ∧ wr = W.drewN q') (fun _ vj _ => Tk - (intOf vj).toNat)
      case atStart => exact ⟨Sk, q, Nat.le_refl _, hST, rfl, rfl, rfl⟩
      case round =>
        obtain ⟨j, q', hj1, hj2, rfl, rfl, rfl⟩ := hrel
        by_cases hlj : j < Tk
        · have hjt : j < t := by omega
          obtain ⟨b8, o8, e8, v8⟩ := s8.getU (j := j) (by omega)
          have hx := HF.out.os_lt j (by omega)
          have y1 := HF.out.b j hjt
          have y2 := HF.out.m j hjt
          have y3 := HF.out.d j hjt
          have y4 := HF.out.w j hjt
          have y5 := HF.out.ln j hjt
          obtain ⟨x, ex⟩ : ∃ x, os.getD j 0 = x := ⟨_, rfl⟩
          rw [ex] at v8 hx y1 y2 y3 y4 y5
          clear ex
          obtain ⟨p1, r1, f1, v1⟩ := sB.get hjt
          obtain ⟨p2, r2, f2, v2⟩ := sM.get hjt
          obtain ⟨p3, r3, f3, v3⟩ := sD.get hjt
          obtain ⟨p4, r4, f4, v4⟩ := sW.get hjt
          obtain ⟨p5, r5, f5, v5⟩ := sN.get hjt
          obtain ⟨g1, h1, i1, z1⟩ := s2.get hx
          obtain ⟨g2, h2, i2, z2⟩ := s3.get hx
          obtain ⟨g3, h3, i3, z3⟩ := s4.get hx
          obtain ⟨g4, h4, i4, z4⟩ := s5.get hx
          obtain ⟨g5, h5, i5, z5⟩ := s6.get hx
          subst e8 f1 f2 f3 f4 f5 i1 i2 i3 i4 i5
          rw [y1] at v1
          rw [y2] at v2
          rw [y3] at v3
          rw [y4] at v4
          rw [y5] at v5
          clear y1 y2 y3 y4 y5
          generalize zb.getD x 0 = u1 at v1 z1
          generalize zm.getD x 0 = u2 at v2 z2
          generalize zd.getD x 0 = u3 at v3 z3
          generalize zw.getD x 0 = u4 at v4 z4
          generalize zl.getD x 0 = u5 at v5 z5
          have w1 : (u1 != u1) = false := by simp
          have w2 : (u2 != u2) = false := by simp
          have w3 : (u3 != u3) = false := by simp
          have w4 : (u4 != u4) = false := by simp
          have w5 : (u5 != u5) = false := by simp
          go_upto_region 20 with fail
          go_quiet (fail)
          go_wp2
          exact ⟨⟨j + 1, q' + nq, by omega, by omega, by go_num, by go_num, rfl⟩, by simp [intOf]; omega⟩
        · obtain rfl : j = Tk := by omega
          go_wp2
          exact ⟨⟨k + 1, q', by omega, by rw [HTk.out], by go_num, rfl⟩, by simp [intOf]; omega⟩
    · go_wp2
      go_ret
      exact ⟨rfl, below_drewN HB.out q⟩

end Go.Proofs.Qxb6614834a
