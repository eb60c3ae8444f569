/- An Export in memory; Len, chunks.len, chunks.at, batch. -/
import Derived.Test.Qxb6614834aPrem
namespace Go.Proofs.Qxb6614834a
open Go.RowKit
set_option linter.unusedVariables false

/-- A row of the export. -/
structure R where
  b : Int
  m : Int
  d : Int
  w : Int
  l : Int

def R.cells (r : R) : List Value := [.int .i64 r.b, .int .i32 r.m, .int .i32 r.d, .int .i32 r.w, .int .i32 r.l]

def R0 : R := ⟨0, 0, 0, 0, 0⟩

/-- Where an export lies. -/
structure Lay where
  E : Nat
  M : Nat
  am : Option Addr
  C : Nat
  W : Nat
  sa : Option Addr
  cs : Nat
  oa : Option Addr
  co : Nat

/-- An export: its members are counted by ss, its rows are rs, its index ss and os. -/
structure Exp (w : World) (L : Lay) (rs : List R) (ss os : List Nat) : Prop where
  c2 : w.cell? ⟨L.E, 2, none⟩ = some (.slice (some ⟨L.M, 0, none⟩) 1 1)
  cM : w.cell? ⟨L.M, 0, none⟩ = some (.slice L.am (ss.length - 1) (ss.length - 1))
  c3 : w.cell? ⟨L.E, 3, none⟩ = some (.slice (some ⟨L.C, 0, none⟩) 1 1)
  cC : w.cell? ⟨L.C, 0, none⟩ = some (.slice (some ⟨L.W, 0, none⟩) rs.length rs.length)
  row : ∀ i j v, i < rs.length → (rs.getD i R0).cells[j]? = some v → w.cell? ⟨L.W, i * 5 + j, none⟩ = some v
  c4 : w.cell? ⟨L.E, 4, none⟩ = some (.slice L.sa ss.length L.cs)
  s4 : SeesV w L.sa ss.length L.cs (u32s ss)
  c5 : w.cell? ⟨L.E, 5, none⟩ = some (.slice L.oa os.length L.co)
  s5 : SeesV w L.oa os.length L.co (u32s os)
  sp : ∀ a, L.oa = some a → a.spot = none

theorem cell_below {w w' : World} (h : Below w.heap.size w w') {a : Addr} {v : Value} (hc : w.cell? a = some v) : w'.cell? a = some v := by
  rw [← hc]
  exact World.cell?_of_block (h.block _ (World.block_lt_of_cell? w a hc))

theorem SeesV.below {w w' : World} {n cap : Nat} {ao : Option Addr} {xs : List Value} (h : SeesV w ao n cap xs) (hb : Below w.heap.size w w') : SeesV w' ao n cap xs :=
  ⟨h.1, h.2.1, h.2.2.1, h.2.2.2.1, fun a ha j u hu => cell_below hb (h.2.2.2.2 a ha j u hu)⟩

theorem Exp.below {w w' : World} {L : Lay} {rs : List R} {ss os : List Nat} (h : Exp w L rs ss os) (hb : Below w.heap.size w w') : Exp w' L rs ss os :=
  ⟨cell_below hb h.c2, cell_below hb h.cM, cell_below hb h.c3, cell_below hb h.cC, fun i j v hi hv => cell_below hb (h.row i j v hi hv), cell_below hb h.c4, h.s4.below hb, cell_below hb h.c5, h.s5.below hb, h.sp⟩

theorem Exp.drewN {w : World} {L : Lay} {rs : List R} {ss os : List Nat} (h : Exp w L rs ss os) (q : Nat) : Exp (w.drewN q) L rs ss os :=
  ⟨h.c2, h.cM, h.c3, h.cC, h.row, h.c4, h.s4, h.c5, h.s5, h.sp⟩

set_option maxHeartbeats 1600000 in
set_option maxRecDepth 100000 in
theorem clen_any (E M m : Nat) (am : Option Addr) (w : World) (c2 : w.cell? ⟨E, 2, none⟩ = some (.slice (some ⟨M, 0, none⟩) 1 1)) (cM : w.cell? ⟨M, 0, none⟩ = some (.slice am m m)) (hm : m ≤ 32768) :
    Calls Try.prog 20 #[.pointer (some ⟨E, 2, none⟩)] w fun e w' => e = .returned (.int .i64 m) ∧ ∃ q, w' = w.drewN q := by
  go_enter Try.func20, Try.ntmps20
  go_wp2_with fail
  go_quiet (fail)
  go_wp2
  go_ret
  exact ⟨by go_num, nq, rfl⟩

set_option maxHeartbeats 1600000 in
set_option maxRecDepth 100000 in
theorem len_any (E M m : Nat) (am : Option Addr) (w : World) (c2 : w.cell? ⟨E, 2, none⟩ = some (.slice (some ⟨M, 0, none⟩) 1 1)) (cM : w.cell? ⟨M, 0, none⟩ = some (.slice am m m)) (hm : m ≤ 32768) :
    Calls Try.prog 17 #[.pointer (some ⟨E, 0, none⟩)] w fun e w' => e = .returned (.int .i64 m) ∧ ∃ q, w' = w.drewN q := by
  go_enter Try.func17, Try.ntmps17
  go_wp2_with fail
  refine (clen_any E M m am w c2 cM hm).mono ?_
  rintro e w' ⟨rfl, q, rfl⟩
  go_wp2
  go_ret
  exact ⟨rfl, q, rfl⟩

set_option maxHeartbeats 1600000 in
set_option maxRecDepth 100000 in
theorem at_any (E C W n i : Nat) (w : World) (c3 : w.cell? ⟨E, 3, none⟩ = some (.slice (some ⟨C, 0, none⟩) 1 1)) (cC : w.cell? ⟨C, 0, none⟩ = some (.slice (some ⟨W, 0, none⟩) n n)) (hn : n ≤ 32768) (hi : i < n) :
    Calls Try.prog 19 #[.pointer (some ⟨E, 3, none⟩), .int .u32 i] w fun e w' => e = .returned (.pointer (some ⟨W, i * 5, none⟩)) ∧ w = w' := by
  have q1 : i / 65536 = 0 := by omega
  have q2 : (i : Int) / 65536 = 0 := by omega
  have q3 : (i : Int) % 65536 = (i : Int) := by omega
  have q4 : i % 65536 = i := by omega
  go_enter Try.func19, Try.ntmps19
  go_wp2
  go_ret
  exact ⟨rfl, rfl⟩

/-- What batch answers: a later member, none beyond the last. -/
def Later (f m : Nat) (w : World) (e : Ending) (w' : World) : Prop := ∃ l q : Nat, f < l ∧ l ≤ m ∧ e = .returned (.int .i64 l) ∧ w' = w.drewN q

set_option maxHeartbeats 3200000 in
set_option maxRecDepth 100000 in
theorem batch_any (L : Lay) (rs : List R) (ss os : List Nat) (f m : Nat) (w : World) (h : Exp w L rs ss os) (hm : ss.length = m + 1) (hs : m ≤ 32768) (hf : f < m) (hmono : ∀ i j, i ≤ j → j ≤ m → ss.getD i 0 ≤ ss.getD j 0) (hsm : Small ss) :
    Calls Try.prog 18 #[.pointer (some ⟨L.E, 0, none⟩), .int .i64 f] w fun e w' => Later f m w e w' := by
  obtain ⟨E, M, am, C, W, sa, cs, oa, co⟩ := L
  have c2 := h.c2
  have cM := h.cM
  have c4 := h.c4
  obtain ⟨b, o, hb, hc⟩ := h.s4.at (by omega)
  simp only [] at c2 cM c4 hb
  subst hb
  rw [hm] at cM c4
  have hm1 : m + 1 - 1 = m := by omega
  rw [hm1] at cM
  have d0 := hc f _ (u32s_get (by omega))
  have hx := hsm f
  have HF : Hid (∀ j, f ≤ j → j ≤ m → ss.getD f 0 ≤ ss.getD j 0) := fun j h1 h2 => hmono f j h1 h2
  obtain ⟨x, ex⟩ : ∃ x, ss.getD f 0 = x := ⟨_, rfl⟩
  rw [ex] at d0 hx HF
  clear ex hmono hm1
  have HS : Hid (Small ss) := hsm
  clear hsm
  go_enter Try.func18, Try.ntmps18
  go_wp2
  go_loopw [5] (fun vi wr => ∃ l q : Nat, f < l ∧ l ≤ m ∧ vi = .int .i64 l ∧ wr = w.drewN q) (fun vi _ => m - (intOf vi).toNat)
  case atStart => exact ⟨f + 1, 0, by omega, by omega, by go_num, rfl⟩
  case round =>
    obtain ⟨l, q, h1, h2, rfl, rfl⟩ := hrel
    have c2' : (w.drewN q).cell? ⟨E, 2, none⟩ = some (.slice (some ⟨M, 0, none⟩) 1 1) := c2
    have cM' : (w.drewN q).cell? ⟨M, 0, none⟩ = some (.slice am m m) := cM
    have c4' : (w.drewN q).cell? ⟨E, 4, none⟩ = some (.slice (some ⟨b, o, none⟩) (m + 1) cs) := c4
    have d0' : (w.drewN q).cell? ⟨b, o + f, none⟩ = some (.int .u32 x) := d0
    have hc' : ∀ j u, (u32s ss)[j]? = some u → (w.drewN q).cell? ⟨b, o + j, none⟩ = some u := hc
    have HQ : Hid (∃ q', w.drewN q = w.drewN q') := ⟨q, rfl⟩
    clear c2 cM c4 d0 hc h
    generalize w.drewN q = W at c2' cM' c4' d0' hc' HQ ⊢
    have C17 : Hid (∀ nq, Calls Try.prog 17 #[.pointer (some ⟨E, 0, none⟩)] (W.drewN nq) fun e w' => e = .returned (.int .i64 m) ∧ ∃ q, w' = W.drewN q) := fun nq => Calls.quiet_of (len_any E M m am (W.drewN nq) c2' cM' hs)
    by_cases hlt : l < m
    · have hlt' : (l : Int) < (m : Int) := by omega
      have d1 := hc' (l + 1) _ (u32s_get (by omega))
      have hy := HS.out (l + 1)
      have hxy := HF.out (l + 1) (by omega) (by omega)
      obtain ⟨y, ey⟩ : ∃ y, ss.getD (l + 1) 0 = y := ⟨_, rfl⟩
      rw [ey] at d1 hy hxy
      clear ey hc'
      have hsub : IntKind.u32.wrap ((y : Int) - (x : Int)) = (y : Int) - (x : Int) := by rw [IntKind.wrap_u32]; omega
      have hadd : IntKind.i64.wrap ((l : Int) + 1) = (l : Int) + 1 := by rw [IntKind.wrap_i64]; omega
      by_cases hle : y - x ≤ 4096
      · have hle' : (y : Int) - (x : Int) ≤ 4096 := by omega
        go_wp2_with fail
        go_quiet ((first | (go_at_call 17; exact C17.out _)))
        go_wp2
        obtain ⟨q', hq'⟩ := HQ.out
        exact ⟨⟨l + 1, q' + nq, by omega, by omega, by go_num, by rw [hq', World.drewN_drewN]⟩, by simp [intOf]; omega⟩
      · have hle' : decide ((y : Int) - (x : Int) ≤ 4096) = false := by simp; omega
        go_wp2_with fail
        go_quiet ((first | (go_at_call 17; exact C17.out _)))
        go_wp2
        go_ret
        obtain ⟨q', hq'⟩ := HQ.out
        exact ⟨l, q' + nq, h1, h2, rfl, by rw [hq', World.drewN_drewN]⟩
    · have hlt' : decide ((l : Int) < (m : Int)) = false := by simp; omega
      go_wp2_with fail
      go_quiet ((first | (go_at_call 17; exact C17.out _)))
      go_wp2
      go_ret
      obtain ⟨q', hq'⟩ := HQ.out
      exact ⟨l, q' + nq, h1, h2, rfl, by rw [hq', World.drewN_drewN]⟩

end Go.Proofs.Qxb6614834a
