/- zzB1BuildReady. -/
import Derived.Test.Qxb6613717aPush
import Derived.Test.Qxb6613717aPrem
namespace Go.Proofs.Qxb6613717a
open Go.RowKit

def specsF (ss : List Nat) (bs : List Body) : List Spec := List.zipWith (fun s b => ⟨s, false, 0, b.l⟩) ss bs

theorem specsF_take {ss : List Nat} {bs : List Body} {k : Nat} (h : k < ss.length) (h' : k < bs.length) : (specsF ss bs).take (k + 1) = (specsF ss bs).take k ++ [⟨ss[k], false, 0, bs[k].l⟩] := by
  rw [List.take_succ_eq_append_getElem (by simp [specsF]; omega)]
  congr 2
  simp [specsF]

theorem grown_put {w w1 w' : World} {L : Nat} {ao ao' : Option Addr} (hg : w.grownBy w1 none) (hp : Put w1 L ao w' ao') (hL : w.heap.size ≤ L) (ha : ∀ a, ao = some a → w.heap.size ≤ a.block) : w.grownBy w' none :=
  ⟨hp.os.trans hg.os, hp.tape.trans hg.tape, hp.output.trans hg.output, Nat.le_trans hg.size hp.size, fun k hk _ => (hp.block k (Nat.lt_of_lt_of_le hk hg.size) (by omega) (by
    cases ao with
    | none => simp
    | some a => have := ha a rfl; simp; omega)).trans (hg.block k hk (by simp))⟩

theorem lo_put {w w1 w' : World} {L : Nat} {ao ao' : Option Addr} (hg : w.grownBy w1 none) (hp : Put w1 L ao w' ao') (ha : ∀ a, ao = some a → w.heap.size ≤ a.block) : ∀ a, ao' = some a → w.heap.size ≤ a.block := by
  rintro a rfl
  have := hg.size
  rcases hp.follows with e | ⟨j, e, hj⟩
  · cases ao with
    | none => simp at e
    | some c => simp at e; have := ha c rfl; omega
  · simp at e
    omega

/-- A ready list under way: both runs, what they stand for, and that all of it is new since w. -/
structure Bd (w wr : World) (L : Nat) (ao : Option Addr) (k cap : Nat) (es : List Ent) (fo : Option Addr) (m fc : Nat) (fs : List Ent) (B : Int) (sps sqs : List Spec) : Prop where
  rl : RL wr L ao k cap es fo m fc fs B
  f1 : FiledAll wr es sps
  f2 : FiledAll wr fs sqs
  gr : w.grownBy wr none
  loL : w.heap.size ≤ L
  loA : ∀ a, ao = some a → w.heap.size ≤ a.block
  loF : ∀ a, fo = some a → w.heap.size ≤ a.block

theorem Bd.grown {w wr w1 : World} {L : Nat} {ao : Option Addr} {k cap : Nat} {es : List Ent} {fo : Option Addr} {m fc : Nat} {fs : List Ent} {B : Int} {sps sqs : List Spec} (h : Bd w wr L ao k cap es fo m fc fs B sps sqs) (g : wr.grownBy w1 none) : Bd w w1 L ao k cap es fo m fc fs B sps sqs :=
  ⟨h.rl.grown g, h.f1.grown g, h.f2.grown g, grownBy_none_trans h.gr g, h.loL, h.loA, h.loF⟩

theorem Bd.ret {w w1 w' : World} {L : Nat} {ao ao' : Option Addr} {k cap cap' : Nat} {es : List Ent} {fo : Option Addr} {m fc : Nat} {fs : List Ent} {B : Int} {sps sqs : List Spec} {x : Ent} {sp : Spec} (h : Bd w w1 L ao k cap es fo m fc fs B sps sqs)
    (hr : RL w' L ao' (k + 1) cap' (es ++ [x]) fo m fc fs B) (hp : Put w1 L ao w' ao') (hf : Filed w' x sp) : Bd w w' L ao' (k + 1) cap' (es ++ [x]) fo m fc fs B (sps ++ [sp]) sqs := by
  have hk : Kind w1 w' := Kind.put hp h.rl.ready.head h.rl.ready.row
  exact ⟨hr, (hk.filedAll h.f1).snoc hf, hk.filedAll h.f2, grown_put h.gr hp h.loL h.loA, h.loL, lo_put h.gr hp h.loA, h.loF⟩

theorem Bd.fre {w w1 w' : World} {L : Nat} {ao fo' : Option Addr} {k cap fc' : Nat} {es : List Ent} {fo : Option Addr} {m fc : Nat} {fs : List Ent} {B : Int} {sps sqs : List Spec} {x : Ent} {sp : Spec} (h : Bd w w1 L ao k cap es fo m fc fs B sps sqs)
    (hr : RL w' L ao k cap es fo' (m + 1) fc' (fs ++ [x]) B) (hp : Put w1 L fo w' fo') (hf : Filed w' x sp) : Bd w w' L ao k cap es fo' (m + 1) fc' (fs ++ [x]) B sps (sqs ++ [sp]) := by
  have hk : Kind w1 w' := Kind.put hp h.rl.ready.head h.rl.fresh
  exact ⟨hr, hk.filedAll h.f1, (hk.filedAll h.f2).snoc hf, grown_put h.gr hp h.loL h.loF, h.loL, h.loA, lo_put h.gr hp h.loF⟩

def Built (w : World) (n0 n2 : Nat) (B : Int) (sps sqs : List Spec) (e : Ending) (w' : World) : Prop :=
  ∃ L ao cap es fo fc fs, e = .returned (.pointer (some ⟨L, 0, none⟩)) ∧ Bd w w' L ao n0 cap es fo n2 fc fs B sps sqs

set_option maxHeartbeats 4000000 in
set_option maxRecDepth 100000 in
theorem build_any (a0 a1 a2 a3 : Option Addr) (n0 n2 c0 c1 c2 c3 : Nat) (rs fss : List Nat) (rb fb : List Body) (w : World) (s0 : SeesV w a0 n0 c0 (u64s rs)) (s1 : SeesBs w a1 n0 c1 rb) (s2 : SeesV w a2 n2 c2 (u64s fss)) (s3 : SeesBs w a3 n2 c3 fb) (h0 : n0 ≤ 1048576) (h2 : n2 ≤ 1048576) (hr : sizes rb ≤ 1048576) (hf : sizes fb ≤ 1048576) :
    Calls Try.prog 15 #[.slice a0 n0 c0, .slice a1 n0 c1, .slice a2 n2 c2, .slice a3 n2 c3] w fun e w' => Built w n0 n2 (((sizes rb : Nat) : Int) + ((sizes fb : Nat) : Int)) (specsF rs rb) (specsF fss fb) e w' := by
  have hl0 : rs.length = n0 := by have := s0.1; simpa [u64s] using this
  have hl2 : fss.length = n2 := by have := s2.1; simpa [u64s] using this
  have hl1 := s1.len
  have hl3 := s3.len
  have hbr : ∀ b ∈ rb, b.n ≤ 1048576 := fun b hb => Nat.le_trans (sizes_mem rb b hb) hr
  have hbf : ∀ b ∈ fb, b.n ≤ 1048576 := fun b hb => Nat.le_trans (sizes_mem fb b hb) hf
  go_enter Try.func15, Try.ntmps15
  go_wp2_with fail
  refine (sum_any a1 n0 c1 rb w s1.row h0 hr).mono ?_
  rintro e w' ⟨rfl, rfl⟩
  go_wp2_with fail
  refine (sum_any a3 n2 c3 fb w s3.row h2 hf).mono ?_
  rintro e w' ⟨rfl, rfl⟩
  go_wp2_with fail
  generalize hB : (((sizes rb : Nat) : Int) + ((sizes fb : Nat) : Int)) = B
  refine (newList_any B w).mono ?_
  rintro e w1 ⟨rfl, hrd, g1⟩
  have bd0 : Bd w w1 w.heap.size none 0 0 [] none 0 0 [] B [] [] := ⟨⟨hrd, World.ownsRow_nil _ _ _ _, by simp⟩, FiledAll.nil _, FiledAll.nil _, g1, Nat.le_refl _, by simp, by simp⟩
  have HB : Hid ((((sizes rb : Nat) : Int) + ((sizes fb : Nat) : Int)) = B) := hB
  clear hB
  clear hrd g1
  go_wp2_with fail
  go_loopw [10] (fun vi wr => ∃ (k : Nat) (ao : Option Addr) (cap : Nat) (es : List Ent), k ≤ n0 ∧ vi = .int .i64 k ∧ Bd w wr w.heap.size ao k cap es none 0 0 [] B ((specsF rs rb).take k) []) (fun vi _ => n0 - (intOf vi).toNat)
  case atStart => exact ⟨0, none, 0, [], Nat.zero_le _, rfl, bd0⟩
  case round =>
    obtain ⟨k, ao, cap, es, hk, rfl, bd⟩ := hrel
    by_cases hlt : k < n0
    · obtain ⟨g0, p0, rfl, hc0⟩ := (s0.kept bd.gr).at (by omega)
      obtain ⟨gb, pb, rfl, hcb⟩ := (s1.row.kept bd.gr).at (by omega)
      have q0 := hc0 k _ (u64s_at (by omega))
      have q1 := hcb k (rb[k]'(by omega)).val (by simp [bodyVals, hl1, hlt])
      have hse := ((s1.each (rb[k]'(by omega)) (List.getElem_mem _)).kept bd.gr)
      have hbx := hbr (rb[k]'(by omega)) (List.getElem_mem _)
      have HT : Hid _ := specsF_take (ss := rs) (bs := rb) (k := k) (by omega) (by omega)
      obtain ⟨x, hx⟩ : ∃ x, rb[k]'(by omega) = x := ⟨_, rfl⟩
      obtain ⟨s, hs⟩ : ∃ s, rs[k]'(by omega) = s := ⟨_, rfl⟩
      rw [hx, hs] at HT
      rw [hx] at q1 hse hbx
      rw [hs] at q0
      have U0 : Hid ((u64s rs)[k]? = some (.int .u64 (s : Int))) := by show _ = _; rw [u64s_at (by omega), hs]
      have U1 : Hid ((bodyVals rb)[k]? = some (.slice x.ao x.n x.cap)) := by show _ = _; rw [← hx]; simp [bodyVals, hl1, hlt, Body.val]
      unfold Body.val at q1
      clear hx hs hc0 hcb
      go_wp2_with fail
      go_region_held3 (fun w' => w'.cell? ⟨g0, p0 + k, none⟩ = some (.int .u64 s) ∧ w'.cell? ⟨gb, pb + k, none⟩ = some (.slice x.ao x.n x.cap)) (first | assumption | exact ⟨q0, q1⟩)
        ((first
          | (go_at_call 13; refine (clone_own x.ao x.n x.cap x.l _ ?_ hbx).mono ?_; exact hse; rintro e w4 ⟨ao4, cap4, rfl, o4, g4⟩; have g4 : wr.grownBy w4 none := ⟨g4.os, g4.tape, g4.output, g4.size, g4.block⟩; have hS4 : w4.cell? ⟨g0, p0 + k, none⟩ = some (.int .u64 s) ∧ w4.cell? ⟨gb, pb + k, none⟩ = some (.slice x.ao x.n x.cap) := ⟨g4.cell q0 (by simp), g4.cell q1 (by simp)⟩; have bd4 := bd.grown g4)
          | (go_at_call 32; refine (pushRet_any w.heap.size k cap 0 0 s ao none es [] B ⟨ao4, x.n, cap4, x.l⟩ w4 bd4.rl (by omega) (ownsRow_base o4.row (Nat.zero_le _))).mono ?_; rintro e w5 ⟨rfl, ao5, cap5, y, hr5, hp5, hf5⟩; have bd5 := bd4.ret hr5 hp5 hf5; have hS5 : w5.cell? ⟨g0, p0 + k, none⟩ = some (.int .u64 s) ∧ w5.cell? ⟨gb, pb + k, none⟩ = some (.slice x.ao x.n x.cap) := ⟨(s0.kept bd5.gr).cell U0.out, (s1.row.kept bd5.gr).cell U1.out⟩)))
      go_wp2
      go_roundw
      case rel => exact ⟨k + 1, ao5, cap5, _, by omega, by go_num, by rw [HT.out]; exact bd5⟩
      case measure => simp [intOf]; omega
    · obtain rfl : k = n0 := by omega
      have hfull : (specsF rs rb).take k = specsF rs rb := List.take_of_length_le (by simp [specsF]; omega)
      rw [hfull] at bd
      clear hfull
      go_wp2_with fail
      go_loopw [11] (fun vi wr2 => ∃ (m : Nat) (fo : Option Addr) (fc : Nat) (fs : List Ent), m ≤ n2 ∧ vi = .int .i64 m ∧ Bd w wr2 w.heap.size ao k cap es fo m fc fs B (specsF rs rb) ((specsF fss fb).take m)) (fun vi _ => n2 - (intOf vi).toNat)
      case atStart => exact ⟨0, none, 0, [], Nat.zero_le _, rfl, bd⟩
      case round =>
        obtain ⟨m, fo, fc, fs, hm, rfl, bd⟩ := hrel
        by_cases hlt : m < n2
        · obtain ⟨g0, p0, rfl, hc0⟩ := (s2.kept bd.gr).at (by omega)
          obtain ⟨gb, pb, rfl, hcb⟩ := (s3.row.kept bd.gr).at (by omega)
          have q0 := hc0 m _ (u64s_at (by omega))
          have q1 := hcb m (fb[m]'(by omega)).val (by simp [bodyVals, hl3, hlt])
          have hse := ((s3.each (fb[m]'(by omega)) (List.getElem_mem _)).kept bd.gr)
          have hbx := hbf (fb[m]'(by omega)) (List.getElem_mem _)
          have HT : Hid _ := specsF_take (ss := fss) (bs := fb) (k := m) (by omega) (by omega)
          obtain ⟨x, hx⟩ : ∃ x, fb[m]'(by omega) = x := ⟨_, rfl⟩
          obtain ⟨s, hs⟩ : ∃ s, fss[m]'(by omega) = s := ⟨_, rfl⟩
          rw [hx, hs] at HT
          rw [hx] at q1 hse hbx
          rw [hs] at q0
          have U0 : Hid ((u64s fss)[m]? = some (.int .u64 (s : Int))) := by show _ = _; rw [u64s_at (by omega), hs]
          have U1 : Hid ((bodyVals fb)[m]? = some (.slice x.ao x.n x.cap)) := by show _ = _; rw [← hx]; simp [bodyVals, hl3, hlt, Body.val]
          unfold Body.val at q1
          clear hx hs hc0 hcb
          go_wp2_with fail
          go_region_held3 (fun w' => w'.cell? ⟨g0, p0 + m, none⟩ = some (.int .u64 s) ∧ w'.cell? ⟨gb, pb + m, none⟩ = some (.slice x.ao x.n x.cap)) (first | assumption | exact ⟨q0, q1⟩)
            ((first
              | (go_at_call 13; refine (clone_own x.ao x.n x.cap x.l _ ?_ hbx).mono ?_; exact hse; rintro e w4 ⟨ao4, cap4, rfl, o4, g4⟩; have g4 : wr.grownBy w4 none := ⟨g4.os, g4.tape, g4.output, g4.size, g4.block⟩; have hS4 : w4.cell? ⟨g0, p0 + m, none⟩ = some (.int .u64 s) ∧ w4.cell? ⟨gb, pb + m, none⟩ = some (.slice x.ao x.n x.cap) := ⟨g4.cell q0 (by simp), g4.cell q1 (by simp)⟩; have bd4 := bd.grown g4)
              | (go_at_call 33; refine (pushFresh_any w.heap.size k cap m fc s ao fo es fs B ⟨ao4, x.n, cap4, x.l⟩ w4 bd4.rl (by omega) (ownsRow_base o4.row (Nat.zero_le _))).mono ?_; rintro e w5 ⟨rfl, ao5, cap5, y, hr5, hp5, hf5⟩; have bd5 := bd4.fre hr5 hp5 hf5; have hS5 : w5.cell? ⟨g0, p0 + m, none⟩ = some (.int .u64 s) ∧ w5.cell? ⟨gb, pb + m, none⟩ = some (.slice x.ao x.n x.cap) := ⟨(s2.kept bd5.gr).cell U0.out, (s3.row.kept bd5.gr).cell U1.out⟩)))
          go_wp2
          go_roundw
          case rel => exact ⟨m + 1, ao5, cap5, _, by omega, by go_num, by rw [HT.out]; exact bd5⟩
          case measure => simp [intOf]; omega
        · obtain rfl : m = n2 := by omega
          have hfull : (specsF fss fb).take m = specsF fss fb := List.take_of_length_le (by simp [specsF]; omega)
          rw [hfull] at bd
          clear hfull
          go_wp2
          go_ret
          exact ⟨_, _, _, _, _, _, _, rfl, by rw [HB.out]; exact bd⟩

end Go.Proofs.Qxb6613717a
