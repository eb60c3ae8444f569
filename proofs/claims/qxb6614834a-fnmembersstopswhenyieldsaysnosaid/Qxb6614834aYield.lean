/- The two closures; what Members has yielded after c members. -/
import Derived.Test.Qxb6614834aTake
namespace Go.Proofs.Qxb6614834a
open Go.RowKit
set_option linter.unusedVariables false

def ksOf (c : Nat) : List Int := (List.range c).map fun i : Nat => (i : Int)
def lsOf (ss : List Nat) (c : Nat) : List Int := (List.range c).map fun i => (ss.getD (i + 1) 0 : Int) - (ss.getD i 0 : Int)
def rsOf (rs : List R) (os : List Nat) (p : Nat) : List R := (os.take p).map fun o => rs.getD o R0

theorem ksOf_succ (c : Nat) : ksOf (c + 1) = ksOf c ++ [(c : Int)] := by simp [ksOf, List.range_succ]
theorem lsOf_succ (ss : List Nat) (c : Nat) : lsOf ss (c + 1) = lsOf ss c ++ [(ss.getD (c + 1) 0 : Int) - (ss.getD c 0 : Int)] := by simp [lsOf, List.range_succ]
theorem rsOf_add (rs : List R) (os : List Nat) (p n : Nat) : rsOf rs os (p + n) = rsOf rs os p ++ ((os.drop p).take n).map fun o => rs.getD o R0 := by
  unfold rsOf
  rw [← List.map_append, ← List.take_add]

/-- What stands at Y after c members were yielded. -/
def After (w : World) (B Y : Nat) (rs : List R) (ss os : List Nat) (c : Nat) : Prop := Yielded w B Y (ksOf c) (lsOf ss c) (rsOf rs os (ss.getD c 0))

theorem Yielded.take {w' : World} {B Y : Nat} {rs : List R} {ss os : List Nat} {c m : Nat} {nr : List R} (hl : (m : Int) = (ss.getD (c + 1) 0 : Int) - (ss.getD c 0 : Int)) (hm : ss.getD (c + 1) 0 = ss.getD c 0 + m) (hn : nr = ((os.drop (ss.getD c 0)).take m).map fun o => rs.getD o R0)
    (h : Seven w' B Y (ints .i64 (ksOf c) ++ [.int .i64 (c : Int)]) (ints .i64 (lsOf ss c) ++ [.int .i64 m]) (ints .i64 ((rsOf rs os (ss.getD c 0)).map (·.b)) ++ ints .i64 (nr.map (·.b))) (ints .i32 ((rsOf rs os (ss.getD c 0)).map (·.m)) ++ ints .i32 (nr.map (·.m))) (ints .i32 ((rsOf rs os (ss.getD c 0)).map (·.d)) ++ ints .i32 (nr.map (·.d))) (ints .i32 ((rsOf rs os (ss.getD c 0)).map (·.w)) ++ ints .i32 (nr.map (·.w))) (ints .i32 ((rsOf rs os (ss.getD c 0)).map (·.l)) ++ ints .i32 (nr.map (·.l)))) :
    After w' B Y rs ss os (c + 1) := by
  unfold After Yielded
  rw [ksOf_succ, lsOf_succ, hm, rsOf_add, ← hn]
  simp only [ints, List.map_append, List.map_cons, List.map_nil] at h ⊢
  have e : ((ss.getD c 0 + m : Nat) : Int) - (ss.getD c 0 : Int) = (m : Int) := by omega
  rw [e]
  exact h

/-- What a yield leaves. -/
def YieldPost (w : World) (B Y : Nat) (rs : List R) (ss os : List Nat) (c : Nat) (more : Nat → Bool) (e : Ending) (w' : World) : Prop :=
  e = .returned (.bool (more (c + 1))) ∧ After w' B Y rs ss os (c + 1) ∧ Keeps B w w'

theorem sizes_ok (rs : List R) (ss os : List Nat) (c : Nat) (ho : os.length ≤ 32768) (hc : c ≤ 32768) : (ints .i64 (ksOf c)).length ≤ 1048576 ∧ (ints .i64 (lsOf ss c)).length ≤ 1048576 ∧ ∀ (k : IntKind) (f : R → Int), (ints k ((rsOf rs os (ss.getD c 0)).map f)).length ≤ 32768 := by
  refine ⟨by simp [ints, ksOf]; omega, by simp [ints, lsOf]; omega, fun k f => ?_⟩
  simp [ints, rsOf]
  omega

set_option maxHeartbeats 1600000 in
set_option maxRecDepth 100000 in
theorem all_any (B Y c m cap : Nat) (ao : Option Addr) (rs nr : List R) (ss os : List Nat) (w : World) (h : After w B Y rs ss os c) (hr : RowsAt w ao m nr) (ho : os.length ≤ 32768) (hc : c ≤ 32768) (hm : m ≤ 32768)
    (hs : ss.getD (c + 1) 0 = ss.getD c 0 + m) (hn : nr = ((os.drop (ss.getD c 0)).take m).map fun o => rs.getD o R0) :
    Calls Try.prog 14 #[.int .i64 c, .slice ao m cap, .pointer (some ⟨Y, 0, none⟩)] w fun e w' => YieldPost w B Y rs ss os c (fun _ => true) e w' := by
  obtain ⟨z0, z1, z2⟩ := sizes_ok rs ss os c ho hc
  have y2 := z2 .i64 (·.b)
  have y3 := z2 .i32 (·.m)
  have y4 := z2 .i32 (·.d)
  have y5 := z2 .i32 (·.w)
  have y6 := z2 .i32 (·.l)
  go_enter Try.func14, Try.ntmps14
  go_wp2_with fail
  refine (take_any B Y m cap (c : Int) ao _ _ _ _ _ _ _ nr w h hr z0 z1 (by omega) (by omega) (by omega) (by omega) (by omega)).mono ?_
  rintro e w' ⟨rfl, h7, hk⟩
  go_wp2
  go_ret
  exact ⟨rfl, Yielded.take (by omega) hs hn h7, hk⟩

set_option maxHeartbeats 1600000 in
set_option maxRecDepth 100000 in
theorem until_any (B Y T c m cap : Nat) (stop : Int) (ao : Option Addr) (rs nr : List R) (ss os : List Nat) (w : World) (h : After w B Y rs ss os c) (hT : w.cell? ⟨T, 0, none⟩ = some (.int .i64 stop)) (hTB : T < B) (hr : RowsAt w ao m nr) (ho : os.length ≤ 32768) (hc : c ≤ 32768) (hm : m ≤ 32768)
    (hs : ss.getD (c + 1) 0 = ss.getD c 0 + m) (hn : nr = ((os.drop (ss.getD c 0)).take m).map fun o => rs.getD o R0) :
    Calls Try.prog 16 #[.int .i64 c, .slice ao m cap, .pointer (some ⟨Y, 0, none⟩), .pointer (some ⟨T, 0, none⟩)] w fun e w' => YieldPost w B Y rs ss os c (fun k => decide ((k : Int) < stop)) e w' := by
  obtain ⟨z0, z1, z2⟩ := sizes_ok rs ss os c ho hc
  have y2 := z2 .i64 (·.b)
  have y3 := z2 .i32 (·.m)
  have y4 := z2 .i32 (·.d)
  have y5 := z2 .i32 (·.w)
  have y6 := z2 .i32 (·.l)
  go_enter Try.func16, Try.ntmps16
  go_wp2_with fail
  refine (take_any B Y m cap (c : Int) ao _ _ _ _ _ _ _ nr w h hr z0 z1 (by omega) (by omega) (by omega) (by omega) (by omega)).mono ?_
  rintro e w' ⟨rfl, h7, hk⟩
  have hT' : w'.cell? ⟨T, 0, none⟩ = some (.int .i64 stop) := by
    rw [← hT]
    exact World.cell?_of_block (hk.below.block _ hTB)
  have hA := Yielded.take (by omega) hs hn h7
  obtain ⟨a0, a1, a2, a3, a4, a5, a6, c0, c1, c2, c3, c4, c5, c6, hb⟩ := h7
  obtain ⟨d0, _⟩ := heads hb.head 0 _ rfl
  have hl : (ints .i64 (ksOf c) ++ [Value.int .i64 (c : Int)]).length = c + 1 := by simp [ints, ksOf]
  have d0' : w'.cell? ⟨Y, 0, none⟩ = some (.slice a0 (c + 1) c0) := by rw [← hl]; exact d0
  clear d0 hb hl
  have HA : Hid (After w' B Y rs ss os (c + 1)) := hA
  clear hA
  go_wp2
  go_ret
  exact ⟨by go_num, HA.out, hk⟩

end Go.Proofs.Qxb6614834a
