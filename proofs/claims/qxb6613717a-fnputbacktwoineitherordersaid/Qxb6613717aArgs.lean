/- What the laws over ready lists are handed: slices of uint64, slices of byte slices; zzBytes, zzB1Spend, the clones. -/
import Derived.Test.Qxb6613717aBytes
import Derived.Test.Qxb6613717aReady
namespace Go.Proofs.Qxb6613717a
open Go.RowKit

/-- A slice value that reads, in w, as these cells (one an element). -/
def SeesV (w : World) (ao : Option Addr) (n cap : Nat) (xs : List Value) : Prop :=
  xs.length = n ∧ n ≤ cap ∧ cap ≤ maxLen ∧ (ao = none → n = 0 ∧ cap = 0) ∧ ∀ a, ao = some a → ∀ j u, xs[j]? = some u → w.cell? (a.add j) = some u

theorem SeesV.at {w : World} {ao : Option Addr} {n cap : Nat} {xs : List Value} (h : SeesV w ao n cap xs) (hp : 0 < n) : ∃ b o, ao = some ⟨b, o, none⟩ ∧ ∀ j u, xs[j]? = some u → w.cell? ⟨b, o + j, none⟩ = some u := by
  obtain ⟨h1, h2, h3, h4, h5⟩ := h
  cases ao with
  | none => have := (h4 rfl).1; omega
  | some a =>
    obtain ⟨b, off, spot⟩ := a
    have h0 := h5 _ rfl 0 (xs[0]'(by omega)) (List.getElem?_eq_getElem _)
    have hspot : spot = none := by simpa [Addr.add] using World.cell?_spot h0
    subst hspot
    exact ⟨b, off, rfl, fun j u hj => by rw [← Addr.add_lit]; exact h5 _ rfl j u hj⟩

theorem SeesV.kept {w w' : World} {n cap : Nat} {ao : Option Addr} {xs : List Value} (h : SeesV w ao n cap xs) (hg : w.grownBy w' none) : SeesV w' ao n cap xs :=
  ⟨h.1, h.2.1, h.2.2.1, h.2.2.2.1, fun a ha j u hu => hg.cell (h.2.2.2.2 a ha j u hu) (by simp)⟩

theorem SeesV.drewN {w : World} {n cap : Nat} {ao : Option Addr} {xs : List Value} (h : SeesV w ao n cap xs) (q : Nat) : SeesV (w.drewN q) ao n cap xs := h

theorem own_seesV {w : World} {lo e n cap : Nat} {ao : Option Addr} {xs : List Value} (h : w.ownsRow lo e 1 (.slice ao n cap) n xs) : SeesV w ao n cap xs := by
  have hx := h.1
  rcases h.2 with ⟨h1, h2⟩ | ⟨g, c, cur, h1, hg, _, hc, hm, _⟩
  · simp at h1
    exact ⟨by omega, by omega, by rw [h1.2.2]; exact Nat.zero_le _, fun _ => h1.2, fun a ha => by rw [h1.1] at ha; simp at ha⟩
  · simp at h1
    refine ⟨by omega, by omega, by omega, fun hn => by rw [h1.1] at hn; simp at hn, fun a ha j u hu => ?_⟩
    rw [h1.1] at ha
    obtain rfl := Option.some.inj ha
    exact h.cells (g := g) (by rw [h1.1]; rfl) j u hu

def u64s (ss : List Nat) : List Value := ss.map fun s : Nat => Value.int .u64 (s : Int)
theorem u64s_one (ss : List Nat) : ∀ v ∈ u64s ss, v.oneCell' = true := by
  intro v hv
  simp only [u64s, List.mem_map] at hv
  obtain ⟨_, _, rfl⟩ := hv
  rfl

/-- One body: a slice of bytes, and its bytes. -/
structure Body where
  ao : Option Addr
  n : Nat
  cap : Nat
  l : List UInt8

def Body.val (b : Body) : Value := .slice b.ao b.n b.cap
def bodyVals (bs : List Body) : List Value := bs.map Body.val
theorem bodyVals_one (bs : List Body) : ∀ v ∈ bodyVals bs, v.oneCell' = true := by
  intro v hv
  simp only [bodyVals, List.mem_map] at hv
  obtain ⟨_, _, rfl⟩ := hv
  rfl

def sizes (bs : List Body) : Nat := (bs.map (·.n)).sum

theorem sizes_take (bs : List Body) (k : Nat) (h : k < bs.length) : sizes (bs.take (k + 1)) = sizes (bs.take k) + bs[k].n := by
  unfold sizes
  rw [List.take_succ_eq_append_getElem h, List.map_append, List.sum_append]
  simp

theorem sizes_le (bs : List Body) (k : Nat) : sizes (bs.take k) ≤ sizes bs := by
  have e : sizes bs = sizes (bs.take k) + sizes (bs.drop k) := by
    unfold sizes
    rw [← List.sum_append, ← List.map_append, List.take_append_drop]
  omega

theorem sizes_mem (bs : List Body) (b : Body) (h : b ∈ bs) : b.n ≤ sizes bs := by
  obtain ⟨k, hk, rfl⟩ := List.getElem_of_mem h
  have h1 := sizes_take bs k hk
  have h2 := sizes_le bs (k + 1)
  omega

/-- A call that answers a bool; where it says yes, p holds. -/
def YesIf (e : Ending) (p : Prop) : Prop := ∃ r, e = .returned (.bool r) ∧ (r = true → p)
theorem YesIf.no {p : Prop} : YesIf (.returned (.bool false)) p := ⟨false, rfl, fun h => by simp at h⟩
theorem YesIf.yes {p : Prop} (h : p) : YesIf (.returned (.bool true)) p := ⟨true, rfl, fun _ => h⟩

theorem val_i64 {a b : Int} (h : a = b) : Value.int .i64 a = .int .i64 b := by rw [h]

set_option maxHeartbeats 1600000 in
set_option maxRecDepth 100000 in
theorem bytes18_any (a0 a1 : Option Addr) (n0 n1 c0 c1 : Nat) (bs : List Body) (w : World) (h0 : n0 ≤ maxLen) (s1 : SeesV w a1 n1 c1 (bodyVals bs)) (hb : ∀ b ∈ bs, b.n ≤ maxLen) :
    Calls Try.prog 18 #[.slice a0 n0 c0, .slice a1 n1 c1] w fun e w' => YesIf e (n0 + n1 + sizes bs ≤ 1048576) ∧ w = w' := by
  have hl : bs.length = n1 := by have := s1.1; simpa [bodyVals] using this
  have h1 : n1 ≤ maxLen := Nat.le_trans s1.2.1 s1.2.2.1
  unfold maxLen at h0 h1 hb
  by_cases hbig : 1048576 < n0 + n1
  · go_enter Try.func18, Try.ntmps18
    go_wp2
    all_goals
      go_ret
      exact ⟨YesIf.no, rfl⟩
  · by_cases hz : n1 = 0
    · subst hz
      obtain rfl : bs = [] := List.eq_nil_of_length_eq_zero hl
      go_enter Try.func18, Try.ntmps18
      go_wp2
      refine wp_loop_rounds 1 ?_
      rw [rounds_succ]
      go_wp2
      go_ret
      exact ⟨YesIf.yes (by simp [sizes]; omega), rfl⟩
    · obtain ⟨b, o, rfl, hc⟩ := s1.at (by omega)
      go_enter Try.func18, Try.ntmps18
      go_wp2
      go_loop [5, 6] (fun vz vi => ∃ k : Nat, k ≤ n1 ∧ vi = .int .i64 k ∧ vz = .int .i64 ((n0 + n1 + sizes (bs.take k) : Nat) : Int) ∧ n0 + n1 + sizes (bs.take k) ≤ 1048576) (fun _ vi => n1 - (intOf vi).toNat)
      case atStart => exact ⟨0, Nat.zero_le _, rfl, by simp [sizes], by simp [sizes]; omega⟩
      case round =>
        obtain ⟨k, hk, rfl, rfl, hsum⟩ := hrel
        by_cases hlt : k < n1
        · have hck := hc k (bs[k]'(by omega)).val (by simp [bodyVals, hl, hlt])
          have HS : Hid (sizes (bs.take (k + 1)) = sizes (bs.take k) + (bs[k]'(by omega)).n) := sizes_take bs k (by omega)
          have hbk := hb (bs[k]'(by omega)) (List.getElem_mem _)
          unfold Body.val at hck
          generalize bs[k]'(by omega) = x at hck HS hbk
          generalize sizes (bs.take k) = S at HS hsum ⊢
          clear hc s1 hb
          go_wp2
          · go_ret
            exact ⟨YesIf.no, rfl⟩
          · go_ret
            exact ⟨YesIf.no, rfl⟩
          · exact ⟨⟨k + 1, by omega, by go_num, val_i64 (by rw [HS.out]; omega), by rw [HS.out]; omega⟩, by simp [intOf]; omega⟩
        · have : k = n1 := by omega
          subst this
          have e : bs.take k = bs := List.take_of_length_le (by omega)
          rw [e] at hsum ⊢
          go_wp2
          go_ret
          exact ⟨YesIf.yes trivial, rfl⟩

/-- A call that answers a number between 0 and b, and a bool. -/
def Spent (e : Ending) (b : Int) : Prop := ∃ r ok, e = .returned (.tuple #[.int .i64 r, .bool ok]) ∧ 0 ≤ r ∧ r ≤ b
theorem Spent.mk {b r : Int} {ok : Bool} (h0 : 0 ≤ r) (h1 : r ≤ b) : Spent (.returned (.tuple #[.int .i64 r, .bool ok])) b := ⟨r, ok, rfl, h0, h1⟩

set_option maxHeartbeats 1600000 in
set_option maxRecDepth 100000 in
theorem spend_any (a1 : Option Addr) (n1 c1 : Nat) (B : Int) (bs : List Body) (w : World) (s1 : SeesV w a1 n1 c1 (bodyVals bs)) (hb : ∀ b ∈ bs, b.n ≤ maxLen) (hB : 0 ≤ B) (hB' : B ≤ 1048576) :
    Calls Try.prog 8 #[.slice a1 n1 c1, .int .i64 B] w fun e w' => Spent e B ∧ w = w' := by
  have hl : bs.length = n1 := by have := s1.1; simpa [bodyVals] using this
  have h1 : n1 ≤ maxLen := Nat.le_trans s1.2.1 s1.2.2.1
  unfold maxLen at h1 hb
  by_cases hbig : B / 8 < (n1 : Int)
  · go_enter Try.func8, Try.ntmps8
    go_wp2
    go_ret2
    exact ⟨Spent.mk (by omega) hB, rfl⟩
  · by_cases hz : n1 = 0
    · subst hz
      go_enter Try.func8, Try.ntmps8
      go_wp2
      refine wp_loop_rounds 1 ?_
      rw [rounds_succ]
      go_wp2
      go_ret2
      exact ⟨Spent.mk (by omega) (by omega), rfl⟩
    · obtain ⟨b, o, rfl, hc⟩ := s1.at (by omega)
      go_enter Try.func8, Try.ntmps8
      go_wp2
      go_loop [1, 6] (fun vb vi => ∃ (k : Nat) (r : Int), k ≤ n1 ∧ vi = .int .i64 k ∧ vb = .int .i64 r ∧ 0 ≤ r ∧ r ≤ B) (fun _ vi => n1 - (intOf vi).toNat)
      case atStart => exact ⟨0, _, Nat.zero_le _, rfl, rfl, by omega, by omega⟩
      case round =>
        obtain ⟨k, r, hk, rfl, rfl, hr0, hrB⟩ := hrel
        by_cases hlt : k < n1
        · have hck := hc k (bs[k]'(by omega)).val (by simp [bodyVals, hl, hlt])
          have hbk := hb (bs[k]'(by omega)) (List.getElem_mem _)
          unfold Body.val at hck
          generalize bs[k]'(by omega) = x at hck hbk
          clear hc s1 hb
          go_wp2
          · go_ret2
            exact ⟨Spent.mk (by omega) hB, rfl⟩
          · exact ⟨⟨k + 1, r - x.n, by omega, by go_num, rfl, by omega, by omega⟩, by simp [intOf]; omega⟩
        · go_wp2
          go_ret2
          exact ⟨Spent.mk hr0 hrB, rfl⟩

end Go.Proofs.Qxb6613717a
