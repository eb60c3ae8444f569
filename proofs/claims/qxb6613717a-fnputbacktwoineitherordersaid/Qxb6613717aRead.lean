/- zzB1EqualBytes at two slices that read alike; zzB1ReadUvarint at a varint. -/
import Derived.Test.Qxb6613717aClone
import Derived.Deep.QuietTactic
import Derived.BigQuiet
import Derived.Lib.VarintBits
namespace Go.Proofs.Qxb6613717a
open Go.RowKit

/-- What a loop over a slice asks: where there is an element, the address is written out and the cells lie there. -/
def Lies (w : World) (ao : Option Addr) (l : List UInt8) : Prop :=
  0 < l.length → ∃ b o, ao = some ⟨b, o, none⟩ ∧ ∀ j (hj : j < l.length), w.cell? ⟨b, o + j, none⟩ = some (.int .u8 (l[j].toNat : Int))

set_option maxHeartbeats 800000 in
theorem equal_yes (ao bo : Option Addr) (n c1 c2 : Nat) (l : List UInt8) (w : World) (hl : l.length = n) (hn : n ≤ 4194304) (ha : Lies w ao l) (hb : Lies w bo l) :
    Calls Try.prog 22 #[.slice ao n c1, .slice bo n c2] w fun e w' => e = .returned (.bool true) ∧ ∃ q, w' = w.drewN q := by
  by_cases h0 : n = 0
  · subst h0
    go_enter Try.func22, Try.ntmps22
    go_wp2
    refine wp_loop_rounds 1 ?_
    rw [rounds_succ]
    go_wp2
    go_ret
    exact ⟨rfl, 0, rfl⟩
  · obtain ⟨b1, o1, rfl, hc1⟩ := ha (by omega)
    obtain ⟨b2, o2, rfl, hc2⟩ := hb (by omega)
    have hne : ((n : Int) != (n : Int)) = false := by simp
    go_enter Try.func22, Try.ntmps22
    go_wp2
    go_loopw [5] (fun i wr => ∃ k q : Nat, k ≤ n ∧ i = .int .i64 k ∧ wr = w.drewN q) (fun i _ => n - (intOf i).toNat)
    case atStart => exact ⟨0, 0, Nat.zero_le _, rfl, rfl⟩
    case round =>
      obtain ⟨k, q, hk, rfl, rfl⟩ := hrel
      by_cases hlt : k < n
      · have d1 := hc1 k (by omega)
        have d2 := hc2 k (by omega)
        generalize l[k]'(by omega) = x at d1 d2
        have hx : x.toNat < 256 := x.toNat_lt
        clear hc1 hc2 ha hb
        go_wp2
        go_quiet (fail)
        go_wp2
        exact ⟨⟨k + 1, q + nq, by omega, by go_num, rfl⟩, by simp [intOf]; omega⟩
      · go_wp2
        go_ret
        exact ⟨rfl, q, rfl⟩

theorem ret_three {a b c d : Int} (h : a = b) (k : c = d) : Ending.returned (.tuple #[.int .u64 a, .int .i64 c, .bool true]) = .returned (.tuple #[.int .u64 b, .int .i64 d, .bool true]) := by rw [h, k]

theorem len_more {y : Nat} (h : 128 ≤ y) : (Lib.uvarint y).length = 1 + (Lib.uvarint (y / 128)).length := by rw [Lib.uvarint_big h, List.length_cons]; omega
theorem len_last {y : Nat} (h : y < 128) : (Lib.uvarint y).length = 1 := by rw [Lib.uvarint_small h]; rfl
theorem val_u64 {a b : Int} (h : a = b) : Value.int .u64 a = .int .u64 b := by rw [h]

theorem step_last {d rest : List UInt8} {b : UInt8} {y : Nat} (h : b :: d = Lib.uvarint y ++ rest) (hy : y < 128) : b.toNat = y ∧ d = rest := by
  rw [Lib.uvarint_small hy] at h
  simp at h
  exact ⟨by rw [h.1]; exact Lib.toUInt8_toNat (by omega), h.2⟩

theorem step_more {d rest : List UInt8} {b : UInt8} {y : Nat} (h : b :: d = Lib.uvarint y ++ rest) (hy : 128 ≤ y) : b.toNat = y % 128 + 128 ∧ d = Lib.uvarint (y / 128) ++ rest := by
  rw [Lib.uvarint_big hy] at h
  simp only [List.cons_append, List.cons.injEq] at h
  exact ⟨by rw [h.1]; exact Lib.toUInt8_toNat (by omega), h.2⟩

set_option maxHeartbeats 1600000 in
set_option maxRecDepth 100000 in
theorem read_any (g o n c s x : Nat) (l rest : List UInt8) (w : World) (hl : l.length = n) (hn : n ≤ 8388608) (hx : x ≤ 1048576) (hcell : ∀ j (hj : j < l.length), w.cell? ⟨g, o + j, none⟩ = some (.int .u8 (l[j].toNat : Int))) (hdrop : l.drop s = Lib.uvarint x ++ rest) (hs : s ≤ n) :
    Calls Try.prog 30 #[.slice (some ⟨g, o, none⟩) n c, .int .i64 s] w fun e w' => e = .returned (.tuple #[.int .u64 x, .int .i64 ((s + (Lib.uvarint x).length : Nat) : Int), .bool true]) ∧ w = w' := by
  have HL : Hid ((Lib.uvarint x).length + rest.length = n - s) := by
    have := congrArg List.length hdrop
    simp at this
    show _ = _
    omega
  go_enter Try.func30, Try.ntmps30
  go_wp2
  go_loop [7, 8, 9, 10] (fun vv vs vi vk => ∃ k acc y : Nat, vk = .int .i64 k ∧ vi = .int .i64 ((s + k : Nat) : Int) ∧ vs = .int .u64 ((7 * k : Nat) : Int) ∧ vv = .int .u64 acc ∧ k ≤ 2 ∧ x = acc + y * 128 ^ k ∧ acc < 128 ^ k ∧ (k = 0 ∨ 0 < y) ∧ l.drop (s + k) = Lib.uvarint y ++ rest ∧ (Lib.uvarint x).length = k + (Lib.uvarint y).length)
    (fun _ _ _ vk => 10 - (intOf vk).toNat)
  case atStart => exact ⟨0, 0, x, rfl, rfl, rfl, rfl, by omega, by simp, by simp, .inl rfl, hdrop, by omega⟩
  case round =>
    obtain ⟨k, acc, y, rfl, rfl, rfl, rfl, hk, hxy, hacc, h0, hd, hlen⟩ := hrel
    have hyp := Lib.uvarint_pos y
    have hlt : s + k < n := by
      have := congrArg List.length hd
      simp at this
      omega
    have hc := hcell (s + k) (by omega)
    rw [List.drop_eq_getElem_cons (by omega)] at hd
    generalize l[s + k]'(by omega) = b at hc hd
    have hb256 : b.toNat < 256 := b.toNat_lt
    have hks : k = 0 ∨ k = 1 ∨ k = 2 := by omega
    have HX : Hid (x = acc + y * 128 ^ k) := hxy
    have HD : Hid (b :: l.drop (s + k + 1) = Lib.uvarint y ++ rest) := hd
    have HN : Hid ((Lib.uvarint x).length = k + (Lib.uvarint y).length) := hlen
    clear hcell hdrop hxy hd hlen
    rcases hks with rfl | rfl | rfl
    · obtain rfl : acc = 0 := by simpa using hacc
      have hc0 : w.cell? ⟨g, o + s, none⟩ = some (.int .u8 (b.toNat : Int)) := hc
      clear hc
      have hv : bits .or .u64 0 (IntKind.u64.wrap (IntKind.u64.wrap (bits .and .u8 (b.toNat : Int) 127))) = ((0 + b.toNat % 128 * 1 : Nat) : Int) := by
        simp (disch := omega) only [u8_and127, u64_wrap_id, u64_orv0]
        omega
      by_cases hy : y < 128
      · obtain ⟨hb, -⟩ := step_last HD.out hy
        have hb128 : b.toNat < 128 := by omega
        have HB : Hid (b.toNat = y) := hb
        clear hb h0 hacc
        go_wp2
        all_goals
          go_ret3
          exact ⟨ret_three (by rw [HX.out, ← HB.out]; omega) (by rw [HN.out, len_last hy]; omega), rfl⟩
      · obtain ⟨hb, hd'⟩ := step_more HD.out (by omega)
        have hb128 : 128 ≤ b.toNat := by omega
        have HB : Hid (b.toNat = y % 128 + 128) := hb
        have HD' : Hid (List.drop (s + 0 + 1) l = Lib.uvarint (y / 128) ++ rest) := hd'
        have HN' : Hid ((Lib.uvarint x).length = 1 + (Lib.uvarint (y / 128)).length) := HN.out.trans (by rw [len_more (by omega)]; omega)
        clear hb hd' h0 hacc
        go_wp2
        exact ⟨⟨1, 0 + b.toNat % 128 * 1, y / 128, rfl, by go_num, rfl, val_u64 (by omega), by omega, by rw [HX.out, HB.out]; omega, by rw [HB.out]; omega, .inr (by omega), HD'.out, HN'.out⟩, by simp [intOf]⟩
    · have hacc2 : acc < 128 := by simpa using hacc
      have hv : bits .or .u64 (acc : Int) (IntKind.u64.wrap (IntKind.u64.wrap (bits .and .u8 (b.toNat : Int) 127) * 128)) = ((acc + b.toNat % 128 * 128 : Nat) : Int) := by
        simp (disch := omega) only [u8_and127, u64_wrap_id, u64_orv7]
        omega
      by_cases hy : y < 128
      · obtain ⟨hb, -⟩ := step_last HD.out hy
        have hb128 : b.toNat < 128 := by omega
        have hb0 : 0 < b.toNat := by rcases h0 with h | h <;> omega
        have HB : Hid (b.toNat = y) := hb
        clear hb h0 hacc
        go_wp2
        all_goals
          go_ret3
          exact ⟨ret_three (by rw [HX.out, ← HB.out]; omega) (by rw [HN.out, len_last hy]; omega), rfl⟩
      · obtain ⟨hb, hd'⟩ := step_more HD.out (by omega)
        have hb128 : 128 ≤ b.toNat := by omega
        have HB : Hid (b.toNat = y % 128 + 128) := hb
        have HD' : Hid (List.drop (s + 1 + 1) l = Lib.uvarint (y / 128) ++ rest) := hd'
        have HN' : Hid ((Lib.uvarint x).length = 2 + (Lib.uvarint (y / 128)).length) := HN.out.trans (by rw [len_more (by omega)]; omega)
        clear hb hd' h0 hacc
        go_wp2
        exact ⟨⟨2, acc + b.toNat % 128 * 128, y / 128, rfl, by go_num, rfl, val_u64 (by omega), by omega, by rw [HX.out, HB.out]; omega, by rw [HB.out]; omega, .inr (by omega), HD'.out, HN'.out⟩, by simp [intOf]⟩
    · have hacc2 : acc < 16384 := by simpa using hacc
      have hv : bits .or .u64 (acc : Int) (IntKind.u64.wrap (IntKind.u64.wrap (bits .and .u8 (b.toNat : Int) 127) * 16384)) = ((acc + b.toNat % 128 * 16384 : Nat) : Int) := by
        simp (disch := omega) only [u8_and127, u64_wrap_id, u64_orv14]
        omega
      by_cases hy : y < 128
      · obtain ⟨hb, -⟩ := step_last HD.out hy
        have hb128 : b.toNat < 128 := by omega
        have hb0 : 0 < b.toNat := by rcases h0 with h | h <;> omega
        have HB : Hid (b.toNat = y) := hb
        clear hb h0 hacc
        go_wp2
        all_goals
          go_ret3
          exact ⟨ret_three (by rw [HX.out, ← HB.out]; omega) (by rw [HN.out, len_last hy]; omega), rfl⟩
      · obtain ⟨hb, hd'⟩ := step_more HD.out (by omega)
        have hb128 : 128 ≤ b.toNat := by omega
        have HB : Hid (b.toNat = y % 128 + 128) := hb
        have HD' : Hid (List.drop (s + 2 + 1) l = Lib.uvarint (y / 128) ++ rest) := hd'
        have HN' : Hid ((Lib.uvarint x).length = 3 + (Lib.uvarint (y / 128)).length) := HN.out.trans (by rw [len_more (by omega)]; omega)
        clear hb hd' h0 hacc
        exact absurd HX.out (by omega)

end Go.Proofs.Qxb6613717a
