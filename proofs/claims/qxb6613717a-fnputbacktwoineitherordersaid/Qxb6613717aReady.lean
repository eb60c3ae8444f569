/- ZZputBack; the readers of a ready list. -/
import Derived.Test.Qxb6613717aPutBack
namespace Go.Proofs.Qxb6613717a
open Go.RowKit

/-- The cells of a message whose body is this slice. -/
def msgCells (bo : Option Addr) (bn bc : Nat) : Array Value :=
  #[.string ⟨#[]⟩, .string ⟨#[]⟩, .string ⟨#[]⟩, .string ⟨#[]⟩, .map none, .int .u8 0, .int .u8 0, .string ⟨#[]⟩, .string ⟨#[]⟩, .string ⟨#[]⟩, .string ⟨#[]⟩, .int .u64 0, .int .i64 0, .pointer none, .string ⟨#[]⟩, .string ⟨#[]⟩, .string ⟨#[]⟩, .string ⟨#[]⟩, .slice bo bn bc]

theorem msg_cell {w : World} {m bn bc : Nat} {bo : Option Addr} (h : w.heap[m]? = some (.cells (msgCells bo bn bc) 63 (0, 0))) : w.cell? ⟨m, 18, none⟩ = some (.slice bo bn bc) := by
  simp [World.cell?, h, msgCells]

theorem put_alloc {w w' : World} {L : Nat} {ao ao' : Option Addr} {o : Obj} (h : Put (w.alloc o) L ao w' ao') : Put w L ao w' ao' := by
  have hs : (w.alloc o).heap.size = w.heap.size + 1 := by simp
  refine ⟨h.os, h.tape, h.output, by have := h.size; omega, fun k hk hL ha => (h.block k (by omega) hL ha).trans (Below.heap_alloc w o k hk), ?_⟩
  rcases h.follows with h | ⟨k, h, hk⟩
  · exact .inl h
  · exact .inr ⟨k, h, by omega⟩

set_option maxHeartbeats 1600000 in
set_option maxRecDepth 100000 in
theorem zzput_any (L n cap bn bc s : Nat) (ao bo : Option Addr) (fv : Value) (B exp : Int) (red : Bool) (es : List Ent) (w : World) (hr : Ready w L ao n cap fv B es) (hn : n ≤ 1048575) (hs : Sorted es) (hB : 0 ≤ B) (hB' : B ≤ 4398046511104) (hbn : bn ≤ 1048576) :
    Calls Try.prog 16 #[.pointer (some ⟨L, 0, none⟩), .int .u64 s, .bool red, .int .i64 exp, .slice bo bn bc] w fun e w' => e = .returned (.tuple #[]) ∧
      ∃ ao' cap', Ready w' L ao' (n + 1) cap' fv (B + bn) (es.take (ahead es s) ++ [⟨s, w.heap.size, red, exp⟩] ++ es.drop (ahead es s)) ∧ Put w L ao w' ao' ∧ w'.heap[w.heap.size]? = some (.cells (msgCells bo bn bc) 63 (0, 0)) := by
  have hg : w.grownBy (w.alloc (.cells (msgCells bo bn bc) 63)) none := World.grownBy_alloc _ _ _
  have hm : (w.alloc (.cells (msgCells bo bn bc) 63)).heap[w.heap.size]? = some (.cells (msgCells bo bn bc) 63 (0, 0)) := heap_alloc_new w _
  have hL : w.heap.size ≠ L := by have := (head_cells hr.head).2.2.2.2; omega
  have ha : some w.heap.size ≠ ao.map (·.block) := by
    have := row_lt hr.row
    cases ao with
    | none => simp
    | some a => have := this a rfl; simp; omega
  have hsz : (w.alloc (.cells (msgCells bo bn bc) 63)).heap.size = w.heap.size + 1 := by simp
  go_enter Try.func16, Try.ntmps16
  go_wp2_with fail
  refine (putBack_any L n cap bn bc ao bo fv B es ⟨s, w.heap.size, red, exp⟩ (w.alloc (.cells (msgCells bo bn bc) 63)) ⟨heap_kept hg hr.head (by simp), kept_none hr.row hg⟩ hn hs hB hB' hbn (msg_cell hm) hL ha).mono ?_
  rintro e w' ⟨rfl, ao', cap', hr', hp⟩
  go_wp2
  go_end0
  exact ⟨rfl, ao', cap', hr', put_alloc hp, (hp.block _ (by omega) hL ha).trans hm⟩

set_option maxHeartbeats 400000 in
theorem retLen_any (L n cap : Nat) (ao : Option Addr) (fv : Value) (B : Int) (es : List Ent) (w : World) (hr : Ready w L ao n cap fv B es) :
    Calls Try.prog 20 #[.pointer (some ⟨L, 0, none⟩)] w fun e w' => e = .returned (.int .i64 n) ∧ w = w' := by
  obtain ⟨c0, c1, c2, cf, hL⟩ := head_cells hr.head
  go_enter Try.func20, Try.ntmps20
  go_wp2
  go_ret
  exact ⟨rfl, rfl⟩

set_option maxHeartbeats 400000 in
theorem freshLen_any (L n cap fn fc : Nat) (ao fo : Option Addr) (B : Int) (es : List Ent) (w : World) (hr : Ready w L ao n cap (.slice fo fn fc) B es) :
    Calls Try.prog 26 #[.pointer (some ⟨L, 0, none⟩)] w fun e w' => e = .returned (.int .i64 fn) ∧ w = w' := by
  obtain ⟨c0, c1, c2, cf, hL⟩ := head_cells hr.head
  go_enter Try.func26, Try.ntmps26
  go_wp2
  go_ret
  exact ⟨rfl, rfl⟩

set_option maxHeartbeats 400000 in
theorem bytes_any (L n cap : Nat) (ao : Option Addr) (fv : Value) (B : Int) (es : List Ent) (w : World) (hr : Ready w L ao n cap fv B es) :
    Calls Try.prog 27 #[.pointer (some ⟨L, 0, none⟩)] w fun e w' => e = .returned (.int .i64 B) ∧ w = w' := by
  obtain ⟨c0, c1, c2, cf, hL⟩ := head_cells hr.head
  go_enter Try.func27, Try.ntmps27
  go_wp2
  go_ret
  exact ⟨rfl, rfl⟩

theorem Ready.some {w : World} {L n cap : Nat} {ao : Option Addr} {fv : Value} {B : Int} {es : List Ent} (h : Ready w L ao n cap fv B es) (hn : 0 < n) : ∃ g, ao = Option.some ⟨g, 0, none⟩ := by
  rcases h.row.2 with ⟨_, h0⟩ | ⟨g, c, cur, he, _⟩
  · omega
  · simp at he; exact ⟨g, he.1⟩

set_option maxHeartbeats 400000 in
theorem retSeq_any (L n cap k : Nat) (ao : Option Addr) (fv : Value) (B : Int) (es : List Ent) (x : Ent) (w : World) (hr : Ready w L ao n cap fv B es) (hk : es[k]? = some x) (hn : n ≤ 1048576) :
    Calls Try.prog 21 #[.pointer (some ⟨L, 0, none⟩), .int .i64 k] w fun e w' => e = .returned (.int .u64 x.seq) ∧ w = w' := by
  obtain ⟨hkl, hx⟩ := List.getElem?_eq_some_iff.1 hk
  have hl := hr.len
  have hlt : k < n := by omega
  obtain ⟨g, rfl⟩ := hr.some (by omega)
  obtain ⟨c0, c1, c2, cf, hL⟩ := head_cells hr.head
  obtain ⟨q0, q1, q2, q3⟩ := ent_cells hr.row k hkl
  rw [hx] at q0 q1 q2 q3
  clear hx hk
  go_enter Try.func21, Try.ntmps21
  go_wp2
  go_ret
  exact ⟨rfl, rfl⟩

set_option maxHeartbeats 400000 in
theorem retRed_any (L n cap k : Nat) (ao : Option Addr) (fv : Value) (B : Int) (es : List Ent) (x : Ent) (w : World) (hr : Ready w L ao n cap fv B es) (hk : es[k]? = some x) (hn : n ≤ 1048576) :
    Calls Try.prog 24 #[.pointer (some ⟨L, 0, none⟩), .int .i64 k] w fun e w' => e = .returned (.bool x.red) ∧ w = w' := by
  obtain ⟨hkl, hx⟩ := List.getElem?_eq_some_iff.1 hk
  have hl := hr.len
  have hlt : k < n := by omega
  obtain ⟨g, rfl⟩ := hr.some (by omega)
  obtain ⟨c0, c1, c2, cf, hL⟩ := head_cells hr.head
  obtain ⟨q0, q1, q2, q3⟩ := ent_cells hr.row k hkl
  rw [hx] at q0 q1 q2 q3
  clear hx hk
  go_enter Try.func24, Try.ntmps24
  go_wp2
  go_ret
  exact ⟨rfl, rfl⟩

set_option maxHeartbeats 400000 in
theorem retExp_any (L n cap k : Nat) (ao : Option Addr) (fv : Value) (B : Int) (es : List Ent) (x : Ent) (w : World) (hr : Ready w L ao n cap fv B es) (hk : es[k]? = some x) (hn : n ≤ 1048576) :
    Calls Try.prog 25 #[.pointer (some ⟨L, 0, none⟩), .int .i64 k] w fun e w' => e = .returned (.int .i64 x.exp) ∧ w = w' := by
  obtain ⟨hkl, hx⟩ := List.getElem?_eq_some_iff.1 hk
  have hl := hr.len
  have hlt : k < n := by omega
  obtain ⟨g, rfl⟩ := hr.some (by omega)
  obtain ⟨c0, c1, c2, cf, hL⟩ := head_cells hr.head
  obtain ⟨q0, q1, q2, q3⟩ := ent_cells hr.row k hkl
  rw [hx] at q0 q1 q2 q3
  clear hx hk
  go_enter Try.func25, Try.ntmps25
  go_wp2
  go_ret
  exact ⟨rfl, rfl⟩

set_option maxHeartbeats 400000 in
theorem retBody_any (L n cap k bn bc : Nat) (ao bo : Option Addr) (fv : Value) (B : Int) (es : List Ent) (x : Ent) (w : World) (hr : Ready w L ao n cap fv B es) (hk : es[k]? = some x) (hn : n ≤ 1048576) (hm : w.heap[x.msg]? = some (.cells (msgCells bo bn bc) 63 (0, 0))) :
    Calls Try.prog 23 #[.pointer (some ⟨L, 0, none⟩), .int .i64 k] w fun e w' => e = .returned (.slice bo bn bc) ∧ w = w' := by
  obtain ⟨hkl, hx⟩ := List.getElem?_eq_some_iff.1 hk
  have hl := hr.len
  have hlt : k < n := by omega
  obtain ⟨g, rfl⟩ := hr.some (by omega)
  obtain ⟨c0, c1, c2, cf, hL⟩ := head_cells hr.head
  obtain ⟨q0, q1, q2, q3⟩ := ent_cells hr.row k hkl
  rw [hx] at q0 q1 q2 q3
  have hc := msg_cell hm
  clear hx hk
  go_enter Try.func23, Try.ntmps23
  go_wp2
  go_ret
  exact ⟨rfl, rfl⟩

end Go.Proofs.Qxb6613717a
