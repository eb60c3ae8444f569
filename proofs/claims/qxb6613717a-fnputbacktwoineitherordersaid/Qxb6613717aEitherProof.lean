/-
  'Rows.FnPutBackTwoInEitherOrderSaid': the frame after the guide's proof-skeleton; the walk lies in Qxb6613717aEither.
-/
import Derived.Test.Qxb6613717aOpen
import Derived.Test.Qxb6613717aEither
namespace Go.Proofs.Qxb6613717a.fnPutBackTwoInEitherOrder
open Go.ChangeShapes Go.WideShapes Go.ChangeAt Go.RowKit
open Go.ChangeMaps (open_string shut_string)
set_option linter.unusedVariables false

theorem own : ownKnob Try.prog.godebug = none := by kernel_rfl
theorem laidOut : laidOutB Try.prog = true := by kernel_rfl

/-- A []byte that came in. -/
theorem open_bytes {H : Type} {enc : TypeId × Value → H} {w : World} {fuel len cap : Nat} {a : Option Addr} {x : DataW H × List MemPlace} (hf : DataW.trod enc Try.prog w 0 (fun _ => true) true fuel 25 (Value.slice a len cap).cells.toList = some x) : ∃ l, Sees w a len cap l := by
  rcases open_ints Try.underlying25 Try.underlying5 cells5 hf with ⟨hcs, _⟩ | ⟨y, l, c, zs, hcs, _, hl, hm, hz, _, hcell, hwz⟩
  · simp [Value.cells] at hcs
    obtain ⟨rfl, rfl, rfl⟩ := hcs
    exact ⟨[], sees_nil w⟩
  · simp [Value.cells] at hcs
    obtain ⟨rfl, rfl, rfl⟩ := hcs
    exact sees_of hl hm (by simpa using hz) hcell (fun n hn => by have := bounds_u8 (hwz n hn); omega)

set_option maxRecDepth 100000 in
theorem lifted (os : Os) (started : os.Started) (H : Type) (enc : TypeId × Value → H) :
    ReturnsInHanded {} Try.checked os 3 .any (Rows.fnPutBackTwoInEitherOrderSpec.pre6 enc Try.prog Try.f3 Rows.fnPutBackTwoInEitherOrderRow.domain false) (Rows.fnPutBackTwoInEitherOrderSpec.post enc Try.prog Try.f3 false true false false) := by
  refine returnsInHanded_of_change (C := Try.checked) own started (by kernel_rfl) Try.func3
    (ChangeSpec.witness6 (enc := enc) (C := Try.checked) false ⟨#[], #[.slice none 0 0, .slice none 0 0, .slice none 0 0, .slice none 0 0, .int .u64 0, .bool false, .int .i64 0, .slice none 0 0, .int .u64 0, .bool false, .int .i64 0, .slice none 0 0], []⟩ 8 (by kernel_rfl) (by kernel_rfl) (by kernel_rfl) (by kernel_rfl)) ?_
  intro W base args ds gs before hval0 hW hcnd _
  have hval : ∀ (j : Nat) t v, Try.f3.params[j]? = some t → args[j]? = some v → Value.okWide Try.prog W .any base t v := hval0
  have hW' := hW
  obtain ⟨p, q, hA0, hV, rfl, hfz, hnd⟩ := hW
  have hA : DataW.TrodAll enc Try.prog W 0 (fun _ => true) true Try.f3.params.toList args.toList ds p := hA0
  rw [Try.params3] at hA hval
  obtain ⟨v0, vs0, d0, ds0, p0, q0, hargs, rfl, rfl, h0, r0⟩ := trodAll_cons hA
  obtain ⟨v1, vs1, d1, ds1, p1, q1, rfl, rfl, rfl, h1, r1⟩ := trodAll_cons r0
  obtain ⟨v2, vs2, d2, ds2, p2, q2, rfl, rfl, rfl, h2, r2⟩ := trodAll_cons r1
  obtain ⟨v3, vs3, d3, ds3, p3, q3, rfl, rfl, rfl, h3, r3⟩ := trodAll_cons r2
  obtain ⟨v4, vs4, d4, ds4, p4, q4, rfl, rfl, rfl, h4, r4⟩ := trodAll_cons r3
  obtain ⟨v5, vs5, d5, ds5, p5, q5, rfl, rfl, rfl, h5, r5⟩ := trodAll_cons r4
  obtain ⟨v6, vs6, d6, ds6, p6, q6, rfl, rfl, rfl, h6, r6⟩ := trodAll_cons r5
  obtain ⟨v7, vs7, d7, ds7, p7, q7, rfl, rfl, rfl, h7, r7⟩ := trodAll_cons r6
  obtain ⟨v8, vs8, d8, ds8, p8, q8, rfl, rfl, rfl, h8, r8⟩ := trodAll_cons r7
  obtain ⟨v9, vs9, d9, ds9, p9, q9, rfl, rfl, rfl, h9, r9⟩ := trodAll_cons r8
  obtain ⟨v10, vs10, d10, ds10, p10, q10, rfl, rfl, rfl, h10, r10⟩ := trodAll_cons r9
  obtain ⟨v11, vs11, d11, ds11, p11, q11, rfl, rfl, rfl, h11, r11⟩ := trodAll_cons r10
  obtain ⟨rfl, rfl, rfl⟩ := trodAll_nil r11
  obtain rfl : args = #[v0, v1, v2, v3, v4, v5, v6, v7, v8, v9, v10, v11] := by cases args; simp_all
  obtain ⟨rfl, rfl⟩ := trodVars_none hV
  obtain ⟨a0, len0, cap0, rfl⟩ := okWide_slice Try.underlying22 (hval 0 22 v0 rfl rfl)
  have k0 := h0
  have lt0 : ∀ x ∈ p0, x.block < W.heap.size := by obtain ⟨m, hm⟩ := k0; exact DataW.trod_lt m _ _ _ hm
  obtain ⟨z0, w0⟩ : ∃ ss, SeesV W a0 len0 cap0 (u64s ss) := by obtain ⟨fuel, hf⟩ := h0; exact open_u64s hf
  obtain ⟨a1, len1, cap1, rfl⟩ := okWide_slice Try.underlying23 (hval 1 23 v1 rfl rfl)
  have k1 := h1
  have lt1 : ∀ x ∈ p1, x.block < W.heap.size := by obtain ⟨m, hm⟩ := k1; exact DataW.trod_lt m _ _ _ hm
  obtain ⟨z1, w1⟩ : ∃ bs, SeesBs W a1 len1 cap1 bs := by obtain ⟨fuel, hf⟩ := h1; exact open_bodies hf
  obtain ⟨a2, len2, cap2, rfl⟩ := okWide_slice Try.underlying22 (hval 2 22 v2 rfl rfl)
  have k2 := h2
  have lt2 : ∀ x ∈ p2, x.block < W.heap.size := by obtain ⟨m, hm⟩ := k2; exact DataW.trod_lt m _ _ _ hm
  obtain ⟨z2, w2⟩ : ∃ ss, SeesV W a2 len2 cap2 (u64s ss) := by obtain ⟨fuel, hf⟩ := h2; exact open_u64s hf
  obtain ⟨a3, len3, cap3, rfl⟩ := okWide_slice Try.underlying23 (hval 3 23 v3 rfl rfl)
  have k3 := h3
  have lt3 : ∀ x ∈ p3, x.block < W.heap.size := by obtain ⟨m, hm⟩ := k3; exact DataW.trod_lt m _ _ _ hm
  obtain ⟨z3, w3⟩ : ∃ bs, SeesBs W a3 len3 cap3 bs := by obtain ⟨fuel, hf⟩ := h3; exact open_bodies hf
  obtain ⟨a4, rfl, rfl, rfl, w4⟩ := open_int Try.underlying24 (hval 4 24 v4 rfl rfl) h4
  obtain ⟨m4, rfl⟩ := Int.eq_ofNat_of_zero_le (bounds_u64 w4).1
  obtain ⟨a5, rfl, rfl, rfl⟩ := open_bool Try.underlying4 (hval 5 4 v5 rfl rfl) h5
  obtain ⟨a6, rfl, rfl, rfl, w6⟩ := open_int Try.underlying2 (hval 6 2 v6 rfl rfl) h6
  obtain ⟨a7, len7, cap7, rfl⟩ := okWide_slice Try.underlying25 (hval 7 25 v7 rfl rfl)
  have k7 := h7
  have lt7 : ∀ x ∈ p7, x.block < W.heap.size := by obtain ⟨m, hm⟩ := k7; exact DataW.trod_lt m _ _ _ hm
  obtain ⟨z7, w7⟩ : ∃ l, Sees W a7 len7 cap7 l := by obtain ⟨fuel, hf⟩ := h7; exact open_bytes hf
  obtain ⟨a8, rfl, rfl, rfl, w8⟩ := open_int Try.underlying24 (hval 8 24 v8 rfl rfl) h8
  obtain ⟨m8, rfl⟩ := Int.eq_ofNat_of_zero_le (bounds_u64 w8).1
  obtain ⟨a9, rfl, rfl, rfl⟩ := open_bool Try.underlying4 (hval 9 4 v9 rfl rfl) h9
  obtain ⟨a10, rfl, rfl, rfl, w10⟩ := open_int Try.underlying2 (hval 10 2 v10 rfl rfl) h10
  obtain ⟨a11, len11, cap11, rfl⟩ := okWide_slice Try.underlying25 (hval 11 25 v11 rfl rfl)
  have k11 := h11
  have lt11 : ∀ x ∈ p11, x.block < W.heap.size := by obtain ⟨m, hm⟩ := k11; exact DataW.trod_lt m _ _ _ hm
  obtain ⟨z11, w11⟩ : ∃ l, Sees W a11 len11 cap11 l := by obtain ⟨fuel, hf⟩ := h11; exact open_bytes hf
  clear hA0 hval0
  refine (either_walk a0 a1 a2 a3 a7 a11 len0 len1 len2 len3 len7 len11 cap0 cap1 cap2 cap3 cap7 cap11 m4 m8 a5 a9 a6 a10 z0 z2 z1 z3 z7 z11 W w0 w1 w2 w3 w7 w11).mono fun e W' ⟨he, bel⟩ => ?_
  subst he
  exact ⟨_, rfl, _, _, _, [], _, [], hW', trodAll_mk1 (shut_bool Try.underlying4 _), (trodAll_cons_mk (Below.trod laidOut (by kernel_rfl) (of_decide_eq_true (by kernel_rfl)) k0 bel lt0) (trodAll_cons_mk (Below.trod laidOut (by kernel_rfl) (of_decide_eq_true (by kernel_rfl)) k1 bel lt1) (trodAll_cons_mk (Below.trod laidOut (by kernel_rfl) (of_decide_eq_true (by kernel_rfl)) k2 bel lt2) (trodAll_cons_mk (Below.trod laidOut (by kernel_rfl) (of_decide_eq_true (by kernel_rfl)) k3 bel lt3) (trodAll_cons_mk (shut_int Try.underlying24 w4) (trodAll_cons_mk (shut_bool Try.underlying4 _) (trodAll_cons_mk (shut_int Try.underlying2 w6) (trodAll_cons_mk (Below.trod laidOut (by kernel_rfl) (of_decide_eq_true (by kernel_rfl)) k7 bel lt7) (trodAll_cons_mk (shut_int Try.underlying24 w8) (trodAll_cons_mk (shut_bool Try.underlying4 _) (trodAll_cons_mk (shut_int Try.underlying2 w10) (trodAll_cons_mk (Below.trod laidOut (by kernel_rfl) (of_decide_eq_true (by kernel_rfl)) k11 bel lt11) trodAll_mk0)))))))))))), rfl, bel.frame _, fun h => by cases h⟩

theorem over : Rows.fnPutBackTwoInEitherOrderRow.holds Try.pinned (OpenSpec.ofChange Rows.fnPutBackTwoInEitherOrderSpec) :=
  OpenClaim.holds_of_wide 3 Try.f3 rfl rfl rfl rfl rfl rfl rfl ⟨rfl, rfl, rfl, rfl, rfl⟩ rfl rfl rfl rfl rfl (by kernel_rfl) Try.func3 (by kernel_rfl)
    (of_decide_eq_true (by kernel_rfl)) (by unfold Func.isWrapper; first | (rw [if_pos (by decide +kernel)]; kernel_rfl) | (rw [if_neg (by decide +kernel)]; exact ⟨rfl, rfl⟩))
    (fun os started H enc _ => lifted os started H enc)

theorem proved : Rows.FnPutBackTwoInEitherOrderSaid := over
#print axioms proved
end Go.Proofs.Qxb6613717a.fnPutBackTwoInEitherOrder
