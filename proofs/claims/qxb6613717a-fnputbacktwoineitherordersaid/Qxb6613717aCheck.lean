/- zzB1CheckTwoPutBack. -/
import Derived.Test.Qxb6613717aSpecs
namespace Go.Proofs.Qxb6613717a
open Go.RowKit

theorem Ready.freshSome {w : World} {L n cap fn fc : Nat} {ao fo : Option Addr} {B : Int} {es fs : List Ent} (h : RL w L ao n cap es fo fn fc fs B) (hn : 0 < fn) : ∃ g, fo = Option.some ⟨g, 0, none⟩ := by
  rcases h.fresh.2 with ⟨_, h0⟩ | ⟨g, c, cur, he, _⟩
  · omega
  · simp at he; exact ⟨g, he.1⟩

theorem RL.drewN {w : World} {L n cap fn fc : Nat} {ao fo : Option Addr} {B : Int} {es fs : List Ent} (h : RL w L ao n cap es fo fn fc fs B) (q : Nat) : RL (w.drewN q) L ao n cap es fo fn fc fs B := ⟨h.ready.drewN q, h.fresh, h.apart⟩

theorem RL.flen {w : World} {L n cap fn fc : Nat} {ao fo : Option Addr} {B : Int} {es fs : List Ent} (h : RL w L ao n cap es fo fn fc fs B) : fs.length = fn := by
  have := h.fresh.1
  rw [entCells_length] at this
  omega

set_option maxHeartbeats 400000 in
theorem freshSeq_any (L n cap fn fc k : Nat) (ao fo : Option Addr) (B : Int) (es fs : List Ent) (x : Ent) (w : World) (hr : RL w L ao n cap es fo fn fc fs B) (hk : fs[k]? = some x) (hn : fn ≤ 1048576) :
    Calls Try.prog 35 #[.pointer (some ⟨L, 0, none⟩), .int .i64 k] w fun e w' => e = .returned (.int .u64 x.seq) ∧ w = w' := by
  obtain ⟨hkl, hx⟩ := List.getElem?_eq_some_iff.1 hk
  have hl := hr.flen
  have hlt : k < fn := by omega
  obtain ⟨g, rfl⟩ := Ready.freshSome hr (by omega)
  obtain ⟨c0, c1, c2, cf, hL⟩ := head_cells hr.ready.head
  obtain ⟨q0, q1, q2, q3⟩ := ent_cells hr.fresh k hkl
  rw [hx] at q0 q1 q2 q3
  clear hx hk
  go_enter Try.func35, Try.ntmps35
  go_wp2
  go_ret
  exact ⟨rfl, rfl⟩

set_option maxHeartbeats 400000 in
theorem freshBody_any (L n cap fn fc k bn bc : Nat) (ao fo bo : Option Addr) (B : Int) (es fs : List Ent) (x : Ent) (w : World) (hr : RL w L ao n cap es fo fn fc fs B) (hk : fs[k]? = some x) (hn : fn ≤ 1048576) (hm : w.heap[x.msg]? = some (.cells (msgCells bo bn bc) 63 (0, 0))) :
    Calls Try.prog 36 #[.pointer (some ⟨L, 0, none⟩), .int .i64 k] w fun e w' => e = .returned (.slice bo bn bc) ∧ w = w' := by
  obtain ⟨hkl, hx⟩ := List.getElem?_eq_some_iff.1 hk
  have hl := hr.flen
  have hlt : k < fn := by omega
  obtain ⟨g, rfl⟩ := Ready.freshSome hr (by omega)
  obtain ⟨c0, c1, c2, cf, hL⟩ := head_cells hr.ready.head
  obtain ⟨q0, q1, q2, q3⟩ := ent_cells hr.fresh k hkl
  rw [hx] at q0 q1 q2 q3
  have hc := msg_cell hm
  clear hx hk
  go_enter Try.func36, Try.ntmps36
  go_wp2
  go_ret
  exact ⟨rfl, rfl⟩

theorem sees_lies {w : World} {ao : Option Addr} {n cap : Nat} {l : List UInt8} (h : Sees w ao n cap l) : Lies w ao l := by
  intro hp
  have hv : SeesV w ao n cap (Lib.byteCells l) := ⟨by rw [Lib.byteCells_length]; exact h.1, h.2⟩
  obtain ⟨b1, o1, e1, hc⟩ := hv.at (by have := h.1; omega)
  exact ⟨b1, o1, e1, fun j hj => hc j _ (by simp [Lib.byteCells, hj])⟩

/-- What the check is handed. -/
structure Chk (w : World) (L : Nat) (ao : Option Addr) (n cap : Nat) (es : List Ent) (fo : Option Addr) (n2 fc : Nat) (fs : List Ent) (B : Int) (sps : List Spec) (n0 : Nat) (rs : List Nat) (rb : List Body) (fss : List Nat) (fb : List Body) (a b : Nat) (spA spB : Spec) : Prop where
  rl : RL w L ao n cap es fo n2 fc fs B
  f1 : FiledAll w es sps
  f2 : FiledAll w fs (specsF fss fb)
  sorted : Sorted es
  hn : n = n0 + 2
  memA : spA ∈ sps
  memB : spB ∈ sps
  seqA : spA.seq = a
  seqB : spB.seq = b
  ne : a ≠ b
  fil : sps.filter (nonab a b) = specsF rs rb
  lr : rs.length = n0
  lb : rb.length = n0

theorem specsF_at {rs : List Nat} {rb : List Body} {c : Nat} {sp : Spec} (h : (specsF rs rb)[c]? = some sp) : rs[c]? = some sp.seq ∧ sp.red = false ∧ sp.exp = 0 ∧ ∃ z, rb[c]? = some z ∧ z.l = sp.l := by
  unfold specsF at h
  rw [List.getElem?_zipWith] at h
  split at h
  · rename_i r z h1 h2
    obtain rfl := Option.some.inj h
    exact ⟨h1, rfl, rfl, z, h2, rfl⟩
  · simp at h

theorem val_bool {a b : Bool} (h : a = b) : Value.bool a = .bool b := by rw [h]

set_option maxHeartbeats 8000000 in
set_option maxRecDepth 100000 in
theorem check_any (L n cap n0 n2 fc c1 c2 c3 c4 a b na nb ca cb : Nat) (ao fo a1 a2 a3 a4 aa ab : Option Addr) (es fs : List Ent) (B aE bE : Int) (aR bR : Bool) (la lb : List UInt8) (sps : List Spec) (rs fss : List Nat) (rb fb : List Body) (w : World)
    (h : Chk w L ao n cap es fo n2 fc fs B sps n0 rs rb fss fb a b ⟨a, aR, aE, la⟩ ⟨b, bR, bE, lb⟩) (s1 : SeesV w a1 n0 c1 (u64s rs)) (s2 : SeesBs w a2 n0 c2 rb) (s3 : SeesV w a3 n2 c3 (u64s fss)) (s4 : SeesBs w a4 n2 c4 fb) (sa : Sees w aa na ca la) (sb : Sees w ab nb cb lb)
    (hn0 : n0 ≤ 1048000) (hn2 : n2 ≤ 1048576) (hna : na ≤ 1048576) (hnb : nb ≤ 1048576) (hrb : ∀ x ∈ rb, x.n ≤ 1048576) (hfb : ∀ x ∈ fb, x.n ≤ 1048576) :
    Calls Try.prog 17 #[.pointer (some ⟨L, 0, none⟩), .slice a1 n0 c1, .slice a2 n0 c2, .slice a3 n2 c3, .slice a4 n2 c4, .int .u64 a, .bool aR, .int .i64 aE, .slice aa na ca, .int .u64 b, .bool bR, .int .i64 bE, .slice ab nb cb, .int .i64 B] w fun e w' => e = .returned (.bool true) ∧ ∃ q, w' = w.drewN q := by
  have hrd := h.rl.ready
  have hn := h.hn
  have hle := hrd.len
  have hls : sps.length = n := by rw [← h.f1.1]; exact hle
  have hsp := specs_of h.f1 h.sorted
  subst hn
  go_enter Try.func17, Try.ntmps17
  go_wp2_with fail
  refine (retLen_any L (n0 + 2) cap ao _ _ es w hrd).mono ?_
  rintro e w' ⟨rfl, rfl⟩
  go_wp2_with fail
  go_loopw [30, 31, 32, 33] (fun vj vA vB vi wr => ∃ k q : Nat, k ≤ n0 + 2 ∧ vi = .int .i64 k ∧ vj = .int .i64 ((cnt sps a b k : Nat) : Int) ∧ vA = .bool (seen sps a k) ∧ vB = .bool (seen sps b k) ∧ wr = w.drewN q) (fun _ _ _ vi _ => n0 + 2 - (intOf vi).toNat)
  case atStart => exact ⟨0, 0, Nat.zero_le _, rfl, rfl, rfl, rfl, rfl⟩
  case round =>
    obtain ⟨k, q, hk, rfl, rfl, rfl, rfl, rfl⟩ := hrel
    by_cases hlt : k < n0 + 2
    · obtain ⟨x, hx⟩ : ∃ x, es[k]? = some x := ⟨es[k]'(by omega), List.getElem?_eq_getElem _⟩
      obtain ⟨sp, hq⟩ : ∃ sp, sps[k]? = some sp := ⟨sps[k]'(by omega), List.getElem?_eq_getElem _⟩
      obtain ⟨hkl, hqe⟩ := List.getElem?_eq_some_iff.1 hq
      have hmem : sp ∈ sps := by rw [← hqe]; exact List.getElem_mem _
      obtain ⟨e1, e2, e3, ⟨bao, bn, bcap, bl⟩, hmx, hox, e4⟩ := h.f1.2 k x sp hx hq
      simp only at e4 hmx
      have hbl : bl.length = bn := hox.sees.1
      have hlx : Lies (w.drewN q) bao bl := hox.lies
      have hcs0 := cnt_succ sps a b k hkl
      have hsa0 := seen_succ sps a k hkl
      have hsb0 := seen_succ sps b k hkl
      rw [hqe] at hcs0 hsa0 hsb0
      have HC0 : Hid (cnt sps a b (k + 1) = cnt sps a b k + if nonab a b sp = true then 1 else 0) := hcs0
      have HSA : Hid (seen sps a (k + 1) = (seen sps a k || sp.seq == a)) := hsa0
      have HSB : Hid (seen sps b (k + 1) = (seen sps b k || sp.seq == b)) := hsb0
      clear hcs0 hsa0 hsb0
      have HPV : Hid (∀ j, k = j + 1 → ∃ y, es[j]? = some y ∧ y.seq < sp.seq) := fun j hj => ⟨es[j]'(by omega), List.getElem?_eq_getElem _, by
        obtain ⟨_, e⟩ := List.getElem?_eq_some_iff.1 hx
        have := h.sorted.lt (i := j) (j := k) (by omega) (by omega)
        rw [e, e1] at this
        exact this⟩
      have hcl := cnt_le sps a b k
      rw [h.fil] at hcl
      have hlen : (specsF rs rb).length = n0 := by simp [specsF, h.lr, h.lb]
      rw [hlen] at hcl
      have hrdW := hrd.drewN q
      have hmW : (w.drewN q).heap[x.msg]? = some (.cells (msgCells bao bn bcap) 63 (0, 0)) := hmx
      have HW : Hid (∃ q', w.drewN q = w.drewN q') := ⟨q, rfl⟩
      have sa' : Lies (w.drewN q) aa la := sees_lies sa
      have sb' : Lies (w.drewN q) ab lb := sees_lies sb
      have s1' := s1.drewN q
      have s2' : SeesBs (w.drewN q) a2 n0 c2 rb := ⟨s2.row, s2.each⟩
      generalize w.drewN q = W at hlx hrdW hmW HW sa' sb' s1' s2' ⊢
      have C21 := retSeq_any L (n0 + 2) cap k ao _ _ es x W hrdW hx (by omega)
      have C23 := retBody_any L (n0 + 2) cap k bn bcap ao bao _ _ es x W hrdW hx (by omega) hmW
      have C24 := retRed_any L (n0 + 2) cap k ao _ _ es x W hrdW hx (by omega)
      have C25 := retExp_any L (n0 + 2) cap k ao _ _ es x W hrdW hx (by omega)
      rw [e1] at C21
      rw [e2] at C24
      rw [e3] at C25
      have CP : ∀ (j : Nat) (y : Ent), es[j]? = some y → Hid (Calls Try.prog 21 #[.pointer (some ⟨L, 0, none⟩), .int .i64 j] W fun e w' => e = .returned (.int .u64 y.seq) ∧ W = w') := fun j y hy => retSeq_any L (n0 + 2) cap j ao _ _ es y W hrdW hy (by omega)
      by_cases hsa : sp.seq = a
      · have hee := one_seq hsp hmem h.memA (hsa.trans h.seqA.symm)
        subst hee
        obtain rfl : bl = la := e4
        obtain rfl : bn = na := by have := sa.1; omega
        have hno := seen_not sps a k hkl hsp (by rw [hqe])
        have hnn : nonab a b ⟨a, aR, aE, bl⟩ = false := by simp [nonab]
        rw [hno] at HSA ⊢
        have C22 := equal_yes bao aa bn bcap ca bl W hbl (by omega) hlx sa'
        have t1 : ((a : Int) == (a : Int)) = true := by simp
        have t2 : (aR != aR) = false := by simp
        have t3 : (aE != aE) = false := by simp
        have C21 : Hid _ := C21
        have C22 : Hid _ := C22
        have C23 : Hid _ := C23
        have C24 : Hid _ := C24
        have C25 : Hid _ := C25
        have HN : Hid (nonab a b ⟨a, aR, aE, bl⟩ = false) := hnn
        clear hnn hno
        by_cases hk0 : k = 0
        · subst hk0
          go_wp2_with fail
          refine Calls.mono C21.out ?_
          rintro e w' ⟨rfl, rfl⟩
          go_wp2_with fail
          refine Calls.mono C23.out ?_
          rintro e w' ⟨rfl, rfl⟩
          go_wp2_with fail
          refine Calls.mono C24.out ?_
          rintro e w' ⟨rfl, rfl⟩
          go_wp2_with fail
          refine Calls.mono C25.out ?_
          rintro e w' ⟨rfl, rfl⟩
          go_wp2_with fail
          refine Calls.mono C22.out ?_
          rintro e w' ⟨rfl, q', rfl⟩
          go_wp2
          obtain ⟨q0, hq0⟩ := HW.out
          exact ⟨⟨0 + 1, q0 + q', by omega, by go_num, val_i64 (by rw [HC0.out, if_neg (by rw [HN.out]; simp)]; omega), val_bool (by rw [HSA.out] <;> simp), val_bool (by rw [HSB.out] <;> simp [h.ne]), by rw [hq0, World.drewN_drewN]⟩, by simp [intOf] <;> omega⟩
        · obtain ⟨j, rfl⟩ : ∃ j, k = j + 1 := ⟨k - 1, by omega⟩
          obtain ⟨y, hy, hys⟩ := HPV.out j rfl
          have CY := CP j y hy
          have hys : y.seq < a := hys
          clear hy CP
          go_wp2_with fail
          refine Calls.mono C21.out ?_
          rintro e w' ⟨rfl, rfl⟩
          go_wp2_with fail
          refine Calls.mono CY.out ?_
          rintro e w' ⟨rfl, rfl⟩
          go_wp2_with fail
          refine Calls.mono C23.out ?_
          rintro e w' ⟨rfl, rfl⟩
          go_wp2_with fail
          refine Calls.mono C24.out ?_
          rintro e w' ⟨rfl, rfl⟩
          go_wp2_with fail
          refine Calls.mono C25.out ?_
          rintro e w' ⟨rfl, rfl⟩
          go_wp2_with fail
          refine Calls.mono C22.out ?_
          rintro e w' ⟨rfl, q', rfl⟩
          go_wp2
          obtain ⟨q0, hq0⟩ := HW.out
          exact ⟨⟨j + 1 + 1, q0 + q', by omega, by go_num, val_i64 (by rw [HC0.out, if_neg (by rw [HN.out]; simp)]; omega), val_bool (by rw [HSA.out] <;> simp), val_bool (by rw [HSB.out] <;> simp [h.ne]), by rw [hq0, World.drewN_drewN]⟩, by simp [intOf] <;> omega⟩
      · by_cases hsb : sp.seq = b
        · have hee := one_seq hsp hmem h.memB (hsb.trans h.seqB.symm)
          subst hee
          obtain rfl : bl = lb := e4
          obtain rfl : bn = nb := by have := sb.1; omega
          have hno := seen_not sps b k hkl hsp (by rw [hqe])
          have hnn : nonab a b ⟨b, bR, bE, bl⟩ = false := by simp [nonab]
          rw [hno] at HSB ⊢
          have C22 := equal_yes bao ab bn bcap cb bl W hbl (by omega) hlx sb'
          have hab : b ≠ a := fun e => h.ne e.symm
          have t0 : ((b : Int) == (a : Int)) = false := by simp; omega
          have t1 : ((b : Int) == (b : Int)) = true := by simp
          have t2 : (bR != bR) = false := by simp
          have t3 : (bE != bE) = false := by simp
          have C21 : Hid _ := C21
          have C22 : Hid _ := C22
          have C23 : Hid _ := C23
          have C24 : Hid _ := C24
          have C25 : Hid _ := C25
          have HN : Hid (nonab a b ⟨b, bR, bE, bl⟩ = false) := hnn
          clear hnn hno
          by_cases hk0 : k = 0
          · subst hk0
            go_wp2_with fail
            refine Calls.mono C21.out ?_
            rintro e w' ⟨rfl, rfl⟩
            go_wp2_with fail
            refine Calls.mono C23.out ?_
            rintro e w' ⟨rfl, rfl⟩
            go_wp2_with fail
            refine Calls.mono C24.out ?_
            rintro e w' ⟨rfl, rfl⟩
            go_wp2_with fail
            refine Calls.mono C25.out ?_
            rintro e w' ⟨rfl, rfl⟩
            go_wp2_with fail
            refine Calls.mono C22.out ?_
            rintro e w' ⟨rfl, q', rfl⟩
            go_wp2
            obtain ⟨q0, hq0⟩ := HW.out
            exact ⟨⟨0 + 1, q0 + q', by omega, by go_num, val_i64 (by rw [HC0.out, if_neg (by rw [HN.out]; simp)]; omega), val_bool (by rw [HSA.out] <;> simp [hab]), val_bool (by rw [HSB.out] <;> simp), by rw [hq0, World.drewN_drewN]⟩, by simp [intOf] <;> omega⟩
          · obtain ⟨j, rfl⟩ : ∃ j, k = j + 1 := ⟨k - 1, by omega⟩
            obtain ⟨y, hy, hys⟩ := HPV.out j rfl
            have CY := CP j y hy
            have hys : y.seq < b := hys
            clear hy CP
            go_wp2_with fail
            refine Calls.mono C21.out ?_
            rintro e w' ⟨rfl, rfl⟩
            go_wp2_with fail
            refine Calls.mono CY.out ?_
            rintro e w' ⟨rfl, rfl⟩
            go_wp2_with fail
            refine Calls.mono C23.out ?_
            rintro e w' ⟨rfl, rfl⟩
            go_wp2_with fail
            refine Calls.mono C24.out ?_
            rintro e w' ⟨rfl, rfl⟩
            go_wp2_with fail
            refine Calls.mono C25.out ?_
            rintro e w' ⟨rfl, rfl⟩
            go_wp2_with fail
            refine Calls.mono C22.out ?_
            rintro e w' ⟨rfl, q', rfl⟩
            go_wp2
            obtain ⟨q0, hq0⟩ := HW.out
            exact ⟨⟨j + 1 + 1, q0 + q', by omega, by go_num, val_i64 (by rw [HC0.out, if_neg (by rw [HN.out]; simp)]; omega), val_bool (by rw [HSA.out] <;> simp [hab]), val_bool (by rw [HSB.out] <;> simp), by rw [hq0, World.drewN_drewN]⟩, by simp [intOf] <;> omega⟩
        · have hnn : nonab a b sp = true := by simp [nonab, hsa, hsb]
          have hat := cnt_at sps a b k hkl (by rw [hqe]; exact hnn)
          rw [hqe, h.fil] at hat
          have hc1 : cnt sps a b k < n0 := by
            have := (List.getElem?_eq_some_iff.1 hat).1
            omega
          have HCS : Hid (cnt sps a b (k + 1) = cnt sps a b k + 1) := by show _ = _; rw [HC0.out, if_pos hnn]
          clear HC0
          obtain ⟨g0, p0, rfl, hc0⟩ := s1'.at (by omega)
          obtain ⟨gb, pb, rfl, hcb⟩ := s2'.row.at (by omega)
          have hlr := h.lr
          have hlb := h.lb
          obtain ⟨hz1, hz2, hz3, z, hz4, hz5⟩ := specsF_at hat
          have q0 := hc0 (cnt sps a b k) (.int .u64 (sp.seq : Int)) (by simp [u64s, hz1])
          have q1 := hcb (cnt sps a b k) (.slice z.ao z.n z.cap) (by simp [bodyVals, hz4, Body.val])
          have hzm : z ∈ rb := List.mem_of_getElem? hz4
          have hzs := s2'.each z hzm
          have hzn := hrb z hzm
          rw [hz2] at C24
          rw [hz3] at C25
          obtain ⟨spq, spr, spe, spl⟩ := sp
          simp only at hz2 hz3 hz5 e4 hsa hsb q0 C21
          subst hz5
          subst e4
          obtain rfl : bn = z.n := by have := hzs.1; omega
          have C22 := equal_yes bao z.ao z.n bcap z.cap z.l W hbl (by omega) hlx (sees_lies hzs)
          have t0 : ((spq : Int) == (a : Int)) = false := by simp; omega
          have t1 : ((spq : Int) == (b : Int)) = false := by simp; omega
          have t2 : ((spq : Int) != (spq : Int)) = false := by simp
          have C21 : Hid _ := C21
          have C22 : Hid _ := C22
          have C23 : Hid _ := C23
          have C24 : Hid _ := C24
          have C25 : Hid _ := C25
          have hcc : cnt sps a b k = cnt sps a b k := rfl
          generalize cnt sps a b k = cc at hc1 q0 q1 HCS hcl ⊢
          clear hz1 hz2 hz3 hz4 hzm hat hnn hcc hc0 hcb
          by_cases hk0 : k = 0
          · subst hk0
            go_wp2_with fail
            refine Calls.mono C21.out ?_
            rintro e w' ⟨rfl, rfl⟩
            go_wp2_with fail
            refine Calls.mono C23.out ?_
            rintro e w' ⟨rfl, rfl⟩
            go_wp2_with fail
            refine Calls.mono C24.out ?_
            rintro e w' ⟨rfl, rfl⟩
            go_wp2_with fail
            refine Calls.mono C25.out ?_
            rintro e w' ⟨rfl, rfl⟩
            go_wp2_with fail
            refine Calls.mono C22.out ?_
            rintro e w' ⟨rfl, q', rfl⟩
            go_wp2
            obtain ⟨q0, hq0⟩ := HW.out
            exact ⟨⟨0 + 1, q0 + q', by omega, by go_num, val_i64 (by rw [HCS.out]; omega), val_bool (by rw [HSA.out] <;> simp [hsa]), val_bool (by rw [HSB.out] <;> simp [hsb]), by rw [hq0, World.drewN_drewN]⟩, by simp [intOf] <;> omega⟩
          · obtain ⟨j, rfl⟩ : ∃ j, k = j + 1 := ⟨k - 1, by omega⟩
            obtain ⟨y, hy, hys⟩ := HPV.out j rfl
            have CY := CP j y hy
            have hys : y.seq < spq := hys
            clear hy CP
            go_wp2_with fail
            refine Calls.mono C21.out ?_
            rintro e w' ⟨rfl, rfl⟩
            go_wp2_with fail
            refine Calls.mono CY.out ?_
            rintro e w' ⟨rfl, rfl⟩
            go_wp2_with fail
            refine Calls.mono C23.out ?_
            rintro e w' ⟨rfl, rfl⟩
            go_wp2_with fail
            refine Calls.mono C24.out ?_
            rintro e w' ⟨rfl, rfl⟩
            go_wp2_with fail
            refine Calls.mono C25.out ?_
            rintro e w' ⟨rfl, rfl⟩
            go_wp2_with fail
            refine Calls.mono C22.out ?_
            rintro e w' ⟨rfl, q', rfl⟩
            go_wp2
            obtain ⟨q0, hq0⟩ := HW.out
            exact ⟨⟨j + 1 + 1, q0 + q', by omega, by go_num, val_i64 (by rw [HCS.out]; omega), val_bool (by rw [HSA.out] <;> simp [hsa]), val_bool (by rw [HSB.out] <;> simp [hsb]), by rw [hq0, World.drewN_drewN]⟩, by simp [intOf] <;> omega⟩
    · obtain rfl : k = n0 + 2 := by omega
      have hA1 : seen sps a (n0 + 2) = true := by rw [← hls]; exact seen_all sps a _ h.memA h.seqA
      have hB1 : seen sps b (n0 + 2) = true := by rw [← hls]; exact seen_all sps b _ h.memB h.seqB
      have hC1 : cnt sps a b (n0 + 2) = n0 := by rw [← hls, cnt_all, h.fil]; simp [specsF, h.lr, h.lb]
      rw [hA1, hB1, hC1]
      clear hA1 hB1 hC1
      have hrl := h.rl
      have hf2 := h.f2
      have hlf3 : fss.length = n2 := by have := s3.1; simpa [u64s] using this
      have hlf4 := s4.len
      go_wp2_with fail
      refine (freshLen_any L (n0 + 2) cap n2 fc ao fo _ es _ (hrd.drewN q)).mono ?_
      rintro e w' ⟨rfl, rfl⟩
      go_wp2_with fail
      go_loopw [38] (fun vi wr => ∃ m q' : Nat, m ≤ n2 ∧ vi = .int .i64 m ∧ wr = w.drewN q') (fun vi _ => n2 - (intOf vi).toNat)
      case atStart => exact ⟨0, q, Nat.zero_le _, rfl, rfl⟩
      case round =>
        obtain ⟨m, q', hm, rfl, rfl⟩ := hrel
        by_cases hlt : m < n2
        · obtain ⟨sp, hq⟩ : ∃ sp, (specsF fss fb)[m]? = some sp := ⟨(specsF fss fb)[m]'(by simp [specsF]; omega), List.getElem?_eq_getElem _⟩
          obtain ⟨x, hx⟩ : ∃ x, fs[m]? = some x := ⟨fs[m]'(by have := hrl.flen; omega), List.getElem?_eq_getElem _⟩
          obtain ⟨e1, e2, e3, ⟨bao, bn, bcap, bl⟩, hmx, hox, e4⟩ := hf2.2 m x sp hx hq
          obtain ⟨hz1, hz2, hz3, z, hz4, hz5⟩ := specsF_at hq
          simp only at e4 hmx
          have hbl : bl.length = bn := hox.sees.1
          have hzm : z ∈ fb := List.mem_of_getElem? hz4
          have hzs := s4.each z hzm
          have hzn := hfb z hzm
          rw [← hz5] at e4
          subst e4
          obtain rfl : bn = z.n := by have := hzs.1; omega
          obtain ⟨g0, p0, rfl, hc0⟩ := (s3.drewN q').at (by omega)
          obtain ⟨gb, pb, rfl, hcb⟩ := (s4.row.drewN q').at (by omega)
          have q0 := hc0 m (.int .u64 (sp.seq : Int)) (by simp [u64s, hz1])
          have q1 := hcb m (.slice z.ao z.n z.cap) (by simp [bodyVals, hz4, Body.val])
          have hrlW := hrl.drewN q'
          have hmW : (w.drewN q').heap[x.msg]? = some (.cells (msgCells bao z.n bcap) 63 (0, 0)) := hmx
          have hlx : Lies (w.drewN q') bao z.l := hox.lies
          have hlz : Lies (w.drewN q') z.ao z.l := sees_lies hzs
          have HQ : Hid (∃ q, w.drewN q' = w.drewN q) := ⟨q', rfl⟩
          generalize w.drewN q' = W at q0 q1 hrlW hmW hlx hlz HQ ⊢
          have C35 : Hid (∀ nq, Calls Try.prog 35 #[.pointer (some ⟨L, 0, none⟩), .int .i64 m] (W.drewN nq) fun e w' => e = .returned (.int .u64 sp.seq) ∧ ∃ m, w' = W.drewN m) := fun nq => by rw [← e1]; exact quiet_same (freshSeq_any L (n0 + 2) cap n2 fc m ao fo _ es fs x _ (hrlW.drewN nq) hx hn2)
          have C36 : Hid (∀ nq, Calls Try.prog 36 #[.pointer (some ⟨L, 0, none⟩), .int .i64 m] (W.drewN nq) fun e w' => e = .returned (.slice bao z.n bcap) ∧ ∃ m, w' = W.drewN m) := fun nq => quiet_same (freshBody_any L (n0 + 2) cap n2 fc m z.n bcap ao fo bao _ es fs x _ (hrlW.drewN nq) hx hn2 hmW)
          have C22 : Hid (∀ nq, Calls Try.prog 22 #[.slice bao z.n bcap, .slice z.ao z.n z.cap] (W.drewN nq) fun e w' => e = .returned (.bool true) ∧ ∃ m, w' = W.drewN m) := fun nq => Calls.quiet_of (equal_yes bao z.ao z.n bcap z.cap z.l (W.drewN nq) hbl (by omega) hlx hlz)
          clear e1 e2 e3 hz1 hz2 hz3 hz4 hz5 hc0 hcb hx hq
          generalize sp.seq = s at q0 C35
          have hq1 : ((s : Int) != (s : Int)) = false := by simp
          go_wp2_with fail
          go_quiet ((first | (go_at_call 35; exact C35.out _) | (go_at_call 36; exact C36.out _) | (go_at_call 22; exact C22.out _)))
          go_wp2
          obtain ⟨q6, hq6⟩ := HQ.out
          exact ⟨⟨m + 1, q6 + nq, by omega, by go_num, by rw [hq6, World.drewN_drewN]⟩, by simp [intOf] <;> omega⟩
        · go_wp2_with fail
          refine (bytes_any L (n0 + 2) cap ao _ _ es _ (hrd.drewN q')).mono ?_
          rintro e w' ⟨rfl, rfl⟩
          go_wp2
          go_ret
          exact ⟨by simp, q', rfl⟩

end Go.Proofs.Qxb6613717a
