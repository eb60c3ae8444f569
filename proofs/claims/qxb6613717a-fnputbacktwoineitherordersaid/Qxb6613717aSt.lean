/- The state of the loop that puts entries back, and its step. -/
import Derived.Test.Qxb6613717aFiled
namespace Go.Proofs.Qxb6613717a
open Go.RowKit

theorem u64s_at {ss : List Nat} {k : Nat} (h : k < ss.length) : (u64s ss)[k]? = some (.int .u64 (ss[k] : Int)) := by simp [u64s, h]

theorem SeesV.cell {w : World} {b o n cap j : Nat} {xs : List Value} {u : Value} (h : SeesV w (some ⟨b, o, none⟩) n cap xs) (hu : xs[j]? = some u) : w.cell? ⟨b, o + j, none⟩ = some u := by
  have := h.2.2.2.2 _ rfl j u hu
  rwa [Addr.add_lit] at this

/-- Clones have the sizes of what they were cloned from. -/
theorem alikes_sizes {w w' : World} {a a' : Option Addr} {n n' c c' : Nat} {bs bs' : List Body} (h : SeesBs w a n c bs) (h' : SeesBs w' a' n' c' bs') (hal : Alikes bs bs') : bs'.map (·.n) = bs.map (·.n) := by
  have e1 : bs.map (·.n) = (bs.map (·.l)).map List.length := by
    rw [List.map_map]
    exact List.map_congr_left fun b hb => (h.each b hb).1.symm
  have e2 : bs'.map (·.n) = (bs'.map (·.l)).map List.length := by
    rw [List.map_map]
    exact List.map_congr_left fun b hb => (h'.each b hb).1.symm
  rw [e1, e2, hal]

def specsOf (ss : List Nat) (bs : List Body) : List Spec := List.zipWith (fun s b => ⟨s, true, 0, b.l⟩) ss bs

set_option maxHeartbeats 400000 in
theorem newList_any (B : Int) (w : World) : Calls Try.prog 19 #[.int .i64 B] w fun e w' => e = .returned (.pointer (some ⟨w.heap.size, 0, none⟩)) ∧ Ready w' w.heap.size none 0 0 (.slice none 0 0) B [] ∧ w.grownBy w' none := by
  go_enter Try.func19, Try.ntmps19
  go_wp2
  go_ret
  exact ⟨rfl, ⟨heap_alloc_new w _, World.ownsRow_nil _ _ _ _⟩, World.grownBy_alloc _ _ _⟩

structure St (w wr : World) (L n : Nat) (b0 b1 : Option Addr) (d0 d1 : Nat) (ss : List Nat) (bs : List Body) (k : Nat) (ao : Option Addr) (cap : Nat) (es hist : List Ent) : Prop where
  ready : Ready wr L ao k cap (.slice none 0 0) ((sizes (bs.take k) : Nat) : Int) es
  sorted : Sorted es
  perm : es.Perm hist
  filed : FiledAll wr hist ((specsOf ss bs).take k)
  bodies : OwnBs wr b1 n d1 bs
  seqs : wr.ownsRow 0 24 1 (.slice b0 n d0) n (u64s ss)
  below : Below w.heap.size w wr
  loL : w.heap.size ≤ L
  lo : ∀ a, ao = some a → w.heap.size ≤ a.block

theorem specs_at {ss : List Nat} {bs : List Body} {k : Nat} (h : k < ss.length) (h' : k < bs.length) : (specsOf ss bs)[k]? = some ⟨ss[k], true, 0, bs[k].l⟩ := by
  unfold specsOf
  rw [List.getElem?_zipWith, List.getElem?_eq_getElem h, List.getElem?_eq_getElem h']

theorem specs_take {ss : List Nat} {bs : List Body} {k : Nat} (h : k < ss.length) (h' : k < bs.length) : (specsOf ss bs).take (k + 1) = (specsOf ss bs).take k ++ [⟨ss[k], true, 0, bs[k].l⟩] := by
  rw [List.take_succ_eq_append_getElem (by simp [specsOf]; omega)]
  congr 2
  have := specs_at h h'
  obtain ⟨_, e⟩ := List.getElem?_eq_some_iff.1 this
  exact e

/-- One round: the clone's world w1, then ZZputBack's. -/
theorem St.step {w wr w1 w' : World} {L n : Nat} {b0 b1 : Option Addr} {d0 d1 : Nat} {ss : List Nat} {bs : List Body} {k : Nat} {ao ao' : Option Addr} {cap cap' : Nat} {es hist : List Ent} {x : Ent} {b : Body}
    (h : St w wr L n b0 b1 d0 d1 ss bs k ao cap es hist) (hk : k < ss.length) (hk' : k < bs.length) (hD : ∀ i j (hi : i < ss.length) (hj : j < ss.length), i < j → ss[i] ≠ ss[j])
    (g1 : wr.grownBy w1 none) (hr : Ready w' L ao' (k + 1) cap' (.slice none 0 0) (((sizes (bs.take k) : Nat) : Int) + b.n) (put es x)) (hp : Put w1 L ao w' ao') (hf : Filed w' x ⟨ss[k], true, 0, b.l⟩) (hbl : b.l = bs[k].l) (hbn : b.n = bs[k].n) :
    St w w' L n b0 b1 d0 d1 ss bs (k + 1) ao' cap' (put es x) (hist ++ [x]) := by
  have hr1 : Ready w1 L ao k cap (.slice none 0 0) ((sizes (bs.take k) : Nat) : Int) es := ⟨heap_kept g1 h.ready.head (by simp), kept_none h.ready.row g1⟩
  have hfa : FiledAll w' hist ((specsOf ss bs).take k) := (h.filed.grown g1).put hp hr1
  have hlen := h.perm.length_eq
  have hel := h.ready.len
  refine ⟨?_, ?_, ?_, ?_, ?_, ?_, ?_, h.loL, ?_⟩
  · rw [sizes_take bs k hk', ← hbn]
    exact hr
  · refine put_sorted es x h.sorted fun y hy => ?_
    obtain ⟨j, hj, hjy⟩ := List.getElem_of_mem (h.perm.mem_iff.1 hy)
    have hj' : j < k := by omega
    have e1 := (hfa.2 j y ⟨ss[j]'(by omega), true, 0, (bs[j]'(by omega)).l⟩ (by rw [← hjy]; exact List.getElem?_eq_getElem _) (by rw [List.getElem?_take, if_pos hj']; exact specs_at (by omega) (by omega))).1
    have e2 := hf.1
    rw [e1, e2]
    exact hD j k (by omega) hk hj'
  · show (put es x).Perm (hist ++ [x])
    exact (put_perm es x).trans ((List.Perm.cons x h.perm).trans (List.perm_append_singleton x hist).symm)
  · show FiledAll w' (hist ++ [x]) _
    rw [specs_take hk hk', ← hbl]
    exact hfa.snoc hf
  · exact hp.ownBs hr1 (h.bodies.kept g1)
  · exact hp.own hr1 (kept_none h.seqs g1) (by decide) (by decide)
  · have hs := h.below.size
    exact (h.below.grown g1 hs (by simp)).trans (hp.below (by have := g1.size; omega) h.loL h.lo)
  · intro a ha
    rcases hp.follows with e | ⟨j, e, hj⟩
    · rw [ha] at e
      cases ao with
      | none => simp at e
      | some c => simp at e; have := h.lo c rfl; omega
    · rw [ha] at e
      simp at e
      have := g1.size
      have := h.below.size
      omega

/-- The seqs of what was put back are those that were handed in. -/
theorem filed_seqs {w : World} {hist : List Ent} {sps : List Spec} (h : FiledAll w hist sps) : hist.map (·.seq) = sps.map (·.seq) := by
  apply List.ext_getElem (by simp [h.1])
  intro i h1 h2
  simp only [List.getElem_map]
  rw [List.length_map] at h1 h2
  exact (h.2 i _ _ (List.getElem?_eq_getElem h1) (List.getElem?_eq_getElem h2)).1

theorem specs_seqs {ss : List Nat} {bs : List Body} (h : ss.length = bs.length) : (specsOf ss bs).map (·.seq) = ss := by
  apply List.ext_getElem (by simp [specsOf]; omega)
  intro i h1 h2
  simp [specsOf]

theorem ahead_map (es : List Ent) (t : Nat) : ahead es t = (es.map (·.seq)).countP (fun s => decide (s < t)) := by
  unfold ahead
  rw [List.countP_map]
  rfl

/-- Where the entry of number k stands when all have been put back. -/
theorem St.at {w wr : World} {L n : Nat} {b0 b1 : Option Addr} {d0 d1 : Nat} {ss : List Nat} {bs : List Body} {ao : Option Addr} {cap : Nat} {es hist : List Ent} (h : St w wr L n b0 b1 d0 d1 ss bs n ao cap es hist) (hs : ss.length = n) (hb : bs.length = n) (k : Nat) (hk : k < n) :
    ∃ y, es[ss.countP (fun s => decide (s < ss[k]'(by omega)))]? = some y ∧ Filed wr y ⟨ss[k]'(by omega), true, 0, (bs[k]'(by omega)).l⟩ := by
  have hf := h.filed
  rw [List.take_of_length_le (by simp [specsOf]; omega)] at hf
  have hl : hist.length = n := by rw [hf.1]; simp [specsOf]; omega
  have hfy := hf.2 k (hist[k]'(by omega)) _ (List.getElem?_eq_getElem _) (specs_at (by omega) (by omega))
  refine ⟨hist[k]'(by omega), ?_, hfy⟩
  have e1 : ahead es (hist[k]'(by omega)).seq = ss.countP (fun s => decide (s < ss[k]'(by omega))) := by
    rw [ahead_perm h.perm, ahead_map, filed_seqs hf, specs_seqs (by omega), hfy.1]
  rw [← e1]
  exact at_ahead es _ h.sorted (h.perm.mem_iff.2 (List.getElem_mem _))

theorem count_snoc (ss : List Nat) (m s : Nat) (h : m < ss.length) : (ss.take (m + 1)).countP (fun t => decide (t < s)) = (ss.take m).countP (fun t => decide (t < s)) + if ss[m] < s then 1 else 0 := by
  rw [List.take_succ_eq_append_getElem h, List.countP_append]
  simp [List.countP_cons]

theorem quiet_same {P : Program} {f : FuncId} {args : Array Value} {w : World} {n : Nat} {v : Value} (h : Calls P f args (w.drewN n) fun e w' => e = .returned v ∧ w.drewN n = w') : Calls P f args (w.drewN n) fun e w'' => e = .returned v ∧ ∃ m, w'' = w.drewN m :=
  h.mono fun _ _ ⟨he, hm⟩ => ⟨he, n, hm.symm⟩

theorem Ready.drewN {w : World} {L n cap : Nat} {ao : Option Addr} {fv : Value} {B : Int} {es : List Ent} (h : Ready w L ao n cap fv B es) (q : Nat) : Ready (w.drewN q) L ao n cap fv B es := ⟨h.head, h.row⟩

theorem OwnB.lies {w : World} {b : Body} (h : OwnB w b) : Lies w b.ao b.l := by
  intro hp
  have hs := h.sees
  obtain ⟨b1, o1, e1, hc⟩ := (own_seesV h).at (by have := hs.1; omega)
  exact ⟨b1, o1, e1, fun j hj => hc j _ (by simp [Lib.byteCells, hj])⟩

end Go.Proofs.Qxb6613717a
