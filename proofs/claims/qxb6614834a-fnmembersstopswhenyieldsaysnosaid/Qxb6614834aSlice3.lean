/- rows[i:j:j] over rows of five cells. -/
import Derived.Test.Qxb6614834aMatches
namespace Go.Proofs.Qxb6614834a
open Go.RowKit

theorem run_slice3 (w : World) (a : Option Addr) (n cap I J : Nat) (h1 : I ≤ J) (h2 : J ≤ cap) :
    (Instr.sliceAt 38 (.slice a n cap) (some (.int .u32 I)) (some (.int .u32 J)) (some (.int .u32 J))).run Try.prog w = .ok (.slice (if J = I then a else a.map (·.add (I * 5))) (J - I) (J - I)) w := by
  simp [Instr.sliceAt, Instr.slice, Instr.sliceBounds, Instr.sliceBound, asIntOf, run_underlying Try.underlying38, go_sem, h1, h2]

theorem wpList_slice3 {w : World} {ops : Array Oper} {rest : List Oper} {o : Oper} {a : Act} {Q : Exit → Act → World → Prop} (hgd : o.guard = none) (x l h m : Operand) (ho : o.op = .slice 38 x (some l) (some h) (some m))
    (ao : Option Addr) (n cap I J : Nat) (hx : a.eval x = .slice ao n cap) (hl : a.eval l = .int .u32 I) (hh : a.eval h = .int .u32 J) (hm : a.eval m = .int .u32 J) (h1 : I ≤ J) (h2 : J ≤ cap)
    (b : Option Addr) (hb : (if J = I then ao else ao.map (·.add (I * 5))) = b)
    (hK : wpList Try.prog ops Q rest (a.put o.dst (.slice b (J - I) (J - I))) w) : wpList Try.prog ops Q (o :: rest) a w := by
  refine wpList_plain hgd fun K hK' => ?_
  have hr := run_slice3 w ao n cap I J h1 h2
  rw [hb] at hr
  unfold Oper.wp execOp
  simp only [ho, Option.map_some, hx, hl, hh, hm, hr, Sem.run_bind, Sem.run_pure, Result.andThen_ok]
  exact hK' _ _ hK
end Go.Proofs.Qxb6614834a
