/- Part of the proof: Skip. Conditions: those stated. -/
import Derived.Test.YtbnepbdlhpkiiaaDoorSxEqa
namespace Go.Sx
section
variable {P : Program} {w0 : World} {n : Nat} {L : Env} {H H0 : Array Obj} {Q : Exit → Act → World → Prop} {K : Act → World → Prop} {ty : TypeId}
/-- an acting operation of a region that draws, not wanted -/
theorem At.ordCN {ops : Array Oper} {i d : Nat} {op : Op} {pos : String} {after : Array Edge} {rest : List (Nat × Bool)} {j dj : Nat} {b c : Bool} {oj : Oper}
    (hs : Sub H0 H) (ho : ops[i]? = some ⟨some d, op, ty, pos, after, some (j, b)⟩) (hj : ops[j]? = some oj) (hdj : oj.dst = some dj) (hb : lk L dj = some (.bool c)) (hbc : (c == b) = false) (hjn : Nat.blt dj n = true)
    (hd : Nat.blt d n = true)
    (k : At w0 n ((d, undef) :: L) H (wpOrd P ops Q (fun w => Sub H0 w.heap) K rest)) :
    At w0 n L H (wpOrd P ops Q (fun w => Sub H0 w.heap) K ((i, true) :: rest)) := by
  intro a w hf hw
  have hwt : Region.wanted (⟨some d, op, ty, pos, after, some (j, b)⟩ : Oper) (yielded ops a.tmps) = false := by
    simp only [Region.wanted, yielded_of hf hj hdj hb hjn]
    cases b <;> cases c <;> simp_all
  refine ⟨show Sub H0 w.heap from hw.heap ▸ hs, ?_⟩
  unfold wpOp
  simp only [ho]
  rw [hwt]
  exact k _ _ (hf.put hd undef) hw
end
end Go.Sx
