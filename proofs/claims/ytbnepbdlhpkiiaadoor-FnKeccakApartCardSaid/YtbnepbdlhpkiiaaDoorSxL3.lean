/- The law FnKeccakApart walked: it returns true. -/
import Derived.Test.YtbnepbdlhpkiiaaDoorSxInj
import Derived.Test.YtbnepbdlhpkiiaaDoorSxSkip
namespace Go.Proofs.YtbnepbdlhpkiiaaDoor
open Go.Sx
attribute [local irreducible] wpList Code.wp Exit.then Exit.inBlock bodyPost wpOrd Does At Yl Ef EfX arrU arrB arr keccak rN lnN

theorem eg22' : Tryd.prog.eqGuardType Tryd.prog.depth 22 = false := by kernel_rfl

set_option maxRecDepth 8000 in
set_option maxHeartbeats 4000000 in
theorem keccakApart_does (H : Array Obj) (x y : Nat → BitVec 8) (turbo : Bool) {T' : TypeId} {fz : Nat × Nat} (hg : H[1]? = some (.cells (arrU 24 rcF) T' fz)) :
    Does Tryd.prog 3 #[.agg (arrB 200 x), .agg (arrB 200 y), .bool turbo] H (fun v H' => v = .bool true ∧ Sub H H') := by
  refine Does.of_body (vs := [.agg (arrB 200 x), .agg (arrB 200 y), .bool turbo]) Tryd.func3 rfl Tryd.ntmps3 rfl fun w0 => ?_
  repeat (first
    | refine At.yl (Yl.move rfl) rfl ?_
    | refine At.yl (Yl.assign rfl) rfl ?_
    | refine At.nil ?_
    | refine At.nmThen ?_
    | refine At.region ?_
    | refine At.seq ?_
    | refine At.block ?_
    | refine At.nmBlock ?_
    | refine At.skip ?_
    | refine At.exit ?_
    | refine At.exThen ?_
    | refine At.exHere ?_
    | refine At.exOther rfl ?_
    | refine At.retC ?_
    | refine At.rtThen ?_
    | refine At.rtBlock ?_
    | refine At.yl (Yl.nilCheck rfl) rfl ?_
    | refine At.yl (Yl.addI rfl rfl (by omega) (by omega)) rfl ?_
    | refine At.yl (Yl.subI rfl rfl (by omega) (by omega)) rfl ?_
    | refine At.yl (Yl.mulI rfl rfl (by omega) (by omega)) rfl ?_
    | refine At.yl (Yl.quoI rfl rfl (by omega) (by omega) (by omega)) rfl ?_
    | refine At.yl (Yl.remI rfl rfl (by omega) (by omega)) rfl ?_
    | refine At.yl (Yl.lss rfl rfl) rfl ?_
    | refine At.yl (Yl.gtr rfl rfl) rfl ?_
    | refine At.yl (Yl.leq rfl rfl) rfl ?_
    | refine At.yl (Yl.geq rfl rfl) rfl ?_
    | refine At.yl (Yl.eql rfl rfl) rfl ?_
    | refine At.yl (Yl.neq rfl rfl) rfl ?_
    | refine At.yl (Yl.xorU rfl rfl) rfl ?_
    | refine At.yl (Yl.orU rfl rfl) rfl ?_
    | refine At.yl (Yl.andU rfl rfl) rfl ?_
    | refine At.yl (Yl.notU rfl) rfl ?_
    | refine At.yl (Yl.xorB rfl rfl) rfl ?_
    | refine At.yl (Yl.convBU Tryd.underlying5 Tryd.underlying48 rfl) rfl ?_
    | refine At.yl (Yl.convUB Tryd.underlying48 Tryd.underlying5 rfl) rfl ?_
    | refine At.yl (Yl.lenSl Tryd.underlying28 rfl) rfl ?_)
  refine At.new (Ef.box rfl) rfl fun ba H1 ea s1 u1 ga => ?_
  refine At.new (Ef.box rfl) rfl fun bb H2 eb s2 u2 gb => ?_
  have ga2 := u2.get ga
  have u := u1.trans u2
  clear ga u1 u2
  repeat (first
    | refine At.yl (Yl.move rfl) rfl ?_
    | refine At.yl (Yl.assign rfl) rfl ?_
    | refine At.nil ?_
    | refine At.nmThen ?_
    | refine At.region ?_
    | refine At.seq ?_
    | refine At.block ?_
    | refine At.nmBlock ?_
    | refine At.skip ?_
    | refine At.exit ?_
    | refine At.exThen ?_
    | refine At.exHere ?_
    | refine At.exOther rfl ?_
    | refine At.retC ?_
    | refine At.rtThen ?_
    | refine At.rtBlock ?_
    | refine At.yl (Yl.nilCheck rfl) rfl ?_
    | refine At.yl (Yl.addI rfl rfl (by omega) (by omega)) rfl ?_
    | refine At.yl (Yl.subI rfl rfl (by omega) (by omega)) rfl ?_
    | refine At.yl (Yl.mulI rfl rfl (by omega) (by omega)) rfl ?_
    | refine At.yl (Yl.quoI rfl rfl (by omega) (by omega) (by omega)) rfl ?_
    | refine At.yl (Yl.remI rfl rfl (by omega) (by omega)) rfl ?_
    | refine At.yl (Yl.lss rfl rfl) rfl ?_
    | refine At.yl (Yl.gtr rfl rfl) rfl ?_
    | refine At.yl (Yl.leq rfl rfl) rfl ?_
    | refine At.yl (Yl.geq rfl rfl) rfl ?_
    | refine At.yl (Yl.eql rfl rfl) rfl ?_
    | refine At.yl (Yl.neq rfl rfl) rfl ?_
    | refine At.yl (Yl.xorU rfl rfl) rfl ?_
    | refine At.yl (Yl.orU rfl rfl) rfl ?_
    | refine At.yl (Yl.andU rfl rfl) rfl ?_
    | refine At.yl (Yl.notU rfl) rfl ?_
    | refine At.yl (Yl.xorB rfl rfl) rfl ?_
    | refine At.yl (Yl.convBU Tryd.underlying5 Tryd.underlying48 rfl) rfl ?_
    | refine At.yl (Yl.convUB Tryd.underlying48 Tryd.underlying5 rfl) rfl ?_
    | refine At.yl (Yl.lenSl Tryd.underlying28 rfl) rfl ?_)
  refine At.draws 12 [(0, false), (1, false), (2, false), (3, false), (4, false), (5, false), (7, false), (8, false), (6, true), (9, true), (10, false), (11, false)] rfl (by decide +kernel) (by repeat (first | exact QP.body _ _ _ | refine QP.thn ?_ | refine QP.blk ?_)) ?_
  refine At.ordY (Sub.refl _) rfl (Yl.loadWB Tryd.underlying22 rfl info22 bq22 rfl ga2) rfl ?_
  refine At.ordY (Sub.refl _) rfl (Yl.loadWB Tryd.underlying22 rfl info22 bq22 rfl gb) rfl ?_
  by_cases hxy : ∀ i, i < 200 → x i = y i
  · refine At.ordY (Sub.refl _) rfl (Yl.boolT (Yl.eqlArrB Tryd.underlying22 Tryd.underlying5 info5 bq5 eg22' rfl rfl) hxy) rfl ?_
    repeat (first
      | refine At.ordY (Sub.refl _) rfl (Yl.move rfl) rfl ?_
      | refine At.ordY (Sub.refl _) rfl (Yl.assign rfl) rfl ?_
      | refine At.ordY (Sub.refl _) rfl (Yl.nilCheck rfl) rfl ?_
      | refine At.ordY (Sub.refl _) rfl (Yl.addI rfl rfl (by omega) (by omega)) rfl ?_
      | refine At.ordY (Sub.refl _) rfl (Yl.subI rfl rfl (by omega) (by omega)) rfl ?_
      | refine At.ordY (Sub.refl _) rfl (Yl.mulI rfl rfl (by omega) (by omega)) rfl ?_
      | refine At.ordY (Sub.refl _) rfl (Yl.quoI rfl rfl (by omega) (by omega) (by omega)) rfl ?_
      | refine At.ordY (Sub.refl _) rfl (Yl.remI rfl rfl (by omega) (by omega)) rfl ?_
      | refine At.ordY (Sub.refl _) rfl (Yl.lss rfl rfl) rfl ?_
      | refine At.ordY (Sub.refl _) rfl (Yl.gtr rfl rfl) rfl ?_
      | refine At.ordY (Sub.refl _) rfl (Yl.leq rfl rfl) rfl ?_
      | refine At.ordY (Sub.refl _) rfl (Yl.geq rfl rfl) rfl ?_
      | refine At.ordY (Sub.refl _) rfl (Yl.eql rfl rfl) rfl ?_
      | refine At.ordY (Sub.refl _) rfl (Yl.neq rfl rfl) rfl ?_
      | refine At.ordY (Sub.refl _) rfl (Yl.xorU rfl rfl) rfl ?_
      | refine At.ordY (Sub.refl _) rfl (Yl.orU rfl rfl) rfl ?_
      | refine At.ordY (Sub.refl _) rfl (Yl.andU rfl rfl) rfl ?_
      | refine At.ordY (Sub.refl _) rfl (Yl.notU rfl) rfl ?_
      | refine At.ordY (Sub.refl _) rfl (Yl.xorB rfl rfl) rfl ?_
      | refine At.ordY (Sub.refl _) rfl (Yl.convBU Tryd.underlying5 Tryd.underlying48 rfl) rfl ?_
      | refine At.ordY (Sub.refl _) rfl (Yl.convUB Tryd.underlying48 Tryd.underlying5 rfl) rfl ?_
      | refine At.ordY (Sub.refl _) rfl (Yl.lenSl Tryd.underlying28 rfl) rfl ?_)
    refine At.ordN (Sub.refl _) rfl rfl rfl rfl rfl rfl rfl ?_
    refine At.ordN (Sub.refl _) rfl rfl rfl rfl rfl rfl rfl ?_
    refine At.ordN (Sub.refl _) rfl rfl rfl rfl rfl rfl rfl ?_
    refine At.ordN (Sub.refl _) rfl rfl rfl rfl rfl rfl rfl ?_
    refine At.ordCN (Sub.refl _) rfl rfl rfl rfl rfl rfl rfl ?_
    refine At.ordCN (Sub.refl _) rfl rfl rfl rfl rfl rfl rfl ?_
    refine At.ordN (Sub.refl _) rfl rfl rfl rfl rfl rfl rfl ?_
    refine At.ordY (Sub.refl _) rfl (Yl.pickT rfl rfl) rfl ?_
    refine At.ordNil (Sub.refl _) ?_
    repeat (first
      | refine At.yl (Yl.move rfl) rfl ?_
      | refine At.yl (Yl.assign rfl) rfl ?_
      | refine At.nil ?_
      | refine At.nmThen ?_
      | refine At.region ?_
      | refine At.seq ?_
      | refine At.block ?_
      | refine At.nmBlock ?_
      | refine At.skip ?_
      | refine At.exit ?_
      | refine At.exThen ?_
      | refine At.exHere ?_
      | refine At.exOther rfl ?_
      | refine At.retC ?_
      | refine At.rtThen ?_
      | refine At.rtBlock ?_
      | refine At.yl (Yl.nilCheck rfl) rfl ?_
      | refine At.yl (Yl.addI rfl rfl (by omega) (by omega)) rfl ?_
      | refine At.yl (Yl.subI rfl rfl (by omega) (by omega)) rfl ?_
      | refine At.yl (Yl.mulI rfl rfl (by omega) (by omega)) rfl ?_
      | refine At.yl (Yl.quoI rfl rfl (by omega) (by omega) (by omega)) rfl ?_
      | refine At.yl (Yl.remI rfl rfl (by omega) (by omega)) rfl ?_
      | refine At.yl (Yl.lss rfl rfl) rfl ?_
      | refine At.yl (Yl.gtr rfl rfl) rfl ?_
      | refine At.yl (Yl.leq rfl rfl) rfl ?_
      | refine At.yl (Yl.geq rfl rfl) rfl ?_
      | refine At.yl (Yl.eql rfl rfl) rfl ?_
      | refine At.yl (Yl.neq rfl rfl) rfl ?_
      | refine At.yl (Yl.xorU rfl rfl) rfl ?_
      | refine At.yl (Yl.orU rfl rfl) rfl ?_
      | refine At.yl (Yl.andU rfl rfl) rfl ?_
      | refine At.yl (Yl.notU rfl) rfl ?_
      | refine At.yl (Yl.xorB rfl rfl) rfl ?_
      | refine At.yl (Yl.convBU Tryd.underlying5 Tryd.underlying48 rfl) rfl ?_
      | refine At.yl (Yl.convUB Tryd.underlying48 Tryd.underlying5 rfl) rfl ?_
      | refine At.yl (Yl.lenSl Tryd.underlying28 rfl) rfl ?_)
    exact At.ret1 Tryd.results3 rfl ⟨rfl, u⟩
  · refine At.ordY (Sub.refl _) rfl (Yl.boolF (Yl.eqlArrB Tryd.underlying22 Tryd.underlying5 info5 bq5 eg22' rfl rfl) hxy) rfl ?_
    repeat (first
      | refine At.ordY (Sub.refl _) rfl (Yl.move rfl) rfl ?_
      | refine At.ordY (Sub.refl _) rfl (Yl.assign rfl) rfl ?_
      | refine At.ordY (Sub.refl _) rfl (Yl.nilCheck rfl) rfl ?_
      | refine At.ordY (Sub.refl _) rfl (Yl.addI rfl rfl (by omega) (by omega)) rfl ?_
      | refine At.ordY (Sub.refl _) rfl (Yl.subI rfl rfl (by omega) (by omega)) rfl ?_
      | refine At.ordY (Sub.refl _) rfl (Yl.mulI rfl rfl (by omega) (by omega)) rfl ?_
      | refine At.ordY (Sub.refl _) rfl (Yl.quoI rfl rfl (by omega) (by omega) (by omega)) rfl ?_
      | refine At.ordY (Sub.refl _) rfl (Yl.remI rfl rfl (by omega) (by omega)) rfl ?_
      | refine At.ordY (Sub.refl _) rfl (Yl.lss rfl rfl) rfl ?_
      | refine At.ordY (Sub.refl _) rfl (Yl.gtr rfl rfl) rfl ?_
      | refine At.ordY (Sub.refl _) rfl (Yl.leq rfl rfl) rfl ?_
      | refine At.ordY (Sub.refl _) rfl (Yl.geq rfl rfl) rfl ?_
      | refine At.ordY (Sub.refl _) rfl (Yl.eql rfl rfl) rfl ?_
      | refine At.ordY (Sub.refl _) rfl (Yl.neq rfl rfl) rfl ?_
      | refine At.ordY (Sub.refl _) rfl (Yl.xorU rfl rfl) rfl ?_
      | refine At.ordY (Sub.refl _) rfl (Yl.orU rfl rfl) rfl ?_
      | refine At.ordY (Sub.refl _) rfl (Yl.andU rfl rfl) rfl ?_
      | refine At.ordY (Sub.refl _) rfl (Yl.notU rfl) rfl ?_
      | refine At.ordY (Sub.refl _) rfl (Yl.xorB rfl rfl) rfl ?_
      | refine At.ordY (Sub.refl _) rfl (Yl.convBU Tryd.underlying5 Tryd.underlying48 rfl) rfl ?_
      | refine At.ordY (Sub.refl _) rfl (Yl.convUB Tryd.underlying48 Tryd.underlying5 rfl) rfl ?_
      | refine At.ordY (Sub.refl _) rfl (Yl.lenSl Tryd.underlying28 rfl) rfl ?_)
    refine At.ordG (Sub.refl _) rfl rfl rfl rfl rfl (Yl.loadWB Tryd.underlying22 rfl info22 bq22 rfl ga2) rfl ?_
    refine At.ordG (Sub.refl _) rfl rfl rfl rfl rfl (Yl.move rfl) rfl ?_
    refine At.ordG (Sub.refl _) rfl rfl rfl rfl rfl (Yl.loadWB Tryd.underlying22 rfl info22 bq22 rfl gb) rfl ?_
    refine At.ordG (Sub.refl _) rfl rfl rfl rfl rfl (Yl.move rfl) rfl ?_
    refine At.ordCG (Sub.refl _) rfl rfl rfl rfl rfl Tryd.call12 rfl rfl (ik_does _ x turbo rcF (u.get hg)) ?_
    rintro v H3 ⟨rfl, u3⟩
    refine At.ordCG u3 rfl rfl rfl rfl rfl Tryd.call12 rfl rfl (ik_does _ y turbo rcF ((u.trans u3).get hg)) ?_
    rintro v H4 ⟨rfl, u4⟩
    have hne : ¬ ∀ i, i < 200 → byt (keccak rcF turbo (lnN x 200)) i = byt (keccak rcF turbo (lnN y 200)) i := fun h => hxy (keccak_bytes_inj turbo h)
    refine At.ordG (u3.trans u4) rfl rfl rfl rfl rfl (Yl.as (v' := .bool true) (Yl.neqArrB Tryd.underlying22 Tryd.underlying5 info5 bq5 eg22' rfl rfl) (by rw [decide_eq_false hne]; rfl)) rfl ?_
    refine At.ordY (u3.trans u4) rfl (Yl.pickF rfl rfl) rfl ?_
    refine At.ordNil (u3.trans u4) ?_
    repeat (first
      | refine At.yl (Yl.move rfl) rfl ?_
      | refine At.yl (Yl.assign rfl) rfl ?_
      | refine At.nil ?_
      | refine At.nmThen ?_
      | refine At.region ?_
      | refine At.seq ?_
      | refine At.block ?_
      | refine At.nmBlock ?_
      | refine At.skip ?_
      | refine At.exit ?_
      | refine At.exThen ?_
      | refine At.exHere ?_
      | refine At.exOther rfl ?_
      | refine At.retC ?_
      | refine At.rtThen ?_
      | refine At.rtBlock ?_
      | refine At.yl (Yl.nilCheck rfl) rfl ?_
      | refine At.yl (Yl.addI rfl rfl (by omega) (by omega)) rfl ?_
      | refine At.yl (Yl.subI rfl rfl (by omega) (by omega)) rfl ?_
      | refine At.yl (Yl.mulI rfl rfl (by omega) (by omega)) rfl ?_
      | refine At.yl (Yl.quoI rfl rfl (by omega) (by omega) (by omega)) rfl ?_
      | refine At.yl (Yl.remI rfl rfl (by omega) (by omega)) rfl ?_
      | refine At.yl (Yl.lss rfl rfl) rfl ?_
      | refine At.yl (Yl.gtr rfl rfl) rfl ?_
      | refine At.yl (Yl.leq rfl rfl) rfl ?_
      | refine At.yl (Yl.geq rfl rfl) rfl ?_
      | refine At.yl (Yl.eql rfl rfl) rfl ?_
      | refine At.yl (Yl.neq rfl rfl) rfl ?_
      | refine At.yl (Yl.xorU rfl rfl) rfl ?_
      | refine At.yl (Yl.orU rfl rfl) rfl ?_
      | refine At.yl (Yl.andU rfl rfl) rfl ?_
      | refine At.yl (Yl.notU rfl) rfl ?_
      | refine At.yl (Yl.xorB rfl rfl) rfl ?_
      | refine At.yl (Yl.convBU Tryd.underlying5 Tryd.underlying48 rfl) rfl ?_
      | refine At.yl (Yl.convUB Tryd.underlying48 Tryd.underlying5 rfl) rfl ?_
      | refine At.yl (Yl.lenSl Tryd.underlying28 rfl) rfl ?_)
    exact At.ret1 Tryd.results3 rfl ⟨rfl, u.trans (u3.trans u4)⟩
end Go.Proofs.YtbnepbdlhpkiiaaDoor

