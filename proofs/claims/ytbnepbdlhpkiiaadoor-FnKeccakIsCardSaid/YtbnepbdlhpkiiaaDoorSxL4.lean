/- The law FnKeccakIs walked: it returns true. -/
import Derived.Test.YtbnepbdlhpkiiaaDoorSxKp
namespace Go.Proofs.YtbnepbdlhpkiiaaDoor
open Go.Sx
attribute [local irreducible] wpList Code.wp Exit.then Exit.inBlock bodyPost wpOrd Does At Yl Ef EfX arrU arrB arr keccak rN lnN

theorem eg22 : Tryd.prog.eqGuardType Tryd.prog.depth 22 = false := by kernel_rfl

set_option maxRecDepth 8000 in
set_option maxHeartbeats 4000000 in
theorem keccakIs_does (H : Array Obj) (x : Nat → BitVec 8) (turbo : Bool) {T' : TypeId} {fz : Nat × Nat} (hg : H[1]? = some (.cells (arrU 24 rcF) T' fz)) :
    Does Tryd.prog 4 #[.agg (arrB 200 x), .bool turbo] H (fun v H' => v = .bool true ∧ Sub H H') := by
  refine Does.of_body (vs := [.agg (arrB 200 x), .bool turbo]) Tryd.func4 rfl Tryd.ntmps4 rfl fun w0 => ?_
  repeat (first
    | refine At.yl (Yl.move rfl) rfl ?_
    | refine At.yl (Yl.assign rfl) rfl ?_
    | refine At.nil ?_
    | refine At.nmThen ?_
    | refine At.region ?_
    | refine At.seq ?_
    | refine At.block ?_
    | refine At.nmBlock ?_
    | refine At.skip ?_
    | refine At.exit ?_
    | refine At.exThen ?_
    | refine At.exHere ?_
    | refine At.exOther rfl ?_
    | refine At.retC ?_
    | refine At.rtThen ?_
    | refine At.rtBlock ?_
    | refine At.yl (Yl.nilCheck rfl) rfl ?_
    | refine At.yl (Yl.addI rfl rfl (by omega) (by omega)) rfl ?_
    | refine At.yl (Yl.subI rfl rfl (by omega) (by omega)) rfl ?_
    | refine At.yl (Yl.mulI rfl rfl (by omega) (by omega)) rfl ?_
    | refine At.yl (Yl.quoI rfl rfl (by omega) (by omega) (by omega)) rfl ?_
    | refine At.yl (Yl.remI rfl rfl (by omega) (by omega)) rfl ?_
    | refine At.yl (Yl.lss rfl rfl) rfl ?_
    | refine At.yl (Yl.gtr rfl rfl) rfl ?_
    | refine At.yl (Yl.leq rfl rfl) rfl ?_
    | refine At.yl (Yl.geq rfl rfl) rfl ?_
    | refine At.yl (Yl.eql rfl rfl) rfl ?_
    | refine At.yl (Yl.neq rfl rfl) rfl ?_
    | refine At.yl (Yl.xorU rfl rfl) rfl ?_
    | refine At.yl (Yl.orU rfl rfl) rfl ?_
    | refine At.yl (Yl.andU rfl rfl) rfl ?_
    | refine At.yl (Yl.notU rfl) rfl ?_
    | refine At.yl (Yl.xorB rfl rfl) rfl ?_
    | refine At.yl (Yl.convBU Tryd.underlying5 Tryd.underlying48 rfl) rfl ?_
    | refine At.yl (Yl.convUB Tryd.underlying48 Tryd.underlying5 rfl) rfl ?_
    | refine At.yl (Yl.lenSl Tryd.underlying28 rfl) rfl ?_)
  refine At.new (Ef.box rfl) rfl fun ba H1 ea s1 u1 ga => ?_
  cases turbo
  ·
    repeat (first
      | refine At.yl (Yl.move rfl) rfl ?_
      | refine At.yl (Yl.assign rfl) rfl ?_
      | refine At.nil ?_
      | refine At.nmThen ?_
      | refine At.region ?_
      | refine At.seq ?_
      | refine At.block ?_
      | refine At.nmBlock ?_
      | refine At.skip ?_
      | refine At.exit ?_
      | refine At.exThen ?_
      | refine At.exHere ?_
      | refine At.exOther rfl ?_
      | refine At.retC ?_
      | refine At.rtThen ?_
      | refine At.rtBlock ?_
      | refine At.yl (Yl.nilCheck rfl) rfl ?_
      | refine At.yl (Yl.addI rfl rfl (by omega) (by omega)) rfl ?_
      | refine At.yl (Yl.subI rfl rfl (by omega) (by omega)) rfl ?_
      | refine At.yl (Yl.mulI rfl rfl (by omega) (by omega)) rfl ?_
      | refine At.yl (Yl.quoI rfl rfl (by omega) (by omega) (by omega)) rfl ?_
      | refine At.yl (Yl.remI rfl rfl (by omega) (by omega)) rfl ?_
      | refine At.yl (Yl.lss rfl rfl) rfl ?_
      | refine At.yl (Yl.gtr rfl rfl) rfl ?_
      | refine At.yl (Yl.leq rfl rfl) rfl ?_
      | refine At.yl (Yl.geq rfl rfl) rfl ?_
      | refine At.yl (Yl.eql rfl rfl) rfl ?_
      | refine At.yl (Yl.neq rfl rfl) rfl ?_
      | refine At.yl (Yl.xorU rfl rfl) rfl ?_
      | refine At.yl (Yl.orU rfl rfl) rfl ?_
      | refine At.yl (Yl.andU rfl rfl) rfl ?_
      | refine At.yl (Yl.notU rfl) rfl ?_
      | refine At.yl (Yl.xorB rfl rfl) rfl ?_
      | refine At.yl (Yl.convBU Tryd.underlying5 Tryd.underlying48 rfl) rfl ?_
      | refine At.yl (Yl.convUB Tryd.underlying48 Tryd.underlying5 rfl) rfl ?_
      | refine At.yl (Yl.lenSl Tryd.underlying28 rfl) rfl ?_)
    refine At.condF rfl ?_
    repeat (first
      | refine At.yl (Yl.move rfl) rfl ?_
      | refine At.yl (Yl.assign rfl) rfl ?_
      | refine At.nil ?_
      | refine At.nmThen ?_
      | refine At.region ?_
      | refine At.seq ?_
      | refine At.block ?_
      | refine At.nmBlock ?_
      | refine At.skip ?_
      | refine At.exit ?_
      | refine At.exThen ?_
      | refine At.exHere ?_
      | refine At.exOther rfl ?_
      | refine At.retC ?_
      | refine At.rtThen ?_
      | refine At.rtBlock ?_
      | refine At.yl (Yl.nilCheck rfl) rfl ?_
      | refine At.yl (Yl.addI rfl rfl (by omega) (by omega)) rfl ?_
      | refine At.yl (Yl.subI rfl rfl (by omega) (by omega)) rfl ?_
      | refine At.yl (Yl.mulI rfl rfl (by omega) (by omega)) rfl ?_
      | refine At.yl (Yl.quoI rfl rfl (by omega) (by omega) (by omega)) rfl ?_
      | refine At.yl (Yl.remI rfl rfl (by omega) (by omega)) rfl ?_
      | refine At.yl (Yl.lss rfl rfl) rfl ?_
      | refine At.yl (Yl.gtr rfl rfl) rfl ?_
      | refine At.yl (Yl.leq rfl rfl) rfl ?_
      | refine At.yl (Yl.geq rfl rfl) rfl ?_
      | refine At.yl (Yl.eql rfl rfl) rfl ?_
      | refine At.yl (Yl.neq rfl rfl) rfl ?_
      | refine At.yl (Yl.xorU rfl rfl) rfl ?_
      | refine At.yl (Yl.orU rfl rfl) rfl ?_
      | refine At.yl (Yl.andU rfl rfl) rfl ?_
      | refine At.yl (Yl.notU rfl) rfl ?_
      | refine At.yl (Yl.xorB rfl rfl) rfl ?_
      | refine At.yl (Yl.convBU Tryd.underlying5 Tryd.underlying48 rfl) rfl ?_
      | refine At.yl (Yl.convUB Tryd.underlying48 Tryd.underlying5 rfl) rfl ?_
      | refine At.yl (Yl.lenSl Tryd.underlying28 rfl) rfl ?_)
    refine At.draws 7 [(0, false), (1, false), (3, false), (4, false), (2, true), (5, true), (6, false)] rfl (by decide +kernel) (by repeat (first | exact QP.body _ _ _ | refine QP.thn ?_ | refine QP.blk ?_)) ?_
    refine At.ordY (Sub.refl _) rfl (Yl.loadWB Tryd.underlying22 rfl info22 bq22 rfl ga) rfl ?_
    repeat (first
      | refine At.ordY (Sub.refl _) rfl (Yl.move rfl) rfl ?_
      | refine At.ordY (Sub.refl _) rfl (Yl.assign rfl) rfl ?_
      | refine At.ordY (Sub.refl _) rfl (Yl.nilCheck rfl) rfl ?_
      | refine At.ordY (Sub.refl _) rfl (Yl.addI rfl rfl (by omega) (by omega)) rfl ?_
      | refine At.ordY (Sub.refl _) rfl (Yl.subI rfl rfl (by omega) (by omega)) rfl ?_
      | refine At.ordY (Sub.refl _) rfl (Yl.mulI rfl rfl (by omega) (by omega)) rfl ?_
      | refine At.ordY (Sub.refl _) rfl (Yl.quoI rfl rfl (by omega) (by omega) (by omega)) rfl ?_
      | refine At.ordY (Sub.refl _) rfl (Yl.remI rfl rfl (by omega) (by omega)) rfl ?_
      | refine At.ordY (Sub.refl _) rfl (Yl.lss rfl rfl) rfl ?_
      | refine At.ordY (Sub.refl _) rfl (Yl.gtr rfl rfl) rfl ?_
      | refine At.ordY (Sub.refl _) rfl (Yl.leq rfl rfl) rfl ?_
      | refine At.ordY (Sub.refl _) rfl (Yl.geq rfl rfl) rfl ?_
      | refine At.ordY (Sub.refl _) rfl (Yl.eql rfl rfl) rfl ?_
      | refine At.ordY (Sub.refl _) rfl (Yl.neq rfl rfl) rfl ?_
      | refine At.ordY (Sub.refl _) rfl (Yl.xorU rfl rfl) rfl ?_
      | refine At.ordY (Sub.refl _) rfl (Yl.orU rfl rfl) rfl ?_
      | refine At.ordY (Sub.refl _) rfl (Yl.andU rfl rfl) rfl ?_
      | refine At.ordY (Sub.refl _) rfl (Yl.notU rfl) rfl ?_
      | refine At.ordY (Sub.refl _) rfl (Yl.xorB rfl rfl) rfl ?_
      | refine At.ordY (Sub.refl _) rfl (Yl.convBU Tryd.underlying5 Tryd.underlying48 rfl) rfl ?_
      | refine At.ordY (Sub.refl _) rfl (Yl.convUB Tryd.underlying48 Tryd.underlying5 rfl) rfl ?_
      | refine At.ordY (Sub.refl _) rfl (Yl.lenSl Tryd.underlying28 rfl) rfl ?_)
    refine At.ordY (Sub.refl _) rfl (Yl.loadWB Tryd.underlying22 rfl info22 bq22 rfl ga) rfl ?_
    repeat (first
      | refine At.ordY (Sub.refl _) rfl (Yl.move rfl) rfl ?_
      | refine At.ordY (Sub.refl _) rfl (Yl.assign rfl) rfl ?_
      | refine At.ordY (Sub.refl _) rfl (Yl.nilCheck rfl) rfl ?_
      | refine At.ordY (Sub.refl _) rfl (Yl.addI rfl rfl (by omega) (by omega)) rfl ?_
      | refine At.ordY (Sub.refl _) rfl (Yl.subI rfl rfl (by omega) (by omega)) rfl ?_
      | refine At.ordY (Sub.refl _) rfl (Yl.mulI rfl rfl (by omega) (by omega)) rfl ?_
      | refine At.ordY (Sub.refl _) rfl (Yl.quoI rfl rfl (by omega) (by omega) (by omega)) rfl ?_
      | refine At.ordY (Sub.refl _) rfl (Yl.remI rfl rfl (by omega) (by omega)) rfl ?_
      | refine At.ordY (Sub.refl _) rfl (Yl.lss rfl rfl) rfl ?_
      | refine At.ordY (Sub.refl _) rfl (Yl.gtr rfl rfl) rfl ?_
      | refine At.ordY (Sub.refl _) rfl (Yl.leq rfl rfl) rfl ?_
      | refine At.ordY (Sub.refl _) rfl (Yl.geq rfl rfl) rfl ?_
      | refine At.ordY (Sub.refl _) rfl (Yl.eql rfl rfl) rfl ?_
      | refine At.ordY (Sub.refl _) rfl (Yl.neq rfl rfl) rfl ?_
      | refine At.ordY (Sub.refl _) rfl (Yl.xorU rfl rfl) rfl ?_
      | refine At.ordY (Sub.refl _) rfl (Yl.orU rfl rfl) rfl ?_
      | refine At.ordY (Sub.refl _) rfl (Yl.andU rfl rfl) rfl ?_
      | refine At.ordY (Sub.refl _) rfl (Yl.notU rfl) rfl ?_
      | refine At.ordY (Sub.refl _) rfl (Yl.xorB rfl rfl) rfl ?_
      | refine At.ordY (Sub.refl _) rfl (Yl.convBU Tryd.underlying5 Tryd.underlying48 rfl) rfl ?_
      | refine At.ordY (Sub.refl _) rfl (Yl.convUB Tryd.underlying48 Tryd.underlying5 rfl) rfl ?_
      | refine At.ordY (Sub.refl _) rfl (Yl.lenSl Tryd.underlying28 rfl) rfl ?_)
    refine At.ordC (Sub.refl _) rfl Tryd.call12 rfl rfl (ik_does _ x false rcF (u1.get hg)) ?_
    rintro v H2 ⟨rfl, u2⟩
    refine At.ordC u2 rfl Tryd.call13 rfl rfl (sk_does _ x 24 _ rfl (by omega)) ?_
    rintro v H3 ⟨rfl, u3⟩
    refine At.ordY (u2.trans u3) rfl (Yl.boolT (Yl.eqlArrB Tryd.underlying22 Tryd.underlying5 info5 bq5 eg22 rfl rfl) fun i hi => (byt_congr (rN_keccak false (lnN x 200)) hi).symm) rfl ?_
    refine At.ordNil (u2.trans u3) ?_
    repeat (first
      | refine At.yl (Yl.move rfl) rfl ?_
      | refine At.yl (Yl.assign rfl) rfl ?_
      | refine At.nil ?_
      | refine At.nmThen ?_
      | refine At.region ?_
      | refine At.seq ?_
      | refine At.block ?_
      | refine At.nmBlock ?_
      | refine At.skip ?_
      | refine At.exit ?_
      | refine At.exThen ?_
      | refine At.exHere ?_
      | refine At.exOther rfl ?_
      | refine At.retC ?_
      | refine At.rtThen ?_
      | refine At.rtBlock ?_
      | refine At.yl (Yl.nilCheck rfl) rfl ?_
      | refine At.yl (Yl.addI rfl rfl (by omega) (by omega)) rfl ?_
      | refine At.yl (Yl.subI rfl rfl (by omega) (by omega)) rfl ?_
      | refine At.yl (Yl.mulI rfl rfl (by omega) (by omega)) rfl ?_
      | refine At.yl (Yl.quoI rfl rfl (by omega) (by omega) (by omega)) rfl ?_
      | refine At.yl (Yl.remI rfl rfl (by omega) (by omega)) rfl ?_
      | refine At.yl (Yl.lss rfl rfl) rfl ?_
      | refine At.yl (Yl.gtr rfl rfl) rfl ?_
      | refine At.yl (Yl.leq rfl rfl) rfl ?_
      | refine At.yl (Yl.geq rfl rfl) rfl ?_
      | refine At.yl (Yl.eql rfl rfl) rfl ?_
      | refine At.yl (Yl.neq rfl rfl) rfl ?_
      | refine At.yl (Yl.xorU rfl rfl) rfl ?_
      | refine At.yl (Yl.orU rfl rfl) rfl ?_
      | refine At.yl (Yl.andU rfl rfl) rfl ?_
      | refine At.yl (Yl.notU rfl) rfl ?_
      | refine At.yl (Yl.xorB rfl rfl) rfl ?_
      | refine At.yl (Yl.convBU Tryd.underlying5 Tryd.underlying48 rfl) rfl ?_
      | refine At.yl (Yl.convUB Tryd.underlying48 Tryd.underlying5 rfl) rfl ?_
      | refine At.yl (Yl.lenSl Tryd.underlying28 rfl) rfl ?_)
    exact At.ret1 Tryd.results4 rfl ⟨rfl, u1.trans (u2.trans u3)⟩
  ·
    repeat (first
      | refine At.yl (Yl.move rfl) rfl ?_
      | refine At.yl (Yl.assign rfl) rfl ?_
      | refine At.nil ?_
      | refine At.nmThen ?_
      | refine At.region ?_
      | refine At.seq ?_
      | refine At.block ?_
      | refine At.nmBlock ?_
      | refine At.skip ?_
      | refine At.exit ?_
      | refine At.exThen ?_
      | refine At.exHere ?_
      | refine At.exOther rfl ?_
      | refine At.retC ?_
      | refine At.rtThen ?_
      | refine At.rtBlock ?_
      | refine At.yl (Yl.nilCheck rfl) rfl ?_
      | refine At.yl (Yl.addI rfl rfl (by omega) (by omega)) rfl ?_
      | refine At.yl (Yl.subI rfl rfl (by omega) (by omega)) rfl ?_
      | refine At.yl (Yl.mulI rfl rfl (by omega) (by omega)) rfl ?_
      | refine At.yl (Yl.quoI rfl rfl (by omega) (by omega) (by omega)) rfl ?_
      | refine At.yl (Yl.remI rfl rfl (by omega) (by omega)) rfl ?_
      | refine At.yl (Yl.lss rfl rfl) rfl ?_
      | refine At.yl (Yl.gtr rfl rfl) rfl ?_
      | refine At.yl (Yl.leq rfl rfl) rfl ?_
      | refine At.yl (Yl.geq rfl rfl) rfl ?_
      | refine At.yl (Yl.eql rfl rfl) rfl ?_
      | refine At.yl (Yl.neq rfl rfl) rfl ?_
      | refine At.yl (Yl.xorU rfl rfl) rfl ?_
      | refine At.yl (Yl.orU rfl rfl) rfl ?_
      | refine At.yl (Yl.andU rfl rfl) rfl ?_
      | refine At.yl (Yl.notU rfl) rfl ?_
      | refine At.yl (Yl.xorB rfl rfl) rfl ?_
      | refine At.yl (Yl.convBU Tryd.underlying5 Tryd.underlying48 rfl) rfl ?_
      | refine At.yl (Yl.convUB Tryd.underlying48 Tryd.underlying5 rfl) rfl ?_
      | refine At.yl (Yl.lenSl Tryd.underlying28 rfl) rfl ?_)
    refine At.condT rfl ?_
    repeat (first
      | refine At.yl (Yl.move rfl) rfl ?_
      | refine At.yl (Yl.assign rfl) rfl ?_
      | refine At.nil ?_
      | refine At.nmThen ?_
      | refine At.region ?_
      | refine At.seq ?_
      | refine At.block ?_
      | refine At.nmBlock ?_
      | refine At.skip ?_
      | refine At.exit ?_
      | refine At.exThen ?_
      | refine At.exHere ?_
      | refine At.exOther rfl ?_
      | refine At.retC ?_
      | refine At.rtThen ?_
      | refine At.rtBlock ?_
      | refine At.yl (Yl.nilCheck rfl) rfl ?_
      | refine At.yl (Yl.addI rfl rfl (by omega) (by omega)) rfl ?_
      | refine At.yl (Yl.subI rfl rfl (by omega) (by omega)) rfl ?_
      | refine At.yl (Yl.mulI rfl rfl (by omega) (by omega)) rfl ?_
      | refine At.yl (Yl.quoI rfl rfl (by omega) (by omega) (by omega)) rfl ?_
      | refine At.yl (Yl.remI rfl rfl (by omega) (by omega)) rfl ?_
      | refine At.yl (Yl.lss rfl rfl) rfl ?_
      | refine At.yl (Yl.gtr rfl rfl) rfl ?_
      | refine At.yl (Yl.leq rfl rfl) rfl ?_
      | refine At.yl (Yl.geq rfl rfl) rfl ?_
      | refine At.yl (Yl.eql rfl rfl) rfl ?_
      | refine At.yl (Yl.neq rfl rfl) rfl ?_
      | refine At.yl (Yl.xorU rfl rfl) rfl ?_
      | refine At.yl (Yl.orU rfl rfl) rfl ?_
      | refine At.yl (Yl.andU rfl rfl) rfl ?_
      | refine At.yl (Yl.notU rfl) rfl ?_
      | refine At.yl (Yl.xorB rfl rfl) rfl ?_
      | refine At.yl (Yl.convBU Tryd.underlying5 Tryd.underlying48 rfl) rfl ?_
      | refine At.yl (Yl.convUB Tryd.underlying48 Tryd.underlying5 rfl) rfl ?_
      | refine At.yl (Yl.lenSl Tryd.underlying28 rfl) rfl ?_)
    refine At.draws 7 [(0, false), (1, false), (3, false), (4, false), (2, true), (5, true), (6, false)] rfl (by decide +kernel) (by repeat (first | exact QP.body _ _ _ | refine QP.thn ?_ | refine QP.blk ?_)) ?_
    refine At.ordY (Sub.refl _) rfl (Yl.loadWB Tryd.underlying22 rfl info22 bq22 rfl ga) rfl ?_
    repeat (first
      | refine At.ordY (Sub.refl _) rfl (Yl.move rfl) rfl ?_
      | refine At.ordY (Sub.refl _) rfl (Yl.assign rfl) rfl ?_
      | refine At.ordY (Sub.refl _) rfl (Yl.nilCheck rfl) rfl ?_
      | refine At.ordY (Sub.refl _) rfl (Yl.addI rfl rfl (by omega) (by omega)) rfl ?_
      | refine At.ordY (Sub.refl _) rfl (Yl.subI rfl rfl (by omega) (by omega)) rfl ?_
      | refine At.ordY (Sub.refl _) rfl (Yl.mulI rfl rfl (by omega) (by omega)) rfl ?_
      | refine At.ordY (Sub.refl _) rfl (Yl.quoI rfl rfl (by omega) (by omega) (by omega)) rfl ?_
      | refine At.ordY (Sub.refl _) rfl (Yl.remI rfl rfl (by omega) (by omega)) rfl ?_
      | refine At.ordY (Sub.refl _) rfl (Yl.lss rfl rfl) rfl ?_
      | refine At.ordY (Sub.refl _) rfl (Yl.gtr rfl rfl) rfl ?_
      | refine At.ordY (Sub.refl _) rfl (Yl.leq rfl rfl) rfl ?_
      | refine At.ordY (Sub.refl _) rfl (Yl.geq rfl rfl) rfl ?_
      | refine At.ordY (Sub.refl _) rfl (Yl.eql rfl rfl) rfl ?_
      | refine At.ordY (Sub.refl _) rfl (Yl.neq rfl rfl) rfl ?_
      | refine At.ordY (Sub.refl _) rfl (Yl.xorU rfl rfl) rfl ?_
      | refine At.ordY (Sub.refl _) rfl (Yl.orU rfl rfl) rfl ?_
      | refine At.ordY (Sub.refl _) rfl (Yl.andU rfl rfl) rfl ?_
      | refine At.ordY (Sub.refl _) rfl (Yl.notU rfl) rfl ?_
      | refine At.ordY (Sub.refl _) rfl (Yl.xorB rfl rfl) rfl ?_
      | refine At.ordY (Sub.refl _) rfl (Yl.convBU Tryd.underlying5 Tryd.underlying48 rfl) rfl ?_
      | refine At.ordY (Sub.refl _) rfl (Yl.convUB Tryd.underlying48 Tryd.underlying5 rfl) rfl ?_
      | refine At.ordY (Sub.refl _) rfl (Yl.lenSl Tryd.underlying28 rfl) rfl ?_)
    refine At.ordY (Sub.refl _) rfl (Yl.loadWB Tryd.underlying22 rfl info22 bq22 rfl ga) rfl ?_
    repeat (first
      | refine At.ordY (Sub.refl _) rfl (Yl.move rfl) rfl ?_
      | refine At.ordY (Sub.refl _) rfl (Yl.assign rfl) rfl ?_
      | refine At.ordY (Sub.refl _) rfl (Yl.nilCheck rfl) rfl ?_
      | refine At.ordY (Sub.refl _) rfl (Yl.addI rfl rfl (by omega) (by omega)) rfl ?_
      | refine At.ordY (Sub.refl _) rfl (Yl.subI rfl rfl (by omega) (by omega)) rfl ?_
      | refine At.ordY (Sub.refl _) rfl (Yl.mulI rfl rfl (by omega) (by omega)) rfl ?_
      | refine At.ordY (Sub.refl _) rfl (Yl.quoI rfl rfl (by omega) (by omega) (by omega)) rfl ?_
      | refine At.ordY (Sub.refl _) rfl (Yl.remI rfl rfl (by omega) (by omega)) rfl ?_
      | refine At.ordY (Sub.refl _) rfl (Yl.lss rfl rfl) rfl ?_
      | refine At.ordY (Sub.refl _) rfl (Yl.gtr rfl rfl) rfl ?_
      | refine At.ordY (Sub.refl _) rfl (Yl.leq rfl rfl) rfl ?_
      | refine At.ordY (Sub.refl _) rfl (Yl.geq rfl rfl) rfl ?_
      | refine At.ordY (Sub.refl _) rfl (Yl.eql rfl rfl) rfl ?_
      | refine At.ordY (Sub.refl _) rfl (Yl.neq rfl rfl) rfl ?_
      | refine At.ordY (Sub.refl _) rfl (Yl.xorU rfl rfl) rfl ?_
      | refine At.ordY (Sub.refl _) rfl (Yl.orU rfl rfl) rfl ?_
      | refine At.ordY (Sub.refl _) rfl (Yl.andU rfl rfl) rfl ?_
      | refine At.ordY (Sub.refl _) rfl (Yl.notU rfl) rfl ?_
      | refine At.ordY (Sub.refl _) rfl (Yl.xorB rfl rfl) rfl ?_
      | refine At.ordY (Sub.refl _) rfl (Yl.convBU Tryd.underlying5 Tryd.underlying48 rfl) rfl ?_
      | refine At.ordY (Sub.refl _) rfl (Yl.convUB Tryd.underlying48 Tryd.underlying5 rfl) rfl ?_
      | refine At.ordY (Sub.refl _) rfl (Yl.lenSl Tryd.underlying28 rfl) rfl ?_)
    refine At.ordC (Sub.refl _) rfl Tryd.call12 rfl rfl (ik_does _ x true rcF (u1.get hg)) ?_
    rintro v H2 ⟨rfl, u2⟩
    refine At.ordC u2 rfl Tryd.call13 rfl rfl (sk_does _ x 12 _ rfl (by omega)) ?_
    rintro v H3 ⟨rfl, u3⟩
    refine At.ordY (u2.trans u3) rfl (Yl.boolT (Yl.eqlArrB Tryd.underlying22 Tryd.underlying5 info5 bq5 eg22 rfl rfl) fun i hi => (byt_congr (rN_keccak true (lnN x 200)) hi).symm) rfl ?_
    refine At.ordNil (u2.trans u3) ?_
    repeat (first
      | refine At.yl (Yl.move rfl) rfl ?_
      | refine At.yl (Yl.assign rfl) rfl ?_
      | refine At.nil ?_
      | refine At.nmThen ?_
      | refine At.region ?_
      | refine At.seq ?_
      | refine At.block ?_
      | refine At.nmBlock ?_
      | refine At.skip ?_
      | refine At.exit ?_
      | refine At.exThen ?_
      | refine At.exHere ?_
      | refine At.exOther rfl ?_
      | refine At.retC ?_
      | refine At.rtThen ?_
      | refine At.rtBlock ?_
      | refine At.yl (Yl.nilCheck rfl) rfl ?_
      | refine At.yl (Yl.addI rfl rfl (by omega) (by omega)) rfl ?_
      | refine At.yl (Yl.subI rfl rfl (by omega) (by omega)) rfl ?_
      | refine At.yl (Yl.mulI rfl rfl (by omega) (by omega)) rfl ?_
      | refine At.yl (Yl.quoI rfl rfl (by omega) (by omega) (by omega)) rfl ?_
      | refine At.yl (Yl.remI rfl rfl (by omega) (by omega)) rfl ?_
      | refine At.yl (Yl.lss rfl rfl) rfl ?_
      | refine At.yl (Yl.gtr rfl rfl) rfl ?_
      | refine At.yl (Yl.leq rfl rfl) rfl ?_
      | refine At.yl (Yl.geq rfl rfl) rfl ?_
      | refine At.yl (Yl.eql rfl rfl) rfl ?_
      | refine At.yl (Yl.neq rfl rfl) rfl ?_
      | refine At.yl (Yl.xorU rfl rfl) rfl ?_
      | refine At.yl (Yl.orU rfl rfl) rfl ?_
      | refine At.yl (Yl.andU rfl rfl) rfl ?_
      | refine At.yl (Yl.notU rfl) rfl ?_
      | refine At.yl (Yl.xorB rfl rfl) rfl ?_
      | refine At.yl (Yl.convBU Tryd.underlying5 Tryd.underlying48 rfl) rfl ?_
      | refine At.yl (Yl.convUB Tryd.underlying48 Tryd.underlying5 rfl) rfl ?_
      | refine At.yl (Yl.lenSl Tryd.underlying28 rfl) rfl ?_)
    exact At.ret1 Tryd.results4 rfl ⟨rfl, u1.trans (u2.trans u3)⟩
end Go.Proofs.YtbnepbdlhpkiiaaDoor

