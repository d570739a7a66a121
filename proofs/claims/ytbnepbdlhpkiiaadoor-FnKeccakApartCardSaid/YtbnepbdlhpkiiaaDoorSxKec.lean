/- Keccak on bytes: the code's and the reference's. -/
import Derived.Test.YtbnepbdlhpkiiaaDoorSxLan
namespace Go.Proofs.YtbnepbdlhpkiiaaDoor
open Go.Sx
attribute [local irreducible] wpList Code.wp Exit.then Exit.inBlock bodyPost wpOrd Does At Yl Ef EfX arrU arrB arr keccak rd

set_option maxRecDepth 8000 in
set_option maxHeartbeats 4000000 in
/-- impl.Keccak -/
theorem ik_does (H : Array Obj) (x : Nat → BitVec 8) (turbo : Bool) (rcs : Nat → BitVec 64) {T' : TypeId} {fz : Nat × Nat} (hg : H[1]? = some (.cells (arrU 24 rcs) T' fz)) :
    Does Tryd.prog 12 #[.agg (arrB 200 x), .bool turbo] H (fun v H' => v = .agg (arrB 200 (byt (keccak rcs turbo (lnN x 200)))) ∧ Sub H H') := by
  have hg1 := lt_of_get hg
  refine Does.of_body (vs := [.agg (arrB 200 x), .bool turbo]) Tryd.func12 rfl Tryd.ntmps12 rfl fun w0 => ?_
  repeat (first
    | refine At.yl (Yl.move rfl) rfl ?_
    | refine At.yl (Yl.assign rfl) rfl ?_
    | refine At.nil ?_
    | refine At.nmThen ?_
    | refine At.region ?_
    | refine At.seq ?_
    | refine At.block ?_
    | refine At.nmBlock ?_
    | refine At.skip ?_
    | refine At.exit ?_
    | refine At.exThen ?_
    | refine At.exHere ?_
    | refine At.exOther rfl ?_
    | refine At.retC ?_
    | refine At.rtThen ?_
    | refine At.rtBlock ?_
    | refine At.yl (Yl.nilCheck rfl) rfl ?_
    | refine At.yl (Yl.addI rfl rfl (by omega) (by omega)) rfl ?_
    | refine At.yl (Yl.subI rfl rfl (by omega) (by omega)) rfl ?_
    | refine At.yl (Yl.mulI rfl rfl (by omega) (by omega)) rfl ?_
    | refine At.yl (Yl.quoI rfl rfl (by omega) (by omega) (by omega)) rfl ?_
    | refine At.yl (Yl.remI rfl rfl (by omega) (by omega)) rfl ?_
    | refine At.yl (Yl.lss rfl rfl) rfl ?_
    | refine At.yl (Yl.gtr rfl rfl) rfl ?_
    | refine At.yl (Yl.leq rfl rfl) rfl ?_
    | refine At.yl (Yl.geq rfl rfl) rfl ?_
    | refine At.yl (Yl.eql rfl rfl) rfl ?_
    | refine At.yl (Yl.neq rfl rfl) rfl ?_
    | refine At.yl (Yl.xorU rfl rfl) rfl ?_
    | refine At.yl (Yl.orU rfl rfl) rfl ?_
    | refine At.yl (Yl.andU rfl rfl) rfl ?_
    | refine At.yl (Yl.notU rfl) rfl ?_
    | refine At.yl (Yl.xorB rfl rfl) rfl ?_
    | refine At.yl (Yl.convBU Tryd.underlying5 Tryd.underlying48 rfl) rfl ?_
    | refine At.yl (Yl.convUB Tryd.underlying48 Tryd.underlying5 rfl) rfl ?_
    | refine At.yl (Yl.lenSl Tryd.underlying28 rfl) rfl ?_)
  refine At.new (Ef.box rfl) rfl fun ba H1 ea s1 u1 ga => ?_
  refine At.new (Ef.allocB info22 zero22) rfl fun br H2 er s2 u2 gr => ?_
  repeat (first
    | refine At.yl (Yl.move rfl) rfl ?_
    | refine At.yl (Yl.assign rfl) rfl ?_
    | refine At.nil ?_
    | refine At.nmThen ?_
    | refine At.region ?_
    | refine At.seq ?_
    | refine At.block ?_
    | refine At.nmBlock ?_
    | refine At.skip ?_
    | refine At.exit ?_
    | refine At.exThen ?_
    | refine At.exHere ?_
    | refine At.exOther rfl ?_
    | refine At.retC ?_
    | refine At.rtThen ?_
    | refine At.rtBlock ?_
    | refine At.yl (Yl.nilCheck rfl) rfl ?_
    | refine At.yl (Yl.addI rfl rfl (by omega) (by omega)) rfl ?_
    | refine At.yl (Yl.subI rfl rfl (by omega) (by omega)) rfl ?_
    | refine At.yl (Yl.mulI rfl rfl (by omega) (by omega)) rfl ?_
    | refine At.yl (Yl.quoI rfl rfl (by omega) (by omega) (by omega)) rfl ?_
    | refine At.yl (Yl.remI rfl rfl (by omega) (by omega)) rfl ?_
    | refine At.yl (Yl.lss rfl rfl) rfl ?_
    | refine At.yl (Yl.gtr rfl rfl) rfl ?_
    | refine At.yl (Yl.leq rfl rfl) rfl ?_
    | refine At.yl (Yl.geq rfl rfl) rfl ?_
    | refine At.yl (Yl.eql rfl rfl) rfl ?_
    | refine At.yl (Yl.neq rfl rfl) rfl ?_
    | refine At.yl (Yl.xorU rfl rfl) rfl ?_
    | refine At.yl (Yl.orU rfl rfl) rfl ?_
    | refine At.yl (Yl.andU rfl rfl) rfl ?_
    | refine At.yl (Yl.notU rfl) rfl ?_
    | refine At.yl (Yl.xorB rfl rfl) rfl ?_
    | refine At.yl (Yl.convBU Tryd.underlying5 Tryd.underlying48 rfl) rfl ?_
    | refine At.yl (Yl.convUB Tryd.underlying48 Tryd.underlying5 rfl) rfl ?_
    | refine At.yl (Yl.lenSl Tryd.underlying28 rfl) rfl ?_)
  refine At.new (Ef.allocU info52 zero52) rfl fun bc H3 ec s3 u3 gc => ?_
  have ga4 := u3.get (u2.get ga)
  have gr4 := u3.get gr
  have u4 : Sub H H3 := u1.trans (u2.trans u3)
  have hba : ba ≠ br ∧ ba ≠ bc ∧ br ≠ bc ∧ H.size ≤ ba ∧ H.size ≤ br ∧ H.size ≤ bc := by omega
  clear ga gr u3 u2 u1
  repeat (first
    | refine At.yl (Yl.move rfl) rfl ?_
    | refine At.yl (Yl.assign rfl) rfl ?_
    | refine At.nil ?_
    | refine At.nmThen ?_
    | refine At.region ?_
    | refine At.seq ?_
    | refine At.block ?_
    | refine At.nmBlock ?_
    | refine At.skip ?_
    | refine At.exit ?_
    | refine At.exThen ?_
    | refine At.exHere ?_
    | refine At.exOther rfl ?_
    | refine At.retC ?_
    | refine At.rtThen ?_
    | refine At.rtBlock ?_
    | refine At.yl (Yl.nilCheck rfl) rfl ?_
    | refine At.yl (Yl.addI rfl rfl (by omega) (by omega)) rfl ?_
    | refine At.yl (Yl.subI rfl rfl (by omega) (by omega)) rfl ?_
    | refine At.yl (Yl.mulI rfl rfl (by omega) (by omega)) rfl ?_
    | refine At.yl (Yl.quoI rfl rfl (by omega) (by omega) (by omega)) rfl ?_
    | refine At.yl (Yl.remI rfl rfl (by omega) (by omega)) rfl ?_
    | refine At.yl (Yl.lss rfl rfl) rfl ?_
    | refine At.yl (Yl.gtr rfl rfl) rfl ?_
    | refine At.yl (Yl.leq rfl rfl) rfl ?_
    | refine At.yl (Yl.geq rfl rfl) rfl ?_
    | refine At.yl (Yl.eql rfl rfl) rfl ?_
    | refine At.yl (Yl.neq rfl rfl) rfl ?_
    | refine At.yl (Yl.xorU rfl rfl) rfl ?_
    | refine At.yl (Yl.orU rfl rfl) rfl ?_
    | refine At.yl (Yl.andU rfl rfl) rfl ?_
    | refine At.yl (Yl.notU rfl) rfl ?_
    | refine At.yl (Yl.xorB rfl rfl) rfl ?_
    | refine At.yl (Yl.convBU Tryd.underlying5 Tryd.underlying48 rfl) rfl ?_
    | refine At.yl (Yl.convUB Tryd.underlying48 Tryd.underlying5 rfl) rfl ?_
    | refine At.yl (Yl.lenSl Tryd.underlying28 rfl) rfl ?_)
  refine At.yl (Yl.loadWB Tryd.underlying22 rfl info22 bq22 rfl ga4) rfl ?_
  repeat (first
    | refine At.yl (Yl.move rfl) rfl ?_
    | refine At.yl (Yl.assign rfl) rfl ?_
    | refine At.nil ?_
    | refine At.nmThen ?_
    | refine At.region ?_
    | refine At.seq ?_
    | refine At.block ?_
    | refine At.nmBlock ?_
    | refine At.skip ?_
    | refine At.exit ?_
    | refine At.exThen ?_
    | refine At.exHere ?_
    | refine At.exOther rfl ?_
    | refine At.retC ?_
    | refine At.rtThen ?_
    | refine At.rtBlock ?_
    | refine At.yl (Yl.nilCheck rfl) rfl ?_
    | refine At.yl (Yl.addI rfl rfl (by omega) (by omega)) rfl ?_
    | refine At.yl (Yl.subI rfl rfl (by omega) (by omega)) rfl ?_
    | refine At.yl (Yl.mulI rfl rfl (by omega) (by omega)) rfl ?_
    | refine At.yl (Yl.quoI rfl rfl (by omega) (by omega) (by omega)) rfl ?_
    | refine At.yl (Yl.remI rfl rfl (by omega) (by omega)) rfl ?_
    | refine At.yl (Yl.lss rfl rfl) rfl ?_
    | refine At.yl (Yl.gtr rfl rfl) rfl ?_
    | refine At.yl (Yl.leq rfl rfl) rfl ?_
    | refine At.yl (Yl.geq rfl rfl) rfl ?_
    | refine At.yl (Yl.eql rfl rfl) rfl ?_
    | refine At.yl (Yl.neq rfl rfl) rfl ?_
    | refine At.yl (Yl.xorU rfl rfl) rfl ?_
    | refine At.yl (Yl.orU rfl rfl) rfl ?_
    | refine At.yl (Yl.andU rfl rfl) rfl ?_
    | refine At.yl (Yl.notU rfl) rfl ?_
    | refine At.yl (Yl.xorB rfl rfl) rfl ?_
    | refine At.yl (Yl.convBU Tryd.underlying5 Tryd.underlying48 rfl) rfl ?_
    | refine At.yl (Yl.convUB Tryd.underlying48 Tryd.underlying5 rfl) rfl ?_
    | refine At.yl (Yl.lenSl Tryd.underlying28 rfl) rfl ?_)
  refine At.loop (σ := Nat × Array Obj) (fun σ => [(1, .bool turbo), (2, ptr ba 0), (4, ptr br 0), (5, ptr bc 0), (9, .agg (arrB 200 x)), (10, I σ.1)]) (fun σ => σ.2)
    (fun σ => σ.1 ≤ 200 ∧ σ.2.size = H3.size ∧ Sub H σ.2 ∧ σ.2[ba]? = some (cellsOf (arrB 200 x) 22) ∧ σ.2[br]? = some (cellsOf (arrB 200 fun _ => 0) 22) ∧ σ.2[bc]? = some (cellsOf (arrU 25 (lnN x σ.1)) 52))
    (fun σ => 200 - σ.1) (0, H3) ⟨by simp only; omega, rfl, u4, ga4, gr4, gc⟩ (Sb.cons rfl (Sb.cons rfl (Sb.cons rfl (Sb.cons rfl (Sb.cons rfl (Sb.cons rfl (Sb.nil))))))) rfl ?_
  clear ga4 gr4 u4 ea er ec s1 s2
  rintro ⟨k, H5⟩ ⟨hk, s5, u5, ga, gr, gc⟩
  simp only at hk s5 u5 ga gr gc ⊢
  repeat (first
    | refine At.yl (Yl.move rfl) rfl ?_
    | refine At.yl (Yl.assign rfl) rfl ?_
    | refine At.nil ?_
    | refine At.nmThen ?_
    | refine At.region ?_
    | refine At.seq ?_
    | refine At.block ?_
    | refine At.nmBlock ?_
    | refine At.skip ?_
    | refine At.exit ?_
    | refine At.exThen ?_
    | refine At.exHere ?_
    | refine At.exOther rfl ?_
    | refine At.retC ?_
    | refine At.rtThen ?_
    | refine At.rtBlock ?_
    | refine At.yl (Yl.nilCheck rfl) rfl ?_
    | refine At.yl (Yl.addI rfl rfl (by omega) (by omega)) rfl ?_
    | refine At.yl (Yl.subI rfl rfl (by omega) (by omega)) rfl ?_
    | refine At.yl (Yl.mulI rfl rfl (by omega) (by omega)) rfl ?_
    | refine At.yl (Yl.quoI rfl rfl (by omega) (by omega) (by omega)) rfl ?_
    | refine At.yl (Yl.remI rfl rfl (by omega) (by omega)) rfl ?_
    | refine At.yl (Yl.lss rfl rfl) rfl ?_
    | refine At.yl (Yl.gtr rfl rfl) rfl ?_
    | refine At.yl (Yl.leq rfl rfl) rfl ?_
    | refine At.yl (Yl.geq rfl rfl) rfl ?_
    | refine At.yl (Yl.eql rfl rfl) rfl ?_
    | refine At.yl (Yl.neq rfl rfl) rfl ?_
    | refine At.yl (Yl.xorU rfl rfl) rfl ?_
    | refine At.yl (Yl.orU rfl rfl) rfl ?_
    | refine At.yl (Yl.andU rfl rfl) rfl ?_
    | refine At.yl (Yl.notU rfl) rfl ?_
    | refine At.yl (Yl.xorB rfl rfl) rfl ?_
    | refine At.yl (Yl.convBU Tryd.underlying5 Tryd.underlying48 rfl) rfl ?_
    | refine At.yl (Yl.convUB Tryd.underlying48 Tryd.underlying5 rfl) rfl ?_
    | refine At.yl (Yl.lenSl Tryd.underlying28 rfl) rfl ?_)
  by_cases hlt : k < 200
  · refine At.condDT rfl (by omega) ?_
    repeat (first
      | refine At.yl (Yl.move rfl) rfl ?_
      | refine At.yl (Yl.assign rfl) rfl ?_
      | refine At.nil ?_
      | refine At.nmThen ?_
      | refine At.region ?_
      | refine At.seq ?_
      | refine At.block ?_
      | refine At.nmBlock ?_
      | refine At.skip ?_
      | refine At.exit ?_
      | refine At.exThen ?_
      | refine At.exHere ?_
      | refine At.exOther rfl ?_
      | refine At.retC ?_
      | refine At.rtThen ?_
      | refine At.rtBlock ?_
      | refine At.yl (Yl.nilCheck rfl) rfl ?_
      | refine At.yl (Yl.addI rfl rfl (by omega) (by omega)) rfl ?_
      | refine At.yl (Yl.subI rfl rfl (by omega) (by omega)) rfl ?_
      | refine At.yl (Yl.mulI rfl rfl (by omega) (by omega)) rfl ?_
      | refine At.yl (Yl.quoI rfl rfl (by omega) (by omega) (by omega)) rfl ?_
      | refine At.yl (Yl.remI rfl rfl (by omega) (by omega)) rfl ?_
      | refine At.yl (Yl.lss rfl rfl) rfl ?_
      | refine At.yl (Yl.gtr rfl rfl) rfl ?_
      | refine At.yl (Yl.leq rfl rfl) rfl ?_
      | refine At.yl (Yl.geq rfl rfl) rfl ?_
      | refine At.yl (Yl.eql rfl rfl) rfl ?_
      | refine At.yl (Yl.neq rfl rfl) rfl ?_
      | refine At.yl (Yl.xorU rfl rfl) rfl ?_
      | refine At.yl (Yl.orU rfl rfl) rfl ?_
      | refine At.yl (Yl.andU rfl rfl) rfl ?_
      | refine At.yl (Yl.notU rfl) rfl ?_
      | refine At.yl (Yl.xorB rfl rfl) rfl ?_
      | refine At.yl (Yl.convBU Tryd.underlying5 Tryd.underlying48 rfl) rfl ?_
      | refine At.yl (Yl.convUB Tryd.underlying48 Tryd.underlying5 rfl) rfl ?_
      | refine At.yl (Yl.lenSl Tryd.underlying28 rfl) rfl ?_)
    refine At.yl (Yl.index Tryd.underlying22 Tryd.underlying5 rfl info5 bq5 rfl rfl rfl hlt (arrB_get _ hlt)) rfl ?_
    repeat (first
      | refine At.yl (Yl.move rfl) rfl ?_
      | refine At.yl (Yl.assign rfl) rfl ?_
      | refine At.nil ?_
      | refine At.nmThen ?_
      | refine At.region ?_
      | refine At.seq ?_
      | refine At.block ?_
      | refine At.nmBlock ?_
      | refine At.skip ?_
      | refine At.exit ?_
      | refine At.exThen ?_
      | refine At.exHere ?_
      | refine At.exOther rfl ?_
      | refine At.retC ?_
      | refine At.rtThen ?_
      | refine At.rtBlock ?_
      | refine At.yl (Yl.nilCheck rfl) rfl ?_
      | refine At.yl (Yl.addI rfl rfl (by omega) (by omega)) rfl ?_
      | refine At.yl (Yl.subI rfl rfl (by omega) (by omega)) rfl ?_
      | refine At.yl (Yl.mulI rfl rfl (by omega) (by omega)) rfl ?_
      | refine At.yl (Yl.quoI rfl rfl (by omega) (by omega) (by omega)) rfl ?_
      | refine At.yl (Yl.remI rfl rfl (by omega) (by omega)) rfl ?_
      | refine At.yl (Yl.lss rfl rfl) rfl ?_
      | refine At.yl (Yl.gtr rfl rfl) rfl ?_
      | refine At.yl (Yl.leq rfl rfl) rfl ?_
      | refine At.yl (Yl.geq rfl rfl) rfl ?_
      | refine At.yl (Yl.eql rfl rfl) rfl ?_
      | refine At.yl (Yl.neq rfl rfl) rfl ?_
      | refine At.yl (Yl.xorU rfl rfl) rfl ?_
      | refine At.yl (Yl.orU rfl rfl) rfl ?_
      | refine At.yl (Yl.andU rfl rfl) rfl ?_
      | refine At.yl (Yl.notU rfl) rfl ?_
      | refine At.yl (Yl.xorB rfl rfl) rfl ?_
      | refine At.yl (Yl.convBU Tryd.underlying5 Tryd.underlying48 rfl) rfl ?_
      | refine At.yl (Yl.convUB Tryd.underlying48 Tryd.underlying5 rfl) rfl ?_
      | refine At.yl (Yl.lenSl Tryd.underlying28 rfl) rfl ?_)
    refine At.draws 12 (ordFrom 0 12) rfl (by decide +kernel) (by repeat (first | exact QP.body _ _ _ | refine QP.thn ?_ | refine QP.blk ?_)) ?_
    show At _ _ _ _ (wpOrd _ _ _ _ _ [(0, false), (1, false), (2, false), (3, false), (4, false), (5, false), (6, false), (7, false), (8, false), (9, false), (10, false), (11, false)])
    repeat (first
      | refine At.ordY (Sub.refl _) rfl (Yl.move rfl) rfl ?_
      | refine At.ordY (Sub.refl _) rfl (Yl.assign rfl) rfl ?_
      | refine At.ordY (Sub.refl _) rfl (Yl.nilCheck rfl) rfl ?_
      | refine At.ordY (Sub.refl _) rfl (Yl.addI rfl rfl (by omega) (by omega)) rfl ?_
      | refine At.ordY (Sub.refl _) rfl (Yl.subI rfl rfl (by omega) (by omega)) rfl ?_
      | refine At.ordY (Sub.refl _) rfl (Yl.mulI rfl rfl (by omega) (by omega)) rfl ?_
      | refine At.ordY (Sub.refl _) rfl (Yl.quoI rfl rfl (by omega) (by omega) (by omega)) rfl ?_
      | refine At.ordY (Sub.refl _) rfl (Yl.remI rfl rfl (by omega) (by omega)) rfl ?_
      | refine At.ordY (Sub.refl _) rfl (Yl.lss rfl rfl) rfl ?_
      | refine At.ordY (Sub.refl _) rfl (Yl.gtr rfl rfl) rfl ?_
      | refine At.ordY (Sub.refl _) rfl (Yl.leq rfl rfl) rfl ?_
      | refine At.ordY (Sub.refl _) rfl (Yl.geq rfl rfl) rfl ?_
      | refine At.ordY (Sub.refl _) rfl (Yl.eql rfl rfl) rfl ?_
      | refine At.ordY (Sub.refl _) rfl (Yl.neq rfl rfl) rfl ?_
      | refine At.ordY (Sub.refl _) rfl (Yl.xorU rfl rfl) rfl ?_
      | refine At.ordY (Sub.refl _) rfl (Yl.orU rfl rfl) rfl ?_
      | refine At.ordY (Sub.refl _) rfl (Yl.andU rfl rfl) rfl ?_
      | refine At.ordY (Sub.refl _) rfl (Yl.notU rfl) rfl ?_
      | refine At.ordY (Sub.refl _) rfl (Yl.xorB rfl rfl) rfl ?_
      | refine At.ordY (Sub.refl _) rfl (Yl.convBU Tryd.underlying5 Tryd.underlying48 rfl) rfl ?_
      | refine At.ordY (Sub.refl _) rfl (Yl.convUB Tryd.underlying48 Tryd.underlying5 rfl) rfl ?_
      | refine At.ordY (Sub.refl _) rfl (Yl.lenSl Tryd.underlying28 rfl) rfl ?_)
    refine At.ordY (Sub.refl _) rfl (Yl.indexArr (i := k / 8) Tryd.underlying52 info48 bq48 rfl rfl (by omega) (by omega)) rfl ?_
    refine At.ordY (Sub.refl _) rfl (Yl.loadU Tryd.underlying48 rfl gc rfl (by omega)) rfl ?_
    repeat (first
      | refine At.ordY (Sub.refl _) rfl (Yl.move rfl) rfl ?_
      | refine At.ordY (Sub.refl _) rfl (Yl.assign rfl) rfl ?_
      | refine At.ordY (Sub.refl _) rfl (Yl.nilCheck rfl) rfl ?_
      | refine At.ordY (Sub.refl _) rfl (Yl.addI rfl rfl (by omega) (by omega)) rfl ?_
      | refine At.ordY (Sub.refl _) rfl (Yl.subI rfl rfl (by omega) (by omega)) rfl ?_
      | refine At.ordY (Sub.refl _) rfl (Yl.mulI rfl rfl (by omega) (by omega)) rfl ?_
      | refine At.ordY (Sub.refl _) rfl (Yl.quoI rfl rfl (by omega) (by omega) (by omega)) rfl ?_
      | refine At.ordY (Sub.refl _) rfl (Yl.remI rfl rfl (by omega) (by omega)) rfl ?_
      | refine At.ordY (Sub.refl _) rfl (Yl.lss rfl rfl) rfl ?_
      | refine At.ordY (Sub.refl _) rfl (Yl.gtr rfl rfl) rfl ?_
      | refine At.ordY (Sub.refl _) rfl (Yl.leq rfl rfl) rfl ?_
      | refine At.ordY (Sub.refl _) rfl (Yl.geq rfl rfl) rfl ?_
      | refine At.ordY (Sub.refl _) rfl (Yl.eql rfl rfl) rfl ?_
      | refine At.ordY (Sub.refl _) rfl (Yl.neq rfl rfl) rfl ?_
      | refine At.ordY (Sub.refl _) rfl (Yl.xorU rfl rfl) rfl ?_
      | refine At.ordY (Sub.refl _) rfl (Yl.orU rfl rfl) rfl ?_
      | refine At.ordY (Sub.refl _) rfl (Yl.andU rfl rfl) rfl ?_
      | refine At.ordY (Sub.refl _) rfl (Yl.notU rfl) rfl ?_
      | refine At.ordY (Sub.refl _) rfl (Yl.xorB rfl rfl) rfl ?_
      | refine At.ordY (Sub.refl _) rfl (Yl.convBU Tryd.underlying5 Tryd.underlying48 rfl) rfl ?_
      | refine At.ordY (Sub.refl _) rfl (Yl.convUB Tryd.underlying48 Tryd.underlying5 rfl) rfl ?_
      | refine At.ordY (Sub.refl _) rfl (Yl.lenSl Tryd.underlying28 rfl) rfl ?_)
    refine At.ordY (Sub.refl _) rfl (Yl.shlU (m := 8 * (k % 8)) rfl rfl (by omega)) rfl ?_
    repeat (first
      | refine At.ordY (Sub.refl _) rfl (Yl.move rfl) rfl ?_
      | refine At.ordY (Sub.refl _) rfl (Yl.assign rfl) rfl ?_
      | refine At.ordY (Sub.refl _) rfl (Yl.nilCheck rfl) rfl ?_
      | refine At.ordY (Sub.refl _) rfl (Yl.addI rfl rfl (by omega) (by omega)) rfl ?_
      | refine At.ordY (Sub.refl _) rfl (Yl.subI rfl rfl (by omega) (by omega)) rfl ?_
      | refine At.ordY (Sub.refl _) rfl (Yl.mulI rfl rfl (by omega) (by omega)) rfl ?_
      | refine At.ordY (Sub.refl _) rfl (Yl.quoI rfl rfl (by omega) (by omega) (by omega)) rfl ?_
      | refine At.ordY (Sub.refl _) rfl (Yl.remI rfl rfl (by omega) (by omega)) rfl ?_
      | refine At.ordY (Sub.refl _) rfl (Yl.lss rfl rfl) rfl ?_
      | refine At.ordY (Sub.refl _) rfl (Yl.gtr rfl rfl) rfl ?_
      | refine At.ordY (Sub.refl _) rfl (Yl.leq rfl rfl) rfl ?_
      | refine At.ordY (Sub.refl _) rfl (Yl.geq rfl rfl) rfl ?_
      | refine At.ordY (Sub.refl _) rfl (Yl.eql rfl rfl) rfl ?_
      | refine At.ordY (Sub.refl _) rfl (Yl.neq rfl rfl) rfl ?_
      | refine At.ordY (Sub.refl _) rfl (Yl.xorU rfl rfl) rfl ?_
      | refine At.ordY (Sub.refl _) rfl (Yl.orU rfl rfl) rfl ?_
      | refine At.ordY (Sub.refl _) rfl (Yl.andU rfl rfl) rfl ?_
      | refine At.ordY (Sub.refl _) rfl (Yl.notU rfl) rfl ?_
      | refine At.ordY (Sub.refl _) rfl (Yl.xorB rfl rfl) rfl ?_
      | refine At.ordY (Sub.refl _) rfl (Yl.convBU Tryd.underlying5 Tryd.underlying48 rfl) rfl ?_
      | refine At.ordY (Sub.refl _) rfl (Yl.convUB Tryd.underlying48 Tryd.underlying5 rfl) rfl ?_
      | refine At.ordY (Sub.refl _) rfl (Yl.lenSl Tryd.underlying28 rfl) rfl ?_)
    refine At.ordY (Sub.refl _) rfl (Yl.indexArr (i := k / 8) Tryd.underlying52 info48 bq48 rfl rfl (by omega) (by omega)) rfl ?_
    refine At.ordNil (Sub.refl _) ?_
    refine At.put (Ef.storeU info48 bq48 gc rfl rfl (by omega)) gc fun H6 s6 o6 gc => ?_
    repeat (first
      | refine At.yl (Yl.move rfl) rfl ?_
      | refine At.yl (Yl.assign rfl) rfl ?_
      | refine At.nil ?_
      | refine At.nmThen ?_
      | refine At.region ?_
      | refine At.seq ?_
      | refine At.block ?_
      | refine At.nmBlock ?_
      | refine At.skip ?_
      | refine At.exit ?_
      | refine At.exThen ?_
      | refine At.exHere ?_
      | refine At.exOther rfl ?_
      | refine At.retC ?_
      | refine At.rtThen ?_
      | refine At.rtBlock ?_
      | refine At.yl (Yl.nilCheck rfl) rfl ?_
      | refine At.yl (Yl.addI rfl rfl (by omega) (by omega)) rfl ?_
      | refine At.yl (Yl.subI rfl rfl (by omega) (by omega)) rfl ?_
      | refine At.yl (Yl.mulI rfl rfl (by omega) (by omega)) rfl ?_
      | refine At.yl (Yl.quoI rfl rfl (by omega) (by omega) (by omega)) rfl ?_
      | refine At.yl (Yl.remI rfl rfl (by omega) (by omega)) rfl ?_
      | refine At.yl (Yl.lss rfl rfl) rfl ?_
      | refine At.yl (Yl.gtr rfl rfl) rfl ?_
      | refine At.yl (Yl.leq rfl rfl) rfl ?_
      | refine At.yl (Yl.geq rfl rfl) rfl ?_
      | refine At.yl (Yl.eql rfl rfl) rfl ?_
      | refine At.yl (Yl.neq rfl rfl) rfl ?_
      | refine At.yl (Yl.xorU rfl rfl) rfl ?_
      | refine At.yl (Yl.orU rfl rfl) rfl ?_
      | refine At.yl (Yl.andU rfl rfl) rfl ?_
      | refine At.yl (Yl.notU rfl) rfl ?_
      | refine At.yl (Yl.xorB rfl rfl) rfl ?_
      | refine At.yl (Yl.convBU Tryd.underlying5 Tryd.underlying48 rfl) rfl ?_
      | refine At.yl (Yl.convUB Tryd.underlying48 Tryd.underlying5 rfl) rfl ?_
      | refine At.yl (Yl.lenSl Tryd.underlying28 rfl) rfl ?_)
    exact At.round (k + 1, H6) ⟨by simp only; omega, by simp only; omega, u5.put o6 (by omega), o6.ne ga (by omega), o6.ne gr (by omega), gc⟩ (by simp only; omega) (Sb.cons rfl (Sb.cons rfl (Sb.cons rfl (Sb.cons rfl (Sb.cons rfl (Sb.cons rfl (Sb.nil))))))) rfl
  refine At.condDF rfl (by omega) ?_
  have hk25 : k = 200 := by omega
  subst hk25
  generalize lnN x 200 = c at gc ⊢
  repeat (first
    | refine At.yl (Yl.move rfl) rfl ?_
    | refine At.yl (Yl.assign rfl) rfl ?_
    | refine At.nil ?_
    | refine At.nmThen ?_
    | refine At.region ?_
    | refine At.seq ?_
    | refine At.block ?_
    | refine At.nmBlock ?_
    | refine At.skip ?_
    | refine At.exit ?_
    | refine At.exThen ?_
    | refine At.exHere ?_
    | refine At.exOther rfl ?_
    | refine At.retC ?_
    | refine At.rtThen ?_
    | refine At.rtBlock ?_
    | refine At.yl (Yl.nilCheck rfl) rfl ?_
    | refine At.yl (Yl.addI rfl rfl (by omega) (by omega)) rfl ?_
    | refine At.yl (Yl.subI rfl rfl (by omega) (by omega)) rfl ?_
    | refine At.yl (Yl.mulI rfl rfl (by omega) (by omega)) rfl ?_
    | refine At.yl (Yl.quoI rfl rfl (by omega) (by omega) (by omega)) rfl ?_
    | refine At.yl (Yl.remI rfl rfl (by omega) (by omega)) rfl ?_
    | refine At.yl (Yl.lss rfl rfl) rfl ?_
    | refine At.yl (Yl.gtr rfl rfl) rfl ?_
    | refine At.yl (Yl.leq rfl rfl) rfl ?_
    | refine At.yl (Yl.geq rfl rfl) rfl ?_
    | refine At.yl (Yl.eql rfl rfl) rfl ?_
    | refine At.yl (Yl.neq rfl rfl) rfl ?_
    | refine At.yl (Yl.xorU rfl rfl) rfl ?_
    | refine At.yl (Yl.orU rfl rfl) rfl ?_
    | refine At.yl (Yl.andU rfl rfl) rfl ?_
    | refine At.yl (Yl.notU rfl) rfl ?_
    | refine At.yl (Yl.xorB rfl rfl) rfl ?_
    | refine At.yl (Yl.convBU Tryd.underlying5 Tryd.underlying48 rfl) rfl ?_
    | refine At.yl (Yl.convUB Tryd.underlying48 Tryd.underlying5 rfl) rfl ?_
    | refine At.yl (Yl.lenSl Tryd.underlying28 rfl) rfl ?_)
  refine At.yl (Yl.loadWU Tryd.underlying52 rfl info52 bq52 rfl gc) rfl ?_
  repeat (first
    | refine At.yl (Yl.move rfl) rfl ?_
    | refine At.yl (Yl.assign rfl) rfl ?_
    | refine At.nil ?_
    | refine At.nmThen ?_
    | refine At.region ?_
    | refine At.seq ?_
    | refine At.block ?_
    | refine At.nmBlock ?_
    | refine At.skip ?_
    | refine At.exit ?_
    | refine At.exThen ?_
    | refine At.exHere ?_
    | refine At.exOther rfl ?_
    | refine At.retC ?_
    | refine At.rtThen ?_
    | refine At.rtBlock ?_
    | refine At.yl (Yl.nilCheck rfl) rfl ?_
    | refine At.yl (Yl.addI rfl rfl (by omega) (by omega)) rfl ?_
    | refine At.yl (Yl.subI rfl rfl (by omega) (by omega)) rfl ?_
    | refine At.yl (Yl.mulI rfl rfl (by omega) (by omega)) rfl ?_
    | refine At.yl (Yl.quoI rfl rfl (by omega) (by omega) (by omega)) rfl ?_
    | refine At.yl (Yl.remI rfl rfl (by omega) (by omega)) rfl ?_
    | refine At.yl (Yl.lss rfl rfl) rfl ?_
    | refine At.yl (Yl.gtr rfl rfl) rfl ?_
    | refine At.yl (Yl.leq rfl rfl) rfl ?_
    | refine At.yl (Yl.geq rfl rfl) rfl ?_
    | refine At.yl (Yl.eql rfl rfl) rfl ?_
    | refine At.yl (Yl.neq rfl rfl) rfl ?_
    | refine At.yl (Yl.xorU rfl rfl) rfl ?_
    | refine At.yl (Yl.orU rfl rfl) rfl ?_
    | refine At.yl (Yl.andU rfl rfl) rfl ?_
    | refine At.yl (Yl.notU rfl) rfl ?_
    | refine At.yl (Yl.xorB rfl rfl) rfl ?_
    | refine At.yl (Yl.convBU Tryd.underlying5 Tryd.underlying48 rfl) rfl ?_
    | refine At.yl (Yl.convUB Tryd.underlying48 Tryd.underlying5 rfl) rfl ?_
    | refine At.yl (Yl.lenSl Tryd.underlying28 rfl) rfl ?_)
  refine At.call Tryd.call27 rfl rfl (zk_does _ _ turbo rcs (u5.get hg)) ?_
  rintro v H6 ⟨rfl, u6⟩
  have hs6 := u6.size
  have ga := u6.get ga
  have gr := u6.get gr
  have gc := u6.get gc
  generalize keccak rcs turbo c = d
  refine At.put (Ef.storeWU info52 bq52 rfl rfl gc) gc fun H7 s7 o7 gc => ?_
  have ga := o7.ne ga (by omega)
  have gr := o7.ne gr (by omega)
  have u7 : Sub H H7 := (u5.trans u6).put o7 (by omega)
  clear u5 u6 o7 hk hlt
  repeat (first
    | refine At.yl (Yl.move rfl) rfl ?_
    | refine At.yl (Yl.assign rfl) rfl ?_
    | refine At.nil ?_
    | refine At.nmThen ?_
    | refine At.region ?_
    | refine At.seq ?_
    | refine At.block ?_
    | refine At.nmBlock ?_
    | refine At.skip ?_
    | refine At.exit ?_
    | refine At.exThen ?_
    | refine At.exHere ?_
    | refine At.exOther rfl ?_
    | refine At.retC ?_
    | refine At.rtThen ?_
    | refine At.rtBlock ?_
    | refine At.yl (Yl.nilCheck rfl) rfl ?_
    | refine At.yl (Yl.addI rfl rfl (by omega) (by omega)) rfl ?_
    | refine At.yl (Yl.subI rfl rfl (by omega) (by omega)) rfl ?_
    | refine At.yl (Yl.mulI rfl rfl (by omega) (by omega)) rfl ?_
    | refine At.yl (Yl.quoI rfl rfl (by omega) (by omega) (by omega)) rfl ?_
    | refine At.yl (Yl.remI rfl rfl (by omega) (by omega)) rfl ?_
    | refine At.yl (Yl.lss rfl rfl) rfl ?_
    | refine At.yl (Yl.gtr rfl rfl) rfl ?_
    | refine At.yl (Yl.leq rfl rfl) rfl ?_
    | refine At.yl (Yl.geq rfl rfl) rfl ?_
    | refine At.yl (Yl.eql rfl rfl) rfl ?_
    | refine At.yl (Yl.neq rfl rfl) rfl ?_
    | refine At.yl (Yl.xorU rfl rfl) rfl ?_
    | refine At.yl (Yl.orU rfl rfl) rfl ?_
    | refine At.yl (Yl.andU rfl rfl) rfl ?_
    | refine At.yl (Yl.notU rfl) rfl ?_
    | refine At.yl (Yl.xorB rfl rfl) rfl ?_
    | refine At.yl (Yl.convBU Tryd.underlying5 Tryd.underlying48 rfl) rfl ?_
    | refine At.yl (Yl.convUB Tryd.underlying48 Tryd.underlying5 rfl) rfl ?_
    | refine At.yl (Yl.lenSl Tryd.underlying28 rfl) rfl ?_)
  refine At.loop (σ := Nat × Array Obj) (fun σ => [(2, ptr ba 0), (4, ptr br 0), (5, ptr bc 0), (30, I σ.1)]) (fun σ => σ.2)
    (fun σ => σ.1 ≤ 200 ∧ σ.2.size = H7.size ∧ Sub H σ.2 ∧ σ.2[ba]? = some (cellsOf (arrB 200 (byN x d σ.1)) 22) ∧ σ.2[br]? = some (cellsOf (arrB 200 fun _ => 0) 22) ∧ σ.2[bc]? = some (cellsOf (arrU 25 d) 52))
    (fun σ => 200 - σ.1) (0, H7) ⟨by simp only; omega, rfl, u7, ga, gr, gc⟩ (Sb.cons rfl (Sb.cons rfl (Sb.cons rfl (Sb.cons rfl (Sb.nil))))) rfl ?_
  clear ga gr gc u7
  rintro ⟨k, H8⟩ ⟨hk, s8, u8, ga, gr, gc⟩
  simp only at hk s8 u8 ga gr gc ⊢
  repeat (first
    | refine At.yl (Yl.move rfl) rfl ?_
    | refine At.yl (Yl.assign rfl) rfl ?_
    | refine At.nil ?_
    | refine At.nmThen ?_
    | refine At.region ?_
    | refine At.seq ?_
    | refine At.block ?_
    | refine At.nmBlock ?_
    | refine At.skip ?_
    | refine At.exit ?_
    | refine At.exThen ?_
    | refine At.exHere ?_
    | refine At.exOther rfl ?_
    | refine At.retC ?_
    | refine At.rtThen ?_
    | refine At.rtBlock ?_
    | refine At.yl (Yl.nilCheck rfl) rfl ?_
    | refine At.yl (Yl.addI rfl rfl (by omega) (by omega)) rfl ?_
    | refine At.yl (Yl.subI rfl rfl (by omega) (by omega)) rfl ?_
    | refine At.yl (Yl.mulI rfl rfl (by omega) (by omega)) rfl ?_
    | refine At.yl (Yl.quoI rfl rfl (by omega) (by omega) (by omega)) rfl ?_
    | refine At.yl (Yl.remI rfl rfl (by omega) (by omega)) rfl ?_
    | refine At.yl (Yl.lss rfl rfl) rfl ?_
    | refine At.yl (Yl.gtr rfl rfl) rfl ?_
    | refine At.yl (Yl.leq rfl rfl) rfl ?_
    | refine At.yl (Yl.geq rfl rfl) rfl ?_
    | refine At.yl (Yl.eql rfl rfl) rfl ?_
    | refine At.yl (Yl.neq rfl rfl) rfl ?_
    | refine At.yl (Yl.xorU rfl rfl) rfl ?_
    | refine At.yl (Yl.orU rfl rfl) rfl ?_
    | refine At.yl (Yl.andU rfl rfl) rfl ?_
    | refine At.yl (Yl.notU rfl) rfl ?_
    | refine At.yl (Yl.xorB rfl rfl) rfl ?_
    | refine At.yl (Yl.convBU Tryd.underlying5 Tryd.underlying48 rfl) rfl ?_
    | refine At.yl (Yl.convUB Tryd.underlying48 Tryd.underlying5 rfl) rfl ?_
    | refine At.yl (Yl.lenSl Tryd.underlying28 rfl) rfl ?_)
  by_cases hlt : k < 200
  · refine At.condDT rfl (by omega) ?_
    repeat (first
      | refine At.yl (Yl.move rfl) rfl ?_
      | refine At.yl (Yl.assign rfl) rfl ?_
      | refine At.nil ?_
      | refine At.nmThen ?_
      | refine At.region ?_
      | refine At.seq ?_
      | refine At.block ?_
      | refine At.nmBlock ?_
      | refine At.skip ?_
      | refine At.exit ?_
      | refine At.exThen ?_
      | refine At.exHere ?_
      | refine At.exOther rfl ?_
      | refine At.retC ?_
      | refine At.rtThen ?_
      | refine At.rtBlock ?_
      | refine At.yl (Yl.nilCheck rfl) rfl ?_
      | refine At.yl (Yl.addI rfl rfl (by omega) (by omega)) rfl ?_
      | refine At.yl (Yl.subI rfl rfl (by omega) (by omega)) rfl ?_
      | refine At.yl (Yl.mulI rfl rfl (by omega) (by omega)) rfl ?_
      | refine At.yl (Yl.quoI rfl rfl (by omega) (by omega) (by omega)) rfl ?_
      | refine At.yl (Yl.remI rfl rfl (by omega) (by omega)) rfl ?_
      | refine At.yl (Yl.lss rfl rfl) rfl ?_
      | refine At.yl (Yl.gtr rfl rfl) rfl ?_
      | refine At.yl (Yl.leq rfl rfl) rfl ?_
      | refine At.yl (Yl.geq rfl rfl) rfl ?_
      | refine At.yl (Yl.eql rfl rfl) rfl ?_
      | refine At.yl (Yl.neq rfl rfl) rfl ?_
      | refine At.yl (Yl.xorU rfl rfl) rfl ?_
      | refine At.yl (Yl.orU rfl rfl) rfl ?_
      | refine At.yl (Yl.andU rfl rfl) rfl ?_
      | refine At.yl (Yl.notU rfl) rfl ?_
      | refine At.yl (Yl.xorB rfl rfl) rfl ?_
      | refine At.yl (Yl.convBU Tryd.underlying5 Tryd.underlying48 rfl) rfl ?_
      | refine At.yl (Yl.convUB Tryd.underlying48 Tryd.underlying5 rfl) rfl ?_
      | refine At.yl (Yl.lenSl Tryd.underlying28 rfl) rfl ?_)
    refine At.yl (Yl.indexArr (i := k / 8) Tryd.underlying52 info48 bq48 rfl rfl (by omega) (by omega)) rfl ?_
    refine At.yl (Yl.loadU Tryd.underlying48 rfl gc rfl (by omega)) rfl ?_
    repeat (first
      | refine At.yl (Yl.move rfl) rfl ?_
      | refine At.yl (Yl.assign rfl) rfl ?_
      | refine At.nil ?_
      | refine At.nmThen ?_
      | refine At.region ?_
      | refine At.seq ?_
      | refine At.block ?_
      | refine At.nmBlock ?_
      | refine At.skip ?_
      | refine At.exit ?_
      | refine At.exThen ?_
      | refine At.exHere ?_
      | refine At.exOther rfl ?_
      | refine At.retC ?_
      | refine At.rtThen ?_
      | refine At.rtBlock ?_
      | refine At.yl (Yl.nilCheck rfl) rfl ?_
      | refine At.yl (Yl.addI rfl rfl (by omega) (by omega)) rfl ?_
      | refine At.yl (Yl.subI rfl rfl (by omega) (by omega)) rfl ?_
      | refine At.yl (Yl.mulI rfl rfl (by omega) (by omega)) rfl ?_
      | refine At.yl (Yl.quoI rfl rfl (by omega) (by omega) (by omega)) rfl ?_
      | refine At.yl (Yl.remI rfl rfl (by omega) (by omega)) rfl ?_
      | refine At.yl (Yl.lss rfl rfl) rfl ?_
      | refine At.yl (Yl.gtr rfl rfl) rfl ?_
      | refine At.yl (Yl.leq rfl rfl) rfl ?_
      | refine At.yl (Yl.geq rfl rfl) rfl ?_
      | refine At.yl (Yl.eql rfl rfl) rfl ?_
      | refine At.yl (Yl.neq rfl rfl) rfl ?_
      | refine At.yl (Yl.xorU rfl rfl) rfl ?_
      | refine At.yl (Yl.orU rfl rfl) rfl ?_
      | refine At.yl (Yl.andU rfl rfl) rfl ?_
      | refine At.yl (Yl.notU rfl) rfl ?_
      | refine At.yl (Yl.xorB rfl rfl) rfl ?_
      | refine At.yl (Yl.convBU Tryd.underlying5 Tryd.underlying48 rfl) rfl ?_
      | refine At.yl (Yl.convUB Tryd.underlying48 Tryd.underlying5 rfl) rfl ?_
      | refine At.yl (Yl.lenSl Tryd.underlying28 rfl) rfl ?_)
    refine At.yl (Yl.shrU (m := 8 * (k % 8)) rfl rfl (by omega)) rfl ?_
    repeat (first
      | refine At.yl (Yl.move rfl) rfl ?_
      | refine At.yl (Yl.assign rfl) rfl ?_
      | refine At.nil ?_
      | refine At.nmThen ?_
      | refine At.region ?_
      | refine At.seq ?_
      | refine At.block ?_
      | refine At.nmBlock ?_
      | refine At.skip ?_
      | refine At.exit ?_
      | refine At.exThen ?_
      | refine At.exHere ?_
      | refine At.exOther rfl ?_
      | refine At.retC ?_
      | refine At.rtThen ?_
      | refine At.rtBlock ?_
      | refine At.yl (Yl.nilCheck rfl) rfl ?_
      | refine At.yl (Yl.addI rfl rfl (by omega) (by omega)) rfl ?_
      | refine At.yl (Yl.subI rfl rfl (by omega) (by omega)) rfl ?_
      | refine At.yl (Yl.mulI rfl rfl (by omega) (by omega)) rfl ?_
      | refine At.yl (Yl.quoI rfl rfl (by omega) (by omega) (by omega)) rfl ?_
      | refine At.yl (Yl.remI rfl rfl (by omega) (by omega)) rfl ?_
      | refine At.yl (Yl.lss rfl rfl) rfl ?_
      | refine At.yl (Yl.gtr rfl rfl) rfl ?_
      | refine At.yl (Yl.leq rfl rfl) rfl ?_
      | refine At.yl (Yl.geq rfl rfl) rfl ?_
      | refine At.yl (Yl.eql rfl rfl) rfl ?_
      | refine At.yl (Yl.neq rfl rfl) rfl ?_
      | refine At.yl (Yl.xorU rfl rfl) rfl ?_
      | refine At.yl (Yl.orU rfl rfl) rfl ?_
      | refine At.yl (Yl.andU rfl rfl) rfl ?_
      | refine At.yl (Yl.notU rfl) rfl ?_
      | refine At.yl (Yl.xorB rfl rfl) rfl ?_
      | refine At.yl (Yl.convBU Tryd.underlying5 Tryd.underlying48 rfl) rfl ?_
      | refine At.yl (Yl.convUB Tryd.underlying48 Tryd.underlying5 rfl) rfl ?_
      | refine At.yl (Yl.lenSl Tryd.underlying28 rfl) rfl ?_)
    refine At.yl (Yl.indexArr (i := k) Tryd.underlying22 info5 bq5 rfl rfl rfl hlt) rfl ?_
    refine At.put (Ef.storeB info5 bq5 ga rfl rfl hlt) ga fun H9 s9 o9 ga => ?_
    repeat (first
      | refine At.yl (Yl.move rfl) rfl ?_
      | refine At.yl (Yl.assign rfl) rfl ?_
      | refine At.nil ?_
      | refine At.nmThen ?_
      | refine At.region ?_
      | refine At.seq ?_
      | refine At.block ?_
      | refine At.nmBlock ?_
      | refine At.skip ?_
      | refine At.exit ?_
      | refine At.exThen ?_
      | refine At.exHere ?_
      | refine At.exOther rfl ?_
      | refine At.retC ?_
      | refine At.rtThen ?_
      | refine At.rtBlock ?_
      | refine At.yl (Yl.nilCheck rfl) rfl ?_
      | refine At.yl (Yl.addI rfl rfl (by omega) (by omega)) rfl ?_
      | refine At.yl (Yl.subI rfl rfl (by omega) (by omega)) rfl ?_
      | refine At.yl (Yl.mulI rfl rfl (by omega) (by omega)) rfl ?_
      | refine At.yl (Yl.quoI rfl rfl (by omega) (by omega) (by omega)) rfl ?_
      | refine At.yl (Yl.remI rfl rfl (by omega) (by omega)) rfl ?_
      | refine At.yl (Yl.lss rfl rfl) rfl ?_
      | refine At.yl (Yl.gtr rfl rfl) rfl ?_
      | refine At.yl (Yl.leq rfl rfl) rfl ?_
      | refine At.yl (Yl.geq rfl rfl) rfl ?_
      | refine At.yl (Yl.eql rfl rfl) rfl ?_
      | refine At.yl (Yl.neq rfl rfl) rfl ?_
      | refine At.yl (Yl.xorU rfl rfl) rfl ?_
      | refine At.yl (Yl.orU rfl rfl) rfl ?_
      | refine At.yl (Yl.andU rfl rfl) rfl ?_
      | refine At.yl (Yl.notU rfl) rfl ?_
      | refine At.yl (Yl.xorB rfl rfl) rfl ?_
      | refine At.yl (Yl.convBU Tryd.underlying5 Tryd.underlying48 rfl) rfl ?_
      | refine At.yl (Yl.convUB Tryd.underlying48 Tryd.underlying5 rfl) rfl ?_
      | refine At.yl (Yl.lenSl Tryd.underlying28 rfl) rfl ?_)
    exact At.round (k + 1, H9) ⟨by simp only; omega, by simp only; omega, u8.put o9 (by omega), ga, o9.ne gr (by omega), o9.ne gc (by omega)⟩ (by simp only; omega) (Sb.cons rfl (Sb.cons rfl (Sb.cons rfl (Sb.cons rfl (Sb.nil))))) rfl
  refine At.condDF rfl (by omega) ?_
  have hk25 : k = 200 := by omega
  subst hk25
  rw [byN_all] at ga
  repeat (first
    | refine At.yl (Yl.move rfl) rfl ?_
    | refine At.yl (Yl.assign rfl) rfl ?_
    | refine At.nil ?_
    | refine At.nmThen ?_
    | refine At.region ?_
    | refine At.seq ?_
    | refine At.block ?_
    | refine At.nmBlock ?_
    | refine At.skip ?_
    | refine At.exit ?_
    | refine At.exThen ?_
    | refine At.exHere ?_
    | refine At.exOther rfl ?_
    | refine At.retC ?_
    | refine At.rtThen ?_
    | refine At.rtBlock ?_
    | refine At.yl (Yl.nilCheck rfl) rfl ?_
    | refine At.yl (Yl.addI rfl rfl (by omega) (by omega)) rfl ?_
    | refine At.yl (Yl.subI rfl rfl (by omega) (by omega)) rfl ?_
    | refine At.yl (Yl.mulI rfl rfl (by omega) (by omega)) rfl ?_
    | refine At.yl (Yl.quoI rfl rfl (by omega) (by omega) (by omega)) rfl ?_
    | refine At.yl (Yl.remI rfl rfl (by omega) (by omega)) rfl ?_
    | refine At.yl (Yl.lss rfl rfl) rfl ?_
    | refine At.yl (Yl.gtr rfl rfl) rfl ?_
    | refine At.yl (Yl.leq rfl rfl) rfl ?_
    | refine At.yl (Yl.geq rfl rfl) rfl ?_
    | refine At.yl (Yl.eql rfl rfl) rfl ?_
    | refine At.yl (Yl.neq rfl rfl) rfl ?_
    | refine At.yl (Yl.xorU rfl rfl) rfl ?_
    | refine At.yl (Yl.orU rfl rfl) rfl ?_
    | refine At.yl (Yl.andU rfl rfl) rfl ?_
    | refine At.yl (Yl.notU rfl) rfl ?_
    | refine At.yl (Yl.xorB rfl rfl) rfl ?_
    | refine At.yl (Yl.convBU Tryd.underlying5 Tryd.underlying48 rfl) rfl ?_
    | refine At.yl (Yl.convUB Tryd.underlying48 Tryd.underlying5 rfl) rfl ?_
    | refine At.yl (Yl.lenSl Tryd.underlying28 rfl) rfl ?_)
  refine At.yl (Yl.loadWB Tryd.underlying22 rfl info22 bq22 rfl ga) rfl ?_
  refine At.put (Ef.storeWB info22 bq22 rfl rfl gr) gr fun HA sA oA gr => ?_
  repeat (first
    | refine At.yl (Yl.move rfl) rfl ?_
    | refine At.yl (Yl.assign rfl) rfl ?_
    | refine At.nil ?_
    | refine At.nmThen ?_
    | refine At.region ?_
    | refine At.seq ?_
    | refine At.block ?_
    | refine At.nmBlock ?_
    | refine At.skip ?_
    | refine At.exit ?_
    | refine At.exThen ?_
    | refine At.exHere ?_
    | refine At.exOther rfl ?_
    | refine At.retC ?_
    | refine At.rtThen ?_
    | refine At.rtBlock ?_
    | refine At.yl (Yl.nilCheck rfl) rfl ?_
    | refine At.yl (Yl.addI rfl rfl (by omega) (by omega)) rfl ?_
    | refine At.yl (Yl.subI rfl rfl (by omega) (by omega)) rfl ?_
    | refine At.yl (Yl.mulI rfl rfl (by omega) (by omega)) rfl ?_
    | refine At.yl (Yl.quoI rfl rfl (by omega) (by omega) (by omega)) rfl ?_
    | refine At.yl (Yl.remI rfl rfl (by omega) (by omega)) rfl ?_
    | refine At.yl (Yl.lss rfl rfl) rfl ?_
    | refine At.yl (Yl.gtr rfl rfl) rfl ?_
    | refine At.yl (Yl.leq rfl rfl) rfl ?_
    | refine At.yl (Yl.geq rfl rfl) rfl ?_
    | refine At.yl (Yl.eql rfl rfl) rfl ?_
    | refine At.yl (Yl.neq rfl rfl) rfl ?_
    | refine At.yl (Yl.xorU rfl rfl) rfl ?_
    | refine At.yl (Yl.orU rfl rfl) rfl ?_
    | refine At.yl (Yl.andU rfl rfl) rfl ?_
    | refine At.yl (Yl.notU rfl) rfl ?_
    | refine At.yl (Yl.xorB rfl rfl) rfl ?_
    | refine At.yl (Yl.convBU Tryd.underlying5 Tryd.underlying48 rfl) rfl ?_
    | refine At.yl (Yl.convUB Tryd.underlying48 Tryd.underlying5 rfl) rfl ?_
    | refine At.yl (Yl.lenSl Tryd.underlying28 rfl) rfl ?_)
  exact At.retCellB (b := br) Tryd.results12 Tryd.underlying22 rfl info22 bq22 rfl gr ⟨rfl, u8.put oA (by omega)⟩

set_option maxRecDepth 8000 in
set_option maxHeartbeats 4000000 in
/-- spec.State.Keccak -/
theorem sk_does (H : Array Obj) (x : Nat → BitVec 8) (r : Nat) (z : Int) (hz : z = (r : Int)) (hr : r ≤ 24) :
    Does Tryd.prog 13 #[.agg (arrB 200 x), I z] H (fun v H' => v = .agg (arrB 200 (byt (rN r (lnN x 200) r))) ∧ Sub H H') := by
  subst hz
  refine Does.of_body (vs := [.agg (arrB 200 x), I r]) Tryd.func13 rfl Tryd.ntmps13 rfl fun w0 => ?_
  repeat (first
    | refine At.yl (Yl.move rfl) rfl ?_
    | refine At.yl (Yl.assign rfl) rfl ?_
    | refine At.nil ?_
    | refine At.nmThen ?_
    | refine At.region ?_
    | refine At.seq ?_
    | refine At.block ?_
    | refine At.nmBlock ?_
    | refine At.skip ?_
    | refine At.exit ?_
    | refine At.exThen ?_
    | refine At.exHere ?_
    | refine At.exOther rfl ?_
    | refine At.retC ?_
    | refine At.rtThen ?_
    | refine At.rtBlock ?_
    | refine At.yl (Yl.nilCheck rfl) rfl ?_
    | refine At.yl (Yl.addI rfl rfl (by omega) (by omega)) rfl ?_
    | refine At.yl (Yl.subI rfl rfl (by omega) (by omega)) rfl ?_
    | refine At.yl (Yl.mulI rfl rfl (by omega) (by omega)) rfl ?_
    | refine At.yl (Yl.quoI rfl rfl (by omega) (by omega) (by omega)) rfl ?_
    | refine At.yl (Yl.remI rfl rfl (by omega) (by omega)) rfl ?_
    | refine At.yl (Yl.lss rfl rfl) rfl ?_
    | refine At.yl (Yl.gtr rfl rfl) rfl ?_
    | refine At.yl (Yl.leq rfl rfl) rfl ?_
    | refine At.yl (Yl.geq rfl rfl) rfl ?_
    | refine At.yl (Yl.eql rfl rfl) rfl ?_
    | refine At.yl (Yl.neq rfl rfl) rfl ?_
    | refine At.yl (Yl.xorU rfl rfl) rfl ?_
    | refine At.yl (Yl.orU rfl rfl) rfl ?_
    | refine At.yl (Yl.andU rfl rfl) rfl ?_
    | refine At.yl (Yl.notU rfl) rfl ?_
    | refine At.yl (Yl.xorB rfl rfl) rfl ?_
    | refine At.yl (Yl.convBU Tryd.underlying5 Tryd.underlying48 rfl) rfl ?_
    | refine At.yl (Yl.convUB Tryd.underlying48 Tryd.underlying5 rfl) rfl ?_
    | refine At.yl (Yl.lenSl Tryd.underlying28 rfl) rfl ?_)
  refine At.new (Ef.box rfl) rfl fun ba H1 ea s1 u1 ga => ?_
  refine At.new (Ef.allocB info25 zero25) rfl fun br H2 er s2 u2 gr => ?_
  repeat (first
    | refine At.yl (Yl.move rfl) rfl ?_
    | refine At.yl (Yl.assign rfl) rfl ?_
    | refine At.nil ?_
    | refine At.nmThen ?_
    | refine At.region ?_
    | refine At.seq ?_
    | refine At.block ?_
    | refine At.nmBlock ?_
    | refine At.skip ?_
    | refine At.exit ?_
    | refine At.exThen ?_
    | refine At.exHere ?_
    | refine At.exOther rfl ?_
    | refine At.retC ?_
    | refine At.rtThen ?_
    | refine At.rtBlock ?_
    | refine At.yl (Yl.nilCheck rfl) rfl ?_
    | refine At.yl (Yl.addI rfl rfl (by omega) (by omega)) rfl ?_
    | refine At.yl (Yl.subI rfl rfl (by omega) (by omega)) rfl ?_
    | refine At.yl (Yl.mulI rfl rfl (by omega) (by omega)) rfl ?_
    | refine At.yl (Yl.quoI rfl rfl (by omega) (by omega) (by omega)) rfl ?_
    | refine At.yl (Yl.remI rfl rfl (by omega) (by omega)) rfl ?_
    | refine At.yl (Yl.lss rfl rfl) rfl ?_
    | refine At.yl (Yl.gtr rfl rfl) rfl ?_
    | refine At.yl (Yl.leq rfl rfl) rfl ?_
    | refine At.yl (Yl.geq rfl rfl) rfl ?_
    | refine At.yl (Yl.eql rfl rfl) rfl ?_
    | refine At.yl (Yl.neq rfl rfl) rfl ?_
    | refine At.yl (Yl.xorU rfl rfl) rfl ?_
    | refine At.yl (Yl.orU rfl rfl) rfl ?_
    | refine At.yl (Yl.andU rfl rfl) rfl ?_
    | refine At.yl (Yl.notU rfl) rfl ?_
    | refine At.yl (Yl.xorB rfl rfl) rfl ?_
    | refine At.yl (Yl.convBU Tryd.underlying5 Tryd.underlying48 rfl) rfl ?_
    | refine At.yl (Yl.convUB Tryd.underlying48 Tryd.underlying5 rfl) rfl ?_
    | refine At.yl (Yl.lenSl Tryd.underlying28 rfl) rfl ?_)
  have ga2 := u2.get ga
  refine At.yl (Yl.loadWB Tryd.underlying25 rfl info25 bq25 rfl ga2) rfl ?_
  refine At.call Tryd.call28 rfl rfl (lanes_does _ x) ?_
  rintro v H3 ⟨rfl, u3⟩
  have hs3 := u3.size
  generalize lnN x 200 = c
  refine At.new (Ef.allocU info52 zero52) rfl fun bc H4 ec s4 u4 gc => ?_
  refine At.put (Ef.storeWU info52 bq52 rfl rfl gc) gc fun H5 s5 o5 gc => ?_
  have gr5 := o5.ne (u4.get (u3.get gr)) (by omega)
  have u5 : Sub H H5 := (u1.trans (u2.trans (u3.trans u4))).put o5 (by omega)
  have hba : br ≠ bc ∧ H.size ≤ br ∧ H.size ≤ bc := by omega
  clear u1 u2 u3 u4 ga ga2 o5 ea er ec s1 s2 hs3 s4 gr
  repeat (first
    | refine At.yl (Yl.move rfl) rfl ?_
    | refine At.yl (Yl.assign rfl) rfl ?_
    | refine At.nil ?_
    | refine At.nmThen ?_
    | refine At.region ?_
    | refine At.seq ?_
    | refine At.block ?_
    | refine At.nmBlock ?_
    | refine At.skip ?_
    | refine At.exit ?_
    | refine At.exThen ?_
    | refine At.exHere ?_
    | refine At.exOther rfl ?_
    | refine At.retC ?_
    | refine At.rtThen ?_
    | refine At.rtBlock ?_
    | refine At.yl (Yl.nilCheck rfl) rfl ?_
    | refine At.yl (Yl.addI rfl rfl (by omega) (by omega)) rfl ?_
    | refine At.yl (Yl.subI rfl rfl (by omega) (by omega)) rfl ?_
    | refine At.yl (Yl.mulI rfl rfl (by omega) (by omega)) rfl ?_
    | refine At.yl (Yl.quoI rfl rfl (by omega) (by omega) (by omega)) rfl ?_
    | refine At.yl (Yl.remI rfl rfl (by omega) (by omega)) rfl ?_
    | refine At.yl (Yl.lss rfl rfl) rfl ?_
    | refine At.yl (Yl.gtr rfl rfl) rfl ?_
    | refine At.yl (Yl.leq rfl rfl) rfl ?_
    | refine At.yl (Yl.geq rfl rfl) rfl ?_
    | refine At.yl (Yl.eql rfl rfl) rfl ?_
    | refine At.yl (Yl.neq rfl rfl) rfl ?_
    | refine At.yl (Yl.xorU rfl rfl) rfl ?_
    | refine At.yl (Yl.orU rfl rfl) rfl ?_
    | refine At.yl (Yl.andU rfl rfl) rfl ?_
    | refine At.yl (Yl.notU rfl) rfl ?_
    | refine At.yl (Yl.xorB rfl rfl) rfl ?_
    | refine At.yl (Yl.convBU Tryd.underlying5 Tryd.underlying48 rfl) rfl ?_
    | refine At.yl (Yl.convUB Tryd.underlying48 Tryd.underlying5 rfl) rfl ?_
    | refine At.yl (Yl.lenSl Tryd.underlying28 rfl) rfl ?_)
  refine At.loop (σ := Nat × Array Obj) (fun σ => [(4, ptr br 0), (5, ptr bc 0), (6, I (24 - (r : Int) + σ.1))]) (fun σ => σ.2)
    (fun σ => σ.1 ≤ r ∧ br < σ.2.size ∧ bc < σ.2.size ∧ Sub H σ.2 ∧ σ.2[br]? = some (cellsOf (arrB 200 fun _ => 0) 25) ∧ σ.2[bc]? = some (cellsOf (arrU 25 (rN r c σ.1)) 52))
    (fun σ => r - σ.1) (0, H5) ⟨by simp only; omega, lt_of_get gr5, lt_of_get gc, u5, gr5, gc⟩ (.cons rfl (.cons rfl (.cons (by show some _ = some _; rw [show (24 - (r : Int) + ((0 : Nat) : Int)) = 24 - (r : Int) by omega]) .nil))) rfl ?_
  clear gr5 gc u5
  rintro ⟨k, H6⟩ ⟨hk, l6, l6', u6, gr, gc⟩
  simp only at hk l6 l6' u6 gr gc ⊢
  repeat (first
    | refine At.yl (Yl.move rfl) rfl ?_
    | refine At.yl (Yl.assign rfl) rfl ?_
    | refine At.nil ?_
    | refine At.nmThen ?_
    | refine At.region ?_
    | refine At.seq ?_
    | refine At.block ?_
    | refine At.nmBlock ?_
    | refine At.skip ?_
    | refine At.exit ?_
    | refine At.exThen ?_
    | refine At.exHere ?_
    | refine At.exOther rfl ?_
    | refine At.retC ?_
    | refine At.rtThen ?_
    | refine At.rtBlock ?_
    | refine At.yl (Yl.nilCheck rfl) rfl ?_
    | refine At.yl (Yl.addI rfl rfl (by omega) (by omega)) rfl ?_
    | refine At.yl (Yl.subI rfl rfl (by omega) (by omega)) rfl ?_
    | refine At.yl (Yl.mulI rfl rfl (by omega) (by omega)) rfl ?_
    | refine At.yl (Yl.quoI rfl rfl (by omega) (by omega) (by omega)) rfl ?_
    | refine At.yl (Yl.remI rfl rfl (by omega) (by omega)) rfl ?_
    | refine At.yl (Yl.lss rfl rfl) rfl ?_
    | refine At.yl (Yl.gtr rfl rfl) rfl ?_
    | refine At.yl (Yl.leq rfl rfl) rfl ?_
    | refine At.yl (Yl.geq rfl rfl) rfl ?_
    | refine At.yl (Yl.eql rfl rfl) rfl ?_
    | refine At.yl (Yl.neq rfl rfl) rfl ?_
    | refine At.yl (Yl.xorU rfl rfl) rfl ?_
    | refine At.yl (Yl.orU rfl rfl) rfl ?_
    | refine At.yl (Yl.andU rfl rfl) rfl ?_
    | refine At.yl (Yl.notU rfl) rfl ?_
    | refine At.yl (Yl.xorB rfl rfl) rfl ?_
    | refine At.yl (Yl.convBU Tryd.underlying5 Tryd.underlying48 rfl) rfl ?_
    | refine At.yl (Yl.convUB Tryd.underlying48 Tryd.underlying5 rfl) rfl ?_
    | refine At.yl (Yl.lenSl Tryd.underlying28 rfl) rfl ?_)
  by_cases hlt : k < r
  · refine At.condDT rfl (by omega) ?_
    repeat (first
      | refine At.yl (Yl.move rfl) rfl ?_
      | refine At.yl (Yl.assign rfl) rfl ?_
      | refine At.nil ?_
      | refine At.nmThen ?_
      | refine At.region ?_
      | refine At.seq ?_
      | refine At.block ?_
      | refine At.nmBlock ?_
      | refine At.skip ?_
      | refine At.exit ?_
      | refine At.exThen ?_
      | refine At.exHere ?_
      | refine At.exOther rfl ?_
      | refine At.retC ?_
      | refine At.rtThen ?_
      | refine At.rtBlock ?_
      | refine At.yl (Yl.nilCheck rfl) rfl ?_
      | refine At.yl (Yl.addI rfl rfl (by omega) (by omega)) rfl ?_
      | refine At.yl (Yl.subI rfl rfl (by omega) (by omega)) rfl ?_
      | refine At.yl (Yl.mulI rfl rfl (by omega) (by omega)) rfl ?_
      | refine At.yl (Yl.quoI rfl rfl (by omega) (by omega) (by omega)) rfl ?_
      | refine At.yl (Yl.remI rfl rfl (by omega) (by omega)) rfl ?_
      | refine At.yl (Yl.lss rfl rfl) rfl ?_
      | refine At.yl (Yl.gtr rfl rfl) rfl ?_
      | refine At.yl (Yl.leq rfl rfl) rfl ?_
      | refine At.yl (Yl.geq rfl rfl) rfl ?_
      | refine At.yl (Yl.eql rfl rfl) rfl ?_
      | refine At.yl (Yl.neq rfl rfl) rfl ?_
      | refine At.yl (Yl.xorU rfl rfl) rfl ?_
      | refine At.yl (Yl.orU rfl rfl) rfl ?_
      | refine At.yl (Yl.andU rfl rfl) rfl ?_
      | refine At.yl (Yl.notU rfl) rfl ?_
      | refine At.yl (Yl.xorB rfl rfl) rfl ?_
      | refine At.yl (Yl.convBU Tryd.underlying5 Tryd.underlying48 rfl) rfl ?_
      | refine At.yl (Yl.convUB Tryd.underlying48 Tryd.underlying5 rfl) rfl ?_
      | refine At.yl (Yl.lenSl Tryd.underlying28 rfl) rfl ?_)
    refine At.yl (Yl.loadWU Tryd.underlying52 rfl info52 bq52 rfl gc) rfl ?_
    repeat (first
      | refine At.yl (Yl.move rfl) rfl ?_
      | refine At.yl (Yl.assign rfl) rfl ?_
      | refine At.nil ?_
      | refine At.nmThen ?_
      | refine At.region ?_
      | refine At.seq ?_
      | refine At.block ?_
      | refine At.nmBlock ?_
      | refine At.skip ?_
      | refine At.exit ?_
      | refine At.exThen ?_
      | refine At.exHere ?_
      | refine At.exOther rfl ?_
      | refine At.retC ?_
      | refine At.rtThen ?_
      | refine At.rtBlock ?_
      | refine At.yl (Yl.nilCheck rfl) rfl ?_
      | refine At.yl (Yl.addI rfl rfl (by omega) (by omega)) rfl ?_
      | refine At.yl (Yl.subI rfl rfl (by omega) (by omega)) rfl ?_
      | refine At.yl (Yl.mulI rfl rfl (by omega) (by omega)) rfl ?_
      | refine At.yl (Yl.quoI rfl rfl (by omega) (by omega) (by omega)) rfl ?_
      | refine At.yl (Yl.remI rfl rfl (by omega) (by omega)) rfl ?_
      | refine At.yl (Yl.lss rfl rfl) rfl ?_
      | refine At.yl (Yl.gtr rfl rfl) rfl ?_
      | refine At.yl (Yl.leq rfl rfl) rfl ?_
      | refine At.yl (Yl.geq rfl rfl) rfl ?_
      | refine At.yl (Yl.eql rfl rfl) rfl ?_
      | refine At.yl (Yl.neq rfl rfl) rfl ?_
      | refine At.yl (Yl.xorU rfl rfl) rfl ?_
      | refine At.yl (Yl.orU rfl rfl) rfl ?_
      | refine At.yl (Yl.andU rfl rfl) rfl ?_
      | refine At.yl (Yl.notU rfl) rfl ?_
      | refine At.yl (Yl.xorB rfl rfl) rfl ?_
      | refine At.yl (Yl.convBU Tryd.underlying5 Tryd.underlying48 rfl) rfl ?_
      | refine At.yl (Yl.convUB Tryd.underlying48 Tryd.underlying5 rfl) rfl ?_
      | refine At.yl (Yl.lenSl Tryd.underlying28 rfl) rfl ?_)
    refine At.call Tryd.call29 rfl rfl (round_does _ _ (24 - r + k) _ (by omega) (by omega)) ?_
    rintro v H7 ⟨rfl, u7⟩
    refine At.put (Ef.storeWU info52 bq52 rfl rfl (u7.get gc)) (u7.get gc) fun H8 s8 o8 gc => ?_
    have hs7 := u7.size
    repeat (first
      | refine At.yl (Yl.move rfl) rfl ?_
      | refine At.yl (Yl.assign rfl) rfl ?_
      | refine At.nil ?_
      | refine At.nmThen ?_
      | refine At.region ?_
      | refine At.seq ?_
      | refine At.block ?_
      | refine At.nmBlock ?_
      | refine At.skip ?_
      | refine At.exit ?_
      | refine At.exThen ?_
      | refine At.exHere ?_
      | refine At.exOther rfl ?_
      | refine At.retC ?_
      | refine At.rtThen ?_
      | refine At.rtBlock ?_
      | refine At.yl (Yl.nilCheck rfl) rfl ?_
      | refine At.yl (Yl.addI rfl rfl (by omega) (by omega)) rfl ?_
      | refine At.yl (Yl.subI rfl rfl (by omega) (by omega)) rfl ?_
      | refine At.yl (Yl.mulI rfl rfl (by omega) (by omega)) rfl ?_
      | refine At.yl (Yl.quoI rfl rfl (by omega) (by omega) (by omega)) rfl ?_
      | refine At.yl (Yl.remI rfl rfl (by omega) (by omega)) rfl ?_
      | refine At.yl (Yl.lss rfl rfl) rfl ?_
      | refine At.yl (Yl.gtr rfl rfl) rfl ?_
      | refine At.yl (Yl.leq rfl rfl) rfl ?_
      | refine At.yl (Yl.geq rfl rfl) rfl ?_
      | refine At.yl (Yl.eql rfl rfl) rfl ?_
      | refine At.yl (Yl.neq rfl rfl) rfl ?_
      | refine At.yl (Yl.xorU rfl rfl) rfl ?_
      | refine At.yl (Yl.orU rfl rfl) rfl ?_
      | refine At.yl (Yl.andU rfl rfl) rfl ?_
      | refine At.yl (Yl.notU rfl) rfl ?_
      | refine At.yl (Yl.xorB rfl rfl) rfl ?_
      | refine At.yl (Yl.convBU Tryd.underlying5 Tryd.underlying48 rfl) rfl ?_
      | refine At.yl (Yl.convUB Tryd.underlying48 Tryd.underlying5 rfl) rfl ?_
      | refine At.yl (Yl.lenSl Tryd.underlying28 rfl) rfl ?_)
    refine At.round (k + 1, H8) ⟨by simp only; omega, by simp only; omega, by simp only; omega, (u6.trans u7).put o8 (by omega), o8.ne (u7.get gr) (by omega), ?_⟩ (by simp only; omega) (.cons rfl (.cons rfl (.cons ?_ .nil))) rfl
    · simp only [rN, rd]; exact gc
    · show some _ = some _
      rw [show (24 - (r : Int) + (k : Int) + 1) = 24 - (r : Int) + ((k + 1 : Nat) : Int) by omega]
  refine At.condDF rfl (by omega) ?_
  have hk25 : k = r := by omega
  subst hk25
  generalize rN k c k = d at gc ⊢
  repeat (first
    | refine At.yl (Yl.move rfl) rfl ?_
    | refine At.yl (Yl.assign rfl) rfl ?_
    | refine At.nil ?_
    | refine At.nmThen ?_
    | refine At.region ?_
    | refine At.seq ?_
    | refine At.block ?_
    | refine At.nmBlock ?_
    | refine At.skip ?_
    | refine At.exit ?_
    | refine At.exThen ?_
    | refine At.exHere ?_
    | refine At.exOther rfl ?_
    | refine At.retC ?_
    | refine At.rtThen ?_
    | refine At.rtBlock ?_
    | refine At.yl (Yl.nilCheck rfl) rfl ?_
    | refine At.yl (Yl.addI rfl rfl (by omega) (by omega)) rfl ?_
    | refine At.yl (Yl.subI rfl rfl (by omega) (by omega)) rfl ?_
    | refine At.yl (Yl.mulI rfl rfl (by omega) (by omega)) rfl ?_
    | refine At.yl (Yl.quoI rfl rfl (by omega) (by omega) (by omega)) rfl ?_
    | refine At.yl (Yl.remI rfl rfl (by omega) (by omega)) rfl ?_
    | refine At.yl (Yl.lss rfl rfl) rfl ?_
    | refine At.yl (Yl.gtr rfl rfl) rfl ?_
    | refine At.yl (Yl.leq rfl rfl) rfl ?_
    | refine At.yl (Yl.geq rfl rfl) rfl ?_
    | refine At.yl (Yl.eql rfl rfl) rfl ?_
    | refine At.yl (Yl.neq rfl rfl) rfl ?_
    | refine At.yl (Yl.xorU rfl rfl) rfl ?_
    | refine At.yl (Yl.orU rfl rfl) rfl ?_
    | refine At.yl (Yl.andU rfl rfl) rfl ?_
    | refine At.yl (Yl.notU rfl) rfl ?_
    | refine At.yl (Yl.xorB rfl rfl) rfl ?_
    | refine At.yl (Yl.convBU Tryd.underlying5 Tryd.underlying48 rfl) rfl ?_
    | refine At.yl (Yl.convUB Tryd.underlying48 Tryd.underlying5 rfl) rfl ?_
    | refine At.yl (Yl.lenSl Tryd.underlying28 rfl) rfl ?_)
  refine At.yl (Yl.buildB Tryd.underlying25 info25 zero25 info5) rfl ?_
  refine At.new (Ef.allocB info25 zero25) rfl fun bo H7 eo s7 u7 go => ?_
  refine At.put (Ef.storeWB info25 bq25 rfl rfl go) go fun H8 s8 o8 go => ?_
  have gr := o8.ne (u7.get gr) (by omega)
  have gc := o8.ne (u7.get gc) (by omega)
  have u8 : Sub H H8 := (u6.trans u7).put o8 (by have := u6.size; omega)
  have hbo : bo ≠ br ∧ bo ≠ bc ∧ H.size ≤ bo := by have := u6.size; omega
  clear u6 u7 o8 hlt hk l6 l6' hr
  repeat (first
    | refine At.yl (Yl.move rfl) rfl ?_
    | refine At.yl (Yl.assign rfl) rfl ?_
    | refine At.nil ?_
    | refine At.nmThen ?_
    | refine At.region ?_
    | refine At.seq ?_
    | refine At.block ?_
    | refine At.nmBlock ?_
    | refine At.skip ?_
    | refine At.exit ?_
    | refine At.exThen ?_
    | refine At.exHere ?_
    | refine At.exOther rfl ?_
    | refine At.retC ?_
    | refine At.rtThen ?_
    | refine At.rtBlock ?_
    | refine At.yl (Yl.nilCheck rfl) rfl ?_
    | refine At.yl (Yl.addI rfl rfl (by omega) (by omega)) rfl ?_
    | refine At.yl (Yl.subI rfl rfl (by omega) (by omega)) rfl ?_
    | refine At.yl (Yl.mulI rfl rfl (by omega) (by omega)) rfl ?_
    | refine At.yl (Yl.quoI rfl rfl (by omega) (by omega) (by omega)) rfl ?_
    | refine At.yl (Yl.remI rfl rfl (by omega) (by omega)) rfl ?_
    | refine At.yl (Yl.lss rfl rfl) rfl ?_
    | refine At.yl (Yl.gtr rfl rfl) rfl ?_
    | refine At.yl (Yl.leq rfl rfl) rfl ?_
    | refine At.yl (Yl.geq rfl rfl) rfl ?_
    | refine At.yl (Yl.eql rfl rfl) rfl ?_
    | refine At.yl (Yl.neq rfl rfl) rfl ?_
    | refine At.yl (Yl.xorU rfl rfl) rfl ?_
    | refine At.yl (Yl.orU rfl rfl) rfl ?_
    | refine At.yl (Yl.andU rfl rfl) rfl ?_
    | refine At.yl (Yl.notU rfl) rfl ?_
    | refine At.yl (Yl.xorB rfl rfl) rfl ?_
    | refine At.yl (Yl.convBU Tryd.underlying5 Tryd.underlying48 rfl) rfl ?_
    | refine At.yl (Yl.convUB Tryd.underlying48 Tryd.underlying5 rfl) rfl ?_
    | refine At.yl (Yl.lenSl Tryd.underlying28 rfl) rfl ?_)
  refine At.loop (σ := Nat × Array Obj) (fun σ => [(4, ptr br 0), (5, ptr bc 0), (7, ptr bo 0), (21, I σ.1)]) (fun σ => σ.2)
    (fun σ => σ.1 ≤ 200 ∧ σ.2.size = H8.size ∧ Sub H σ.2 ∧ σ.2[bo]? = some (cellsOf (arrB 200 (byN (fun _ => 0) d σ.1)) 25) ∧ σ.2[br]? = some (cellsOf (arrB 200 fun _ => 0) 25) ∧ σ.2[bc]? = some (cellsOf (arrU 25 d) 52))
    (fun σ => 200 - σ.1) (0, H8) ⟨by simp only; omega, rfl, u8, go, gr, gc⟩ (Sb.cons rfl (Sb.cons rfl (Sb.cons rfl (Sb.cons rfl (Sb.nil))))) rfl ?_
  clear go gr gc u8
  rintro ⟨j, H9⟩ ⟨hk, s9, u9, go, gr, gc⟩
  simp only at hk s9 u9 go gr gc ⊢
  repeat (first
    | refine At.yl (Yl.move rfl) rfl ?_
    | refine At.yl (Yl.assign rfl) rfl ?_
    | refine At.nil ?_
    | refine At.nmThen ?_
    | refine At.region ?_
    | refine At.seq ?_
    | refine At.block ?_
    | refine At.nmBlock ?_
    | refine At.skip ?_
    | refine At.exit ?_
    | refine At.exThen ?_
    | refine At.exHere ?_
    | refine At.exOther rfl ?_
    | refine At.retC ?_
    | refine At.rtThen ?_
    | refine At.rtBlock ?_
    | refine At.yl (Yl.nilCheck rfl) rfl ?_
    | refine At.yl (Yl.addI rfl rfl (by omega) (by omega)) rfl ?_
    | refine At.yl (Yl.subI rfl rfl (by omega) (by omega)) rfl ?_
    | refine At.yl (Yl.mulI rfl rfl (by omega) (by omega)) rfl ?_
    | refine At.yl (Yl.quoI rfl rfl (by omega) (by omega) (by omega)) rfl ?_
    | refine At.yl (Yl.remI rfl rfl (by omega) (by omega)) rfl ?_
    | refine At.yl (Yl.lss rfl rfl) rfl ?_
    | refine At.yl (Yl.gtr rfl rfl) rfl ?_
    | refine At.yl (Yl.leq rfl rfl) rfl ?_
    | refine At.yl (Yl.geq rfl rfl) rfl ?_
    | refine At.yl (Yl.eql rfl rfl) rfl ?_
    | refine At.yl (Yl.neq rfl rfl) rfl ?_
    | refine At.yl (Yl.xorU rfl rfl) rfl ?_
    | refine At.yl (Yl.orU rfl rfl) rfl ?_
    | refine At.yl (Yl.andU rfl rfl) rfl ?_
    | refine At.yl (Yl.notU rfl) rfl ?_
    | refine At.yl (Yl.xorB rfl rfl) rfl ?_
    | refine At.yl (Yl.convBU Tryd.underlying5 Tryd.underlying48 rfl) rfl ?_
    | refine At.yl (Yl.convUB Tryd.underlying48 Tryd.underlying5 rfl) rfl ?_
    | refine At.yl (Yl.lenSl Tryd.underlying28 rfl) rfl ?_)
  by_cases hlt : j < 200
  · refine At.condDT rfl (by omega) ?_
    repeat (first
      | refine At.yl (Yl.move rfl) rfl ?_
      | refine At.yl (Yl.assign rfl) rfl ?_
      | refine At.nil ?_
      | refine At.nmThen ?_
      | refine At.region ?_
      | refine At.seq ?_
      | refine At.block ?_
      | refine At.nmBlock ?_
      | refine At.skip ?_
      | refine At.exit ?_
      | refine At.exThen ?_
      | refine At.exHere ?_
      | refine At.exOther rfl ?_
      | refine At.retC ?_
      | refine At.rtThen ?_
      | refine At.rtBlock ?_
      | refine At.yl (Yl.nilCheck rfl) rfl ?_
      | refine At.yl (Yl.addI rfl rfl (by omega) (by omega)) rfl ?_
      | refine At.yl (Yl.subI rfl rfl (by omega) (by omega)) rfl ?_
      | refine At.yl (Yl.mulI rfl rfl (by omega) (by omega)) rfl ?_
      | refine At.yl (Yl.quoI rfl rfl (by omega) (by omega) (by omega)) rfl ?_
      | refine At.yl (Yl.remI rfl rfl (by omega) (by omega)) rfl ?_
      | refine At.yl (Yl.lss rfl rfl) rfl ?_
      | refine At.yl (Yl.gtr rfl rfl) rfl ?_
      | refine At.yl (Yl.leq rfl rfl) rfl ?_
      | refine At.yl (Yl.geq rfl rfl) rfl ?_
      | refine At.yl (Yl.eql rfl rfl) rfl ?_
      | refine At.yl (Yl.neq rfl rfl) rfl ?_
      | refine At.yl (Yl.xorU rfl rfl) rfl ?_
      | refine At.yl (Yl.orU rfl rfl) rfl ?_
      | refine At.yl (Yl.andU rfl rfl) rfl ?_
      | refine At.yl (Yl.notU rfl) rfl ?_
      | refine At.yl (Yl.xorB rfl rfl) rfl ?_
      | refine At.yl (Yl.convBU Tryd.underlying5 Tryd.underlying48 rfl) rfl ?_
      | refine At.yl (Yl.convUB Tryd.underlying48 Tryd.underlying5 rfl) rfl ?_
      | refine At.yl (Yl.lenSl Tryd.underlying28 rfl) rfl ?_)
    refine At.yl (Yl.indexArr (i := j / 8) Tryd.underlying52 info48 bq48 rfl rfl (by omega) (by omega)) rfl ?_
    refine At.yl (Yl.loadU Tryd.underlying48 rfl gc rfl (by omega)) rfl ?_
    repeat (first
      | refine At.yl (Yl.move rfl) rfl ?_
      | refine At.yl (Yl.assign rfl) rfl ?_
      | refine At.nil ?_
      | refine At.nmThen ?_
      | refine At.region ?_
      | refine At.seq ?_
      | refine At.block ?_
      | refine At.nmBlock ?_
      | refine At.skip ?_
      | refine At.exit ?_
      | refine At.exThen ?_
      | refine At.exHere ?_
      | refine At.exOther rfl ?_
      | refine At.retC ?_
      | refine At.rtThen ?_
      | refine At.rtBlock ?_
      | refine At.yl (Yl.nilCheck rfl) rfl ?_
      | refine At.yl (Yl.addI rfl rfl (by omega) (by omega)) rfl ?_
      | refine At.yl (Yl.subI rfl rfl (by omega) (by omega)) rfl ?_
      | refine At.yl (Yl.mulI rfl rfl (by omega) (by omega)) rfl ?_
      | refine At.yl (Yl.quoI rfl rfl (by omega) (by omega) (by omega)) rfl ?_
      | refine At.yl (Yl.remI rfl rfl (by omega) (by omega)) rfl ?_
      | refine At.yl (Yl.lss rfl rfl) rfl ?_
      | refine At.yl (Yl.gtr rfl rfl) rfl ?_
      | refine At.yl (Yl.leq rfl rfl) rfl ?_
      | refine At.yl (Yl.geq rfl rfl) rfl ?_
      | refine At.yl (Yl.eql rfl rfl) rfl ?_
      | refine At.yl (Yl.neq rfl rfl) rfl ?_
      | refine At.yl (Yl.xorU rfl rfl) rfl ?_
      | refine At.yl (Yl.orU rfl rfl) rfl ?_
      | refine At.yl (Yl.andU rfl rfl) rfl ?_
      | refine At.yl (Yl.notU rfl) rfl ?_
      | refine At.yl (Yl.xorB rfl rfl) rfl ?_
      | refine At.yl (Yl.convBU Tryd.underlying5 Tryd.underlying48 rfl) rfl ?_
      | refine At.yl (Yl.convUB Tryd.underlying48 Tryd.underlying5 rfl) rfl ?_
      | refine At.yl (Yl.lenSl Tryd.underlying28 rfl) rfl ?_)
    refine At.yl (Yl.shrU (m := 8 * (j % 8)) rfl rfl (by omega)) rfl ?_
    repeat (first
      | refine At.yl (Yl.move rfl) rfl ?_
      | refine At.yl (Yl.assign rfl) rfl ?_
      | refine At.nil ?_
      | refine At.nmThen ?_
      | refine At.region ?_
      | refine At.seq ?_
      | refine At.block ?_
      | refine At.nmBlock ?_
      | refine At.skip ?_
      | refine At.exit ?_
      | refine At.exThen ?_
      | refine At.exHere ?_
      | refine At.exOther rfl ?_
      | refine At.retC ?_
      | refine At.rtThen ?_
      | refine At.rtBlock ?_
      | refine At.yl (Yl.nilCheck rfl) rfl ?_
      | refine At.yl (Yl.addI rfl rfl (by omega) (by omega)) rfl ?_
      | refine At.yl (Yl.subI rfl rfl (by omega) (by omega)) rfl ?_
      | refine At.yl (Yl.mulI rfl rfl (by omega) (by omega)) rfl ?_
      | refine At.yl (Yl.quoI rfl rfl (by omega) (by omega) (by omega)) rfl ?_
      | refine At.yl (Yl.remI rfl rfl (by omega) (by omega)) rfl ?_
      | refine At.yl (Yl.lss rfl rfl) rfl ?_
      | refine At.yl (Yl.gtr rfl rfl) rfl ?_
      | refine At.yl (Yl.leq rfl rfl) rfl ?_
      | refine At.yl (Yl.geq rfl rfl) rfl ?_
      | refine At.yl (Yl.eql rfl rfl) rfl ?_
      | refine At.yl (Yl.neq rfl rfl) rfl ?_
      | refine At.yl (Yl.xorU rfl rfl) rfl ?_
      | refine At.yl (Yl.orU rfl rfl) rfl ?_
      | refine At.yl (Yl.andU rfl rfl) rfl ?_
      | refine At.yl (Yl.notU rfl) rfl ?_
      | refine At.yl (Yl.xorB rfl rfl) rfl ?_
      | refine At.yl (Yl.convBU Tryd.underlying5 Tryd.underlying48 rfl) rfl ?_
      | refine At.yl (Yl.convUB Tryd.underlying48 Tryd.underlying5 rfl) rfl ?_
      | refine At.yl (Yl.lenSl Tryd.underlying28 rfl) rfl ?_)
    refine At.yl (Yl.indexArr (i := j) Tryd.underlying25 info5 bq5 rfl rfl rfl hlt) rfl ?_
    refine At.put (Ef.storeB info5 bq5 go rfl rfl hlt) go fun HA sA oA go => ?_
    repeat (first
      | refine At.yl (Yl.move rfl) rfl ?_
      | refine At.yl (Yl.assign rfl) rfl ?_
      | refine At.nil ?_
      | refine At.nmThen ?_
      | refine At.region ?_
      | refine At.seq ?_
      | refine At.block ?_
      | refine At.nmBlock ?_
      | refine At.skip ?_
      | refine At.exit ?_
      | refine At.exThen ?_
      | refine At.exHere ?_
      | refine At.exOther rfl ?_
      | refine At.retC ?_
      | refine At.rtThen ?_
      | refine At.rtBlock ?_
      | refine At.yl (Yl.nilCheck rfl) rfl ?_
      | refine At.yl (Yl.addI rfl rfl (by omega) (by omega)) rfl ?_
      | refine At.yl (Yl.subI rfl rfl (by omega) (by omega)) rfl ?_
      | refine At.yl (Yl.mulI rfl rfl (by omega) (by omega)) rfl ?_
      | refine At.yl (Yl.quoI rfl rfl (by omega) (by omega) (by omega)) rfl ?_
      | refine At.yl (Yl.remI rfl rfl (by omega) (by omega)) rfl ?_
      | refine At.yl (Yl.lss rfl rfl) rfl ?_
      | refine At.yl (Yl.gtr rfl rfl) rfl ?_
      | refine At.yl (Yl.leq rfl rfl) rfl ?_
      | refine At.yl (Yl.geq rfl rfl) rfl ?_
      | refine At.yl (Yl.eql rfl rfl) rfl ?_
      | refine At.yl (Yl.neq rfl rfl) rfl ?_
      | refine At.yl (Yl.xorU rfl rfl) rfl ?_
      | refine At.yl (Yl.orU rfl rfl) rfl ?_
      | refine At.yl (Yl.andU rfl rfl) rfl ?_
      | refine At.yl (Yl.notU rfl) rfl ?_
      | refine At.yl (Yl.xorB rfl rfl) rfl ?_
      | refine At.yl (Yl.convBU Tryd.underlying5 Tryd.underlying48 rfl) rfl ?_
      | refine At.yl (Yl.convUB Tryd.underlying48 Tryd.underlying5 rfl) rfl ?_
      | refine At.yl (Yl.lenSl Tryd.underlying28 rfl) rfl ?_)
    exact At.round (j + 1, HA) ⟨by simp only; omega, by simp only; omega, u9.put oA (by omega), go, oA.ne gr (by omega), oA.ne gc (by omega)⟩ (by simp only; omega) (Sb.cons rfl (Sb.cons rfl (Sb.cons rfl (Sb.cons rfl (Sb.nil))))) rfl
  refine At.condDF rfl (by omega) ?_
  have hk25 : j = 200 := by omega
  subst hk25
  rw [byN_all] at go
  repeat (first
    | refine At.yl (Yl.move rfl) rfl ?_
    | refine At.yl (Yl.assign rfl) rfl ?_
    | refine At.nil ?_
    | refine At.nmThen ?_
    | refine At.region ?_
    | refine At.seq ?_
    | refine At.block ?_
    | refine At.nmBlock ?_
    | refine At.skip ?_
    | refine At.exit ?_
    | refine At.exThen ?_
    | refine At.exHere ?_
    | refine At.exOther rfl ?_
    | refine At.retC ?_
    | refine At.rtThen ?_
    | refine At.rtBlock ?_
    | refine At.yl (Yl.nilCheck rfl) rfl ?_
    | refine At.yl (Yl.addI rfl rfl (by omega) (by omega)) rfl ?_
    | refine At.yl (Yl.subI rfl rfl (by omega) (by omega)) rfl ?_
    | refine At.yl (Yl.mulI rfl rfl (by omega) (by omega)) rfl ?_
    | refine At.yl (Yl.quoI rfl rfl (by omega) (by omega) (by omega)) rfl ?_
    | refine At.yl (Yl.remI rfl rfl (by omega) (by omega)) rfl ?_
    | refine At.yl (Yl.lss rfl rfl) rfl ?_
    | refine At.yl (Yl.gtr rfl rfl) rfl ?_
    | refine At.yl (Yl.leq rfl rfl) rfl ?_
    | refine At.yl (Yl.geq rfl rfl) rfl ?_
    | refine At.yl (Yl.eql rfl rfl) rfl ?_
    | refine At.yl (Yl.neq rfl rfl) rfl ?_
    | refine At.yl (Yl.xorU rfl rfl) rfl ?_
    | refine At.yl (Yl.orU rfl rfl) rfl ?_
    | refine At.yl (Yl.andU rfl rfl) rfl ?_
    | refine At.yl (Yl.notU rfl) rfl ?_
    | refine At.yl (Yl.xorB rfl rfl) rfl ?_
    | refine At.yl (Yl.convBU Tryd.underlying5 Tryd.underlying48 rfl) rfl ?_
    | refine At.yl (Yl.convUB Tryd.underlying48 Tryd.underlying5 rfl) rfl ?_
    | refine At.yl (Yl.lenSl Tryd.underlying28 rfl) rfl ?_)
  refine At.yl (Yl.loadWB Tryd.underlying25 rfl info25 bq25 rfl go) rfl ?_
  refine At.put (Ef.storeWB info25 bq25 rfl rfl gr) gr fun HA sA oA gr => ?_
  repeat (first
    | refine At.yl (Yl.move rfl) rfl ?_
    | refine At.yl (Yl.assign rfl) rfl ?_
    | refine At.nil ?_
    | refine At.nmThen ?_
    | refine At.region ?_
    | refine At.seq ?_
    | refine At.block ?_
    | refine At.nmBlock ?_
    | refine At.skip ?_
    | refine At.exit ?_
    | refine At.exThen ?_
    | refine At.exHere ?_
    | refine At.exOther rfl ?_
    | refine At.retC ?_
    | refine At.rtThen ?_
    | refine At.rtBlock ?_
    | refine At.yl (Yl.nilCheck rfl) rfl ?_
    | refine At.yl (Yl.addI rfl rfl (by omega) (by omega)) rfl ?_
    | refine At.yl (Yl.subI rfl rfl (by omega) (by omega)) rfl ?_
    | refine At.yl (Yl.mulI rfl rfl (by omega) (by omega)) rfl ?_
    | refine At.yl (Yl.quoI rfl rfl (by omega) (by omega) (by omega)) rfl ?_
    | refine At.yl (Yl.remI rfl rfl (by omega) (by omega)) rfl ?_
    | refine At.yl (Yl.lss rfl rfl) rfl ?_
    | refine At.yl (Yl.gtr rfl rfl) rfl ?_
    | refine At.yl (Yl.leq rfl rfl) rfl ?_
    | refine At.yl (Yl.geq rfl rfl) rfl ?_
    | refine At.yl (Yl.eql rfl rfl) rfl ?_
    | refine At.yl (Yl.neq rfl rfl) rfl ?_
    | refine At.yl (Yl.xorU rfl rfl) rfl ?_
    | refine At.yl (Yl.orU rfl rfl) rfl ?_
    | refine At.yl (Yl.andU rfl rfl) rfl ?_
    | refine At.yl (Yl.notU rfl) rfl ?_
    | refine At.yl (Yl.xorB rfl rfl) rfl ?_
    | refine At.yl (Yl.convBU Tryd.underlying5 Tryd.underlying48 rfl) rfl ?_
    | refine At.yl (Yl.convUB Tryd.underlying48 Tryd.underlying5 rfl) rfl ?_
    | refine At.yl (Yl.lenSl Tryd.underlying28 rfl) rfl ?_)
  exact At.retCellB (b := br) Tryd.results13 Tryd.underlying25 rfl info25 bq25 rfl gr ⟨rfl, u9.put oA (by omega)⟩
end Go.Proofs.YtbnepbdlhpkiiaaDoor

