/- The reference's round: what it computes. -/
import Derived.Test.YtbnepbdlhpkiiaaDoorSxCst
namespace Go.Proofs.YtbnepbdlhpkiiaaDoor
open Go.Sx
attribute [local irreducible] wpList Code.wp Exit.then Exit.inBlock bodyPost wpOrd Does At Yl Ef EfX arrU arrB arr

/-! ### plain: the reference's loops -/
/-- the columns' sums after k lanes -/
def cN (a : Nat → BitVec 64) : Nat → (Nat → BitVec 64)
  | 0 => fun _ => 0
  | k + 1 => upd (cN a k) (k % 5) (cN a k (k % 5) ^^^ a k)
/-- theta after k lanes -/
def tN (c a : Nat → BitVec 64) : Nat → (Nat → BitVec 64)
  | 0 => a
  | k + 1 => upd (tN c a k) k (tN c a k k ^^^ c ((k + 4) % 5) ^^^ rotl (c ((k + 1) % 5)) 1)
/-- where the t-th step of rho and pi stands -/
def xy : Nat → Nat × Nat
  | 0 => (1, 0)
  | t + 1 => ((xy t).2, (2 * (xy t).1 + 3 * (xy t).2) % 5)
theorem xy_lt : ∀ t, (xy t).1 < 5 ∧ (xy t).2 < 5
  | 0 => ⟨by decide, by decide⟩
  | t + 1 => ⟨(xy_lt t).2, Nat.mod_lt _ (by decide)⟩
def pN (a : Nat → BitVec 64) : Nat → (Nat → BitVec 64)
  | 0 => upd (fun _ => 0) 0 (a 0)
  | t + 1 => upd (pN a t) ((xy (t + 1)).1 + 5 * (xy (t + 1)).2) (rotl (a ((xy t).1 + 5 * (xy t).2)) ((t + 1) * (t + 2) / 2 % 64))
/-- chi after k lanes -/
def hN (b a : Nat → BitVec 64) : Nat → (Nat → BitVec 64)
  | 0 => a
  | k + 1 => upd (hN b a k) k (b k ^^^ (~~~ b (k / 5 * 5 + (k + 1) % 5) &&& b (k / 5 * 5 + (k + 2) % 5)))

set_option maxRecDepth 8000 in
set_option maxHeartbeats 4000000 in
theorem round_does (H : Array Obj) (a : Nat → BitVec 64) (i : Nat) (z : Int) (hz : z = (i : Int)) (hi : i < 1000) :
    Does Tryd.prog 29 #[.agg (arrU 25 a), I z] H (fun v H' => v = .agg (arrU 25 (upd (hN (pN (tN (cN a 25) a 25) 24) (tN (cN a 25) a 25) 25) 0 (hN (pN (tN (cN a 25) a 25) 24) (tN (cN a 25) a 25) 25 0 ^^^ cst i 7))) ∧ Sub H H') := by
  subst hz
  refine Does.of_body (vs := [.agg (arrU 25 a), I i]) Tryd.func29 rfl Tryd.ntmps29 rfl fun w0 => ?_
  repeat (first
    | refine At.yl (Yl.move rfl) rfl ?_
    | refine At.yl (Yl.assign rfl) rfl ?_
    | refine At.nil ?_
    | refine At.nmThen ?_
    | refine At.region ?_
    | refine At.seq ?_
    | refine At.block ?_
    | refine At.nmBlock ?_
    | refine At.skip ?_
    | refine At.exit ?_
    | refine At.exThen ?_
    | refine At.exHere ?_
    | refine At.exOther rfl ?_
    | refine At.retC ?_
    | refine At.rtThen ?_
    | refine At.rtBlock ?_
    | refine At.yl (Yl.nilCheck rfl) rfl ?_
    | refine At.yl (Yl.addI rfl rfl (by omega) (by omega)) rfl ?_
    | refine At.yl (Yl.subI rfl rfl (by omega) (by omega)) rfl ?_
    | refine At.yl (Yl.mulI rfl rfl (by omega) (by omega)) rfl ?_
    | refine At.yl (Yl.quoI rfl rfl (by omega) (by omega) (by omega)) rfl ?_
    | refine At.yl (Yl.remI rfl rfl (by omega) (by omega)) rfl ?_
    | refine At.yl (Yl.lss rfl rfl) rfl ?_
    | refine At.yl (Yl.gtr rfl rfl) rfl ?_
    | refine At.yl (Yl.leq rfl rfl) rfl ?_
    | refine At.yl (Yl.geq rfl rfl) rfl ?_
    | refine At.yl (Yl.eql rfl rfl) rfl ?_
    | refine At.yl (Yl.neq rfl rfl) rfl ?_
    | refine At.yl (Yl.xorU rfl rfl) rfl ?_
    | refine At.yl (Yl.orU rfl rfl) rfl ?_
    | refine At.yl (Yl.andU rfl rfl) rfl ?_
    | refine At.yl (Yl.notU rfl) rfl ?_
    | refine At.yl (Yl.xorB rfl rfl) rfl ?_
    | refine At.yl (Yl.convBU Tryd.underlying5 Tryd.underlying48 rfl) rfl ?_
    | refine At.yl (Yl.convUB Tryd.underlying48 Tryd.underlying5 rfl) rfl ?_
    | refine At.yl (Yl.lenSl Tryd.underlying28 rfl) rfl ?_)
  refine At.new (Ef.box rfl) rfl fun ba H1 ea s1 u1 ga => ?_
  refine At.new (Ef.allocU info52 zero52) rfl fun br H2 er s2 u2 gr => ?_
  repeat (first
    | refine At.yl (Yl.move rfl) rfl ?_
    | refine At.yl (Yl.assign rfl) rfl ?_
    | refine At.nil ?_
    | refine At.nmThen ?_
    | refine At.region ?_
    | refine At.seq ?_
    | refine At.block ?_
    | refine At.nmBlock ?_
    | refine At.skip ?_
    | refine At.exit ?_
    | refine At.exThen ?_
    | refine At.exHere ?_
    | refine At.exOther rfl ?_
    | refine At.retC ?_
    | refine At.rtThen ?_
    | refine At.rtBlock ?_
    | refine At.yl (Yl.nilCheck rfl) rfl ?_
    | refine At.yl (Yl.addI rfl rfl (by omega) (by omega)) rfl ?_
    | refine At.yl (Yl.subI rfl rfl (by omega) (by omega)) rfl ?_
    | refine At.yl (Yl.mulI rfl rfl (by omega) (by omega)) rfl ?_
    | refine At.yl (Yl.quoI rfl rfl (by omega) (by omega) (by omega)) rfl ?_
    | refine At.yl (Yl.remI rfl rfl (by omega) (by omega)) rfl ?_
    | refine At.yl (Yl.lss rfl rfl) rfl ?_
    | refine At.yl (Yl.gtr rfl rfl) rfl ?_
    | refine At.yl (Yl.leq rfl rfl) rfl ?_
    | refine At.yl (Yl.geq rfl rfl) rfl ?_
    | refine At.yl (Yl.eql rfl rfl) rfl ?_
    | refine At.yl (Yl.neq rfl rfl) rfl ?_
    | refine At.yl (Yl.xorU rfl rfl) rfl ?_
    | refine At.yl (Yl.orU rfl rfl) rfl ?_
    | refine At.yl (Yl.andU rfl rfl) rfl ?_
    | refine At.yl (Yl.notU rfl) rfl ?_
    | refine At.yl (Yl.xorB rfl rfl) rfl ?_
    | refine At.yl (Yl.convBU Tryd.underlying5 Tryd.underlying48 rfl) rfl ?_
    | refine At.yl (Yl.convUB Tryd.underlying48 Tryd.underlying5 rfl) rfl ?_
    | refine At.yl (Yl.lenSl Tryd.underlying28 rfl) rfl ?_)
  refine At.yl (Yl.buildU Tryd.underlying76 info76 zero76 info48) rfl ?_
  refine At.new (Ef.allocU info76 zero76) rfl fun bc H3 ec s3 u3 gc => ?_
  refine At.put (Ef.storeWU info76 bq76 rfl rfl gc) gc fun H4 s4 o4 gc => ?_
  have ga4 := o4.ne (u3.get (u2.get ga)) (by omega)
  have gr4 := o4.ne (u3.get gr) (by omega)
  have u4 : Sub H H4 := (u1.trans (u2.trans u3)).put o4 (by omega)
  clear ga gr o4 u3 u2 u1
  repeat (first
    | refine At.yl (Yl.move rfl) rfl ?_
    | refine At.yl (Yl.assign rfl) rfl ?_
    | refine At.nil ?_
    | refine At.nmThen ?_
    | refine At.region ?_
    | refine At.seq ?_
    | refine At.block ?_
    | refine At.nmBlock ?_
    | refine At.skip ?_
    | refine At.exit ?_
    | refine At.exThen ?_
    | refine At.exHere ?_
    | refine At.exOther rfl ?_
    | refine At.retC ?_
    | refine At.rtThen ?_
    | refine At.rtBlock ?_
    | refine At.yl (Yl.nilCheck rfl) rfl ?_
    | refine At.yl (Yl.addI rfl rfl (by omega) (by omega)) rfl ?_
    | refine At.yl (Yl.subI rfl rfl (by omega) (by omega)) rfl ?_
    | refine At.yl (Yl.mulI rfl rfl (by omega) (by omega)) rfl ?_
    | refine At.yl (Yl.quoI rfl rfl (by omega) (by omega) (by omega)) rfl ?_
    | refine At.yl (Yl.remI rfl rfl (by omega) (by omega)) rfl ?_
    | refine At.yl (Yl.lss rfl rfl) rfl ?_
    | refine At.yl (Yl.gtr rfl rfl) rfl ?_
    | refine At.yl (Yl.leq rfl rfl) rfl ?_
    | refine At.yl (Yl.geq rfl rfl) rfl ?_
    | refine At.yl (Yl.eql rfl rfl) rfl ?_
    | refine At.yl (Yl.neq rfl rfl) rfl ?_
    | refine At.yl (Yl.xorU rfl rfl) rfl ?_
    | refine At.yl (Yl.orU rfl rfl) rfl ?_
    | refine At.yl (Yl.andU rfl rfl) rfl ?_
    | refine At.yl (Yl.notU rfl) rfl ?_
    | refine At.yl (Yl.xorB rfl rfl) rfl ?_
    | refine At.yl (Yl.convBU Tryd.underlying5 Tryd.underlying48 rfl) rfl ?_
    | refine At.yl (Yl.convUB Tryd.underlying48 Tryd.underlying5 rfl) rfl ?_
    | refine At.yl (Yl.lenSl Tryd.underlying28 rfl) rfl ?_)
  refine At.yl (Yl.loadWU Tryd.underlying52 rfl info52 bq52 rfl ga4) rfl ?_
  repeat (first
    | refine At.yl (Yl.move rfl) rfl ?_
    | refine At.yl (Yl.assign rfl) rfl ?_
    | refine At.nil ?_
    | refine At.nmThen ?_
    | refine At.region ?_
    | refine At.seq ?_
    | refine At.block ?_
    | refine At.nmBlock ?_
    | refine At.skip ?_
    | refine At.exit ?_
    | refine At.exThen ?_
    | refine At.exHere ?_
    | refine At.exOther rfl ?_
    | refine At.retC ?_
    | refine At.rtThen ?_
    | refine At.rtBlock ?_
    | refine At.yl (Yl.nilCheck rfl) rfl ?_
    | refine At.yl (Yl.addI rfl rfl (by omega) (by omega)) rfl ?_
    | refine At.yl (Yl.subI rfl rfl (by omega) (by omega)) rfl ?_
    | refine At.yl (Yl.mulI rfl rfl (by omega) (by omega)) rfl ?_
    | refine At.yl (Yl.quoI rfl rfl (by omega) (by omega) (by omega)) rfl ?_
    | refine At.yl (Yl.remI rfl rfl (by omega) (by omega)) rfl ?_
    | refine At.yl (Yl.lss rfl rfl) rfl ?_
    | refine At.yl (Yl.gtr rfl rfl) rfl ?_
    | refine At.yl (Yl.leq rfl rfl) rfl ?_
    | refine At.yl (Yl.geq rfl rfl) rfl ?_
    | refine At.yl (Yl.eql rfl rfl) rfl ?_
    | refine At.yl (Yl.neq rfl rfl) rfl ?_
    | refine At.yl (Yl.xorU rfl rfl) rfl ?_
    | refine At.yl (Yl.orU rfl rfl) rfl ?_
    | refine At.yl (Yl.andU rfl rfl) rfl ?_
    | refine At.yl (Yl.notU rfl) rfl ?_
    | refine At.yl (Yl.xorB rfl rfl) rfl ?_
    | refine At.yl (Yl.convBU Tryd.underlying5 Tryd.underlying48 rfl) rfl ?_
    | refine At.yl (Yl.convUB Tryd.underlying48 Tryd.underlying5 rfl) rfl ?_
    | refine At.yl (Yl.lenSl Tryd.underlying28 rfl) rfl ?_)
  -- the columns
  refine At.loop (σ := Nat × Array Obj) (fun σ => [(1, I i), (2, ptr ba 0), (4, ptr br 0), (5, ptr bc 0), (17, .agg (arrU 25 a)), (18, I σ.1)]) (fun σ => σ.2)
    (fun σ => σ.1 ≤ 25 ∧ σ.2.size = H4.size ∧ Sub H σ.2 ∧ σ.2[ba]? = some (cellsOf (arrU 25 a) 52) ∧ σ.2[br]? = some (cellsOf (arrU 25 fun _ => 0) 52) ∧ σ.2[bc]? = some (cellsOf (arrU 5 (cN a σ.1)) 76))
    (fun σ => 25 - σ.1) (0, H4) ⟨by simp only; omega, rfl, u4, ga4, gr4, gc⟩ (.cons rfl (.cons rfl (.cons rfl (.cons rfl (.cons rfl (.cons rfl .nil)))))) rfl ?_
  clear ga4 gr4 u4
  rintro ⟨k, H5⟩ ⟨hk, s5, u5, ga, gr, gc⟩
  simp only at hk s5 u5 ga gr gc ⊢
  repeat (first
    | refine At.yl (Yl.move rfl) rfl ?_
    | refine At.yl (Yl.assign rfl) rfl ?_
    | refine At.nil ?_
    | refine At.nmThen ?_
    | refine At.region ?_
    | refine At.seq ?_
    | refine At.block ?_
    | refine At.nmBlock ?_
    | refine At.skip ?_
    | refine At.exit ?_
    | refine At.exThen ?_
    | refine At.exHere ?_
    | refine At.exOther rfl ?_
    | refine At.retC ?_
    | refine At.rtThen ?_
    | refine At.rtBlock ?_
    | refine At.yl (Yl.nilCheck rfl) rfl ?_
    | refine At.yl (Yl.addI rfl rfl (by omega) (by omega)) rfl ?_
    | refine At.yl (Yl.subI rfl rfl (by omega) (by omega)) rfl ?_
    | refine At.yl (Yl.mulI rfl rfl (by omega) (by omega)) rfl ?_
    | refine At.yl (Yl.quoI rfl rfl (by omega) (by omega) (by omega)) rfl ?_
    | refine At.yl (Yl.remI rfl rfl (by omega) (by omega)) rfl ?_
    | refine At.yl (Yl.lss rfl rfl) rfl ?_
    | refine At.yl (Yl.gtr rfl rfl) rfl ?_
    | refine At.yl (Yl.leq rfl rfl) rfl ?_
    | refine At.yl (Yl.geq rfl rfl) rfl ?_
    | refine At.yl (Yl.eql rfl rfl) rfl ?_
    | refine At.yl (Yl.neq rfl rfl) rfl ?_
    | refine At.yl (Yl.xorU rfl rfl) rfl ?_
    | refine At.yl (Yl.orU rfl rfl) rfl ?_
    | refine At.yl (Yl.andU rfl rfl) rfl ?_
    | refine At.yl (Yl.notU rfl) rfl ?_
    | refine At.yl (Yl.xorB rfl rfl) rfl ?_
    | refine At.yl (Yl.convBU Tryd.underlying5 Tryd.underlying48 rfl) rfl ?_
    | refine At.yl (Yl.convUB Tryd.underlying48 Tryd.underlying5 rfl) rfl ?_
    | refine At.yl (Yl.lenSl Tryd.underlying28 rfl) rfl ?_)
  by_cases hlt : k < 25
  · refine At.condDT rfl (by omega) ?_
    repeat (first
      | refine At.yl (Yl.move rfl) rfl ?_
      | refine At.yl (Yl.assign rfl) rfl ?_
      | refine At.nil ?_
      | refine At.nmThen ?_
      | refine At.region ?_
      | refine At.seq ?_
      | refine At.block ?_
      | refine At.nmBlock ?_
      | refine At.skip ?_
      | refine At.exit ?_
      | refine At.exThen ?_
      | refine At.exHere ?_
      | refine At.exOther rfl ?_
      | refine At.retC ?_
      | refine At.rtThen ?_
      | refine At.rtBlock ?_
      | refine At.yl (Yl.nilCheck rfl) rfl ?_
      | refine At.yl (Yl.addI rfl rfl (by omega) (by omega)) rfl ?_
      | refine At.yl (Yl.subI rfl rfl (by omega) (by omega)) rfl ?_
      | refine At.yl (Yl.mulI rfl rfl (by omega) (by omega)) rfl ?_
      | refine At.yl (Yl.quoI rfl rfl (by omega) (by omega) (by omega)) rfl ?_
      | refine At.yl (Yl.remI rfl rfl (by omega) (by omega)) rfl ?_
      | refine At.yl (Yl.lss rfl rfl) rfl ?_
      | refine At.yl (Yl.gtr rfl rfl) rfl ?_
      | refine At.yl (Yl.leq rfl rfl) rfl ?_
      | refine At.yl (Yl.geq rfl rfl) rfl ?_
      | refine At.yl (Yl.eql rfl rfl) rfl ?_
      | refine At.yl (Yl.neq rfl rfl) rfl ?_
      | refine At.yl (Yl.xorU rfl rfl) rfl ?_
      | refine At.yl (Yl.orU rfl rfl) rfl ?_
      | refine At.yl (Yl.andU rfl rfl) rfl ?_
      | refine At.yl (Yl.notU rfl) rfl ?_
      | refine At.yl (Yl.xorB rfl rfl) rfl ?_
      | refine At.yl (Yl.convBU Tryd.underlying5 Tryd.underlying48 rfl) rfl ?_
      | refine At.yl (Yl.convUB Tryd.underlying48 Tryd.underlying5 rfl) rfl ?_
      | refine At.yl (Yl.lenSl Tryd.underlying28 rfl) rfl ?_)
    refine At.yl (Yl.index Tryd.underlying52 Tryd.underlying48 rfl info48 bq48 rfl rfl rfl hlt (arrU_get _ hlt)) rfl ?_
    repeat (first
      | refine At.yl (Yl.move rfl) rfl ?_
      | refine At.yl (Yl.assign rfl) rfl ?_
      | refine At.nil ?_
      | refine At.nmThen ?_
      | refine At.region ?_
      | refine At.seq ?_
      | refine At.block ?_
      | refine At.nmBlock ?_
      | refine At.skip ?_
      | refine At.exit ?_
      | refine At.exThen ?_
      | refine At.exHere ?_
      | refine At.exOther rfl ?_
      | refine At.retC ?_
      | refine At.rtThen ?_
      | refine At.rtBlock ?_
      | refine At.yl (Yl.nilCheck rfl) rfl ?_
      | refine At.yl (Yl.addI rfl rfl (by omega) (by omega)) rfl ?_
      | refine At.yl (Yl.subI rfl rfl (by omega) (by omega)) rfl ?_
      | refine At.yl (Yl.mulI rfl rfl (by omega) (by omega)) rfl ?_
      | refine At.yl (Yl.quoI rfl rfl (by omega) (by omega) (by omega)) rfl ?_
      | refine At.yl (Yl.remI rfl rfl (by omega) (by omega)) rfl ?_
      | refine At.yl (Yl.lss rfl rfl) rfl ?_
      | refine At.yl (Yl.gtr rfl rfl) rfl ?_
      | refine At.yl (Yl.leq rfl rfl) rfl ?_
      | refine At.yl (Yl.geq rfl rfl) rfl ?_
      | refine At.yl (Yl.eql rfl rfl) rfl ?_
      | refine At.yl (Yl.neq rfl rfl) rfl ?_
      | refine At.yl (Yl.xorU rfl rfl) rfl ?_
      | refine At.yl (Yl.orU rfl rfl) rfl ?_
      | refine At.yl (Yl.andU rfl rfl) rfl ?_
      | refine At.yl (Yl.notU rfl) rfl ?_
      | refine At.yl (Yl.xorB rfl rfl) rfl ?_
      | refine At.yl (Yl.convBU Tryd.underlying5 Tryd.underlying48 rfl) rfl ?_
      | refine At.yl (Yl.convUB Tryd.underlying48 Tryd.underlying5 rfl) rfl ?_
      | refine At.yl (Yl.lenSl Tryd.underlying28 rfl) rfl ?_)
    refine At.yl (Yl.indexArr (i := k % 5) Tryd.underlying76 info48 bq48 rfl rfl (by omega) (by omega)) rfl ?_
    refine At.yl (Yl.loadU Tryd.underlying48 rfl gc rfl (by omega)) rfl ?_
    repeat (first
      | refine At.yl (Yl.move rfl) rfl ?_
      | refine At.yl (Yl.assign rfl) rfl ?_
      | refine At.nil ?_
      | refine At.nmThen ?_
      | refine At.region ?_
      | refine At.seq ?_
      | refine At.block ?_
      | refine At.nmBlock ?_
      | refine At.skip ?_
      | refine At.exit ?_
      | refine At.exThen ?_
      | refine At.exHere ?_
      | refine At.exOther rfl ?_
      | refine At.retC ?_
      | refine At.rtThen ?_
      | refine At.rtBlock ?_
      | refine At.yl (Yl.nilCheck rfl) rfl ?_
      | refine At.yl (Yl.addI rfl rfl (by omega) (by omega)) rfl ?_
      | refine At.yl (Yl.subI rfl rfl (by omega) (by omega)) rfl ?_
      | refine At.yl (Yl.mulI rfl rfl (by omega) (by omega)) rfl ?_
      | refine At.yl (Yl.quoI rfl rfl (by omega) (by omega) (by omega)) rfl ?_
      | refine At.yl (Yl.remI rfl rfl (by omega) (by omega)) rfl ?_
      | refine At.yl (Yl.lss rfl rfl) rfl ?_
      | refine At.yl (Yl.gtr rfl rfl) rfl ?_
      | refine At.yl (Yl.leq rfl rfl) rfl ?_
      | refine At.yl (Yl.geq rfl rfl) rfl ?_
      | refine At.yl (Yl.eql rfl rfl) rfl ?_
      | refine At.yl (Yl.neq rfl rfl) rfl ?_
      | refine At.yl (Yl.xorU rfl rfl) rfl ?_
      | refine At.yl (Yl.orU rfl rfl) rfl ?_
      | refine At.yl (Yl.andU rfl rfl) rfl ?_
      | refine At.yl (Yl.notU rfl) rfl ?_
      | refine At.yl (Yl.xorB rfl rfl) rfl ?_
      | refine At.yl (Yl.convBU Tryd.underlying5 Tryd.underlying48 rfl) rfl ?_
      | refine At.yl (Yl.convUB Tryd.underlying48 Tryd.underlying5 rfl) rfl ?_
      | refine At.yl (Yl.lenSl Tryd.underlying28 rfl) rfl ?_)
    refine At.yl (Yl.indexArr (i := k % 5) Tryd.underlying76 info48 bq48 rfl rfl (by omega) (by omega)) rfl ?_
    refine At.put (Ef.storeU info48 bq48 gc rfl rfl (by omega)) gc fun H6 s6 o6 gc => ?_
    repeat (first
      | refine At.yl (Yl.move rfl) rfl ?_
      | refine At.yl (Yl.assign rfl) rfl ?_
      | refine At.nil ?_
      | refine At.nmThen ?_
      | refine At.region ?_
      | refine At.seq ?_
      | refine At.block ?_
      | refine At.nmBlock ?_
      | refine At.skip ?_
      | refine At.exit ?_
      | refine At.exThen ?_
      | refine At.exHere ?_
      | refine At.exOther rfl ?_
      | refine At.retC ?_
      | refine At.rtThen ?_
      | refine At.rtBlock ?_
      | refine At.yl (Yl.nilCheck rfl) rfl ?_
      | refine At.yl (Yl.addI rfl rfl (by omega) (by omega)) rfl ?_
      | refine At.yl (Yl.subI rfl rfl (by omega) (by omega)) rfl ?_
      | refine At.yl (Yl.mulI rfl rfl (by omega) (by omega)) rfl ?_
      | refine At.yl (Yl.quoI rfl rfl (by omega) (by omega) (by omega)) rfl ?_
      | refine At.yl (Yl.remI rfl rfl (by omega) (by omega)) rfl ?_
      | refine At.yl (Yl.lss rfl rfl) rfl ?_
      | refine At.yl (Yl.gtr rfl rfl) rfl ?_
      | refine At.yl (Yl.leq rfl rfl) rfl ?_
      | refine At.yl (Yl.geq rfl rfl) rfl ?_
      | refine At.yl (Yl.eql rfl rfl) rfl ?_
      | refine At.yl (Yl.neq rfl rfl) rfl ?_
      | refine At.yl (Yl.xorU rfl rfl) rfl ?_
      | refine At.yl (Yl.orU rfl rfl) rfl ?_
      | refine At.yl (Yl.andU rfl rfl) rfl ?_
      | refine At.yl (Yl.notU rfl) rfl ?_
      | refine At.yl (Yl.xorB rfl rfl) rfl ?_
      | refine At.yl (Yl.convBU Tryd.underlying5 Tryd.underlying48 rfl) rfl ?_
      | refine At.yl (Yl.convUB Tryd.underlying48 Tryd.underlying5 rfl) rfl ?_
      | refine At.yl (Yl.lenSl Tryd.underlying28 rfl) rfl ?_)
    exact At.round (k + 1, H6) ⟨by simp only; omega, by simp only; omega, u5.put o6 (by omega), o6.ne ga (by omega), o6.ne gr (by omega), gc⟩ (by simp only; omega) (.cons rfl (.cons rfl (.cons rfl (.cons rfl (.cons rfl (.cons rfl .nil)))))) rfl
  refine At.condDF rfl (by omega) ?_
  have hk25 : k = 25 := by omega
  subst hk25
  generalize cN a 25 = c at gc ⊢
  repeat (first
    | refine At.yl (Yl.move rfl) rfl ?_
    | refine At.yl (Yl.assign rfl) rfl ?_
    | refine At.nil ?_
    | refine At.nmThen ?_
    | refine At.region ?_
    | refine At.seq ?_
    | refine At.block ?_
    | refine At.nmBlock ?_
    | refine At.skip ?_
    | refine At.exit ?_
    | refine At.exThen ?_
    | refine At.exHere ?_
    | refine At.exOther rfl ?_
    | refine At.retC ?_
    | refine At.rtThen ?_
    | refine At.rtBlock ?_
    | refine At.yl (Yl.nilCheck rfl) rfl ?_
    | refine At.yl (Yl.addI rfl rfl (by omega) (by omega)) rfl ?_
    | refine At.yl (Yl.subI rfl rfl (by omega) (by omega)) rfl ?_
    | refine At.yl (Yl.mulI rfl rfl (by omega) (by omega)) rfl ?_
    | refine At.yl (Yl.quoI rfl rfl (by omega) (by omega) (by omega)) rfl ?_
    | refine At.yl (Yl.remI rfl rfl (by omega) (by omega)) rfl ?_
    | refine At.yl (Yl.lss rfl rfl) rfl ?_
    | refine At.yl (Yl.gtr rfl rfl) rfl ?_
    | refine At.yl (Yl.leq rfl rfl) rfl ?_
    | refine At.yl (Yl.geq rfl rfl) rfl ?_
    | refine At.yl (Yl.eql rfl rfl) rfl ?_
    | refine At.yl (Yl.neq rfl rfl) rfl ?_
    | refine At.yl (Yl.xorU rfl rfl) rfl ?_
    | refine At.yl (Yl.orU rfl rfl) rfl ?_
    | refine At.yl (Yl.andU rfl rfl) rfl ?_
    | refine At.yl (Yl.notU rfl) rfl ?_
    | refine At.yl (Yl.xorB rfl rfl) rfl ?_
    | refine At.yl (Yl.convBU Tryd.underlying5 Tryd.underlying48 rfl) rfl ?_
    | refine At.yl (Yl.convUB Tryd.underlying48 Tryd.underlying5 rfl) rfl ?_
    | refine At.yl (Yl.lenSl Tryd.underlying28 rfl) rfl ?_)
  -- theta
  refine At.loop (σ := Nat × Array Obj) (fun σ => [(1, I i), (2, ptr ba 0), (4, ptr br 0), (5, ptr bc 0), (32, I σ.1)]) (fun σ => σ.2)
    (fun σ => σ.1 ≤ 25 ∧ σ.2.size = H4.size ∧ Sub H σ.2 ∧ σ.2[ba]? = some (cellsOf (arrU 25 (tN c a σ.1)) 52) ∧ σ.2[br]? = some (cellsOf (arrU 25 fun _ => 0) 52) ∧ σ.2[bc]? = some (cellsOf (arrU 5 c) 76))
    (fun σ => 25 - σ.1) (0, H5) ⟨by simp only; omega, s5, u5, ga, gr, gc⟩ (.cons rfl (.cons rfl (.cons rfl (.cons rfl (.cons rfl .nil))))) rfl ?_
  clear ga gr gc u5 s5 hk hlt
  clear H5
  rintro ⟨k, H5⟩ ⟨hk, s5, u5, ga, gr, gc⟩
  simp only at hk s5 u5 ga gr gc ⊢
  repeat (first
    | refine At.yl (Yl.move rfl) rfl ?_
    | refine At.yl (Yl.assign rfl) rfl ?_
    | refine At.nil ?_
    | refine At.nmThen ?_
    | refine At.region ?_
    | refine At.seq ?_
    | refine At.block ?_
    | refine At.nmBlock ?_
    | refine At.skip ?_
    | refine At.exit ?_
    | refine At.exThen ?_
    | refine At.exHere ?_
    | refine At.exOther rfl ?_
    | refine At.retC ?_
    | refine At.rtThen ?_
    | refine At.rtBlock ?_
    | refine At.yl (Yl.nilCheck rfl) rfl ?_
    | refine At.yl (Yl.addI rfl rfl (by omega) (by omega)) rfl ?_
    | refine At.yl (Yl.subI rfl rfl (by omega) (by omega)) rfl ?_
    | refine At.yl (Yl.mulI rfl rfl (by omega) (by omega)) rfl ?_
    | refine At.yl (Yl.quoI rfl rfl (by omega) (by omega) (by omega)) rfl ?_
    | refine At.yl (Yl.remI rfl rfl (by omega) (by omega)) rfl ?_
    | refine At.yl (Yl.lss rfl rfl) rfl ?_
    | refine At.yl (Yl.gtr rfl rfl) rfl ?_
    | refine At.yl (Yl.leq rfl rfl) rfl ?_
    | refine At.yl (Yl.geq rfl rfl) rfl ?_
    | refine At.yl (Yl.eql rfl rfl) rfl ?_
    | refine At.yl (Yl.neq rfl rfl) rfl ?_
    | refine At.yl (Yl.xorU rfl rfl) rfl ?_
    | refine At.yl (Yl.orU rfl rfl) rfl ?_
    | refine At.yl (Yl.andU rfl rfl) rfl ?_
    | refine At.yl (Yl.notU rfl) rfl ?_
    | refine At.yl (Yl.xorB rfl rfl) rfl ?_
    | refine At.yl (Yl.convBU Tryd.underlying5 Tryd.underlying48 rfl) rfl ?_
    | refine At.yl (Yl.convUB Tryd.underlying48 Tryd.underlying5 rfl) rfl ?_
    | refine At.yl (Yl.lenSl Tryd.underlying28 rfl) rfl ?_)
  by_cases hlt : k < 25
  · refine At.condDT rfl (by omega) ?_
    repeat (first
      | refine At.yl (Yl.move rfl) rfl ?_
      | refine At.yl (Yl.assign rfl) rfl ?_
      | refine At.nil ?_
      | refine At.nmThen ?_
      | refine At.region ?_
      | refine At.seq ?_
      | refine At.block ?_
      | refine At.nmBlock ?_
      | refine At.skip ?_
      | refine At.exit ?_
      | refine At.exThen ?_
      | refine At.exHere ?_
      | refine At.exOther rfl ?_
      | refine At.retC ?_
      | refine At.rtThen ?_
      | refine At.rtBlock ?_
      | refine At.yl (Yl.nilCheck rfl) rfl ?_
      | refine At.yl (Yl.addI rfl rfl (by omega) (by omega)) rfl ?_
      | refine At.yl (Yl.subI rfl rfl (by omega) (by omega)) rfl ?_
      | refine At.yl (Yl.mulI rfl rfl (by omega) (by omega)) rfl ?_
      | refine At.yl (Yl.quoI rfl rfl (by omega) (by omega) (by omega)) rfl ?_
      | refine At.yl (Yl.remI rfl rfl (by omega) (by omega)) rfl ?_
      | refine At.yl (Yl.lss rfl rfl) rfl ?_
      | refine At.yl (Yl.gtr rfl rfl) rfl ?_
      | refine At.yl (Yl.leq rfl rfl) rfl ?_
      | refine At.yl (Yl.geq rfl rfl) rfl ?_
      | refine At.yl (Yl.eql rfl rfl) rfl ?_
      | refine At.yl (Yl.neq rfl rfl) rfl ?_
      | refine At.yl (Yl.xorU rfl rfl) rfl ?_
      | refine At.yl (Yl.orU rfl rfl) rfl ?_
      | refine At.yl (Yl.andU rfl rfl) rfl ?_
      | refine At.yl (Yl.notU rfl) rfl ?_
      | refine At.yl (Yl.xorB rfl rfl) rfl ?_
      | refine At.yl (Yl.convBU Tryd.underlying5 Tryd.underlying48 rfl) rfl ?_
      | refine At.yl (Yl.convUB Tryd.underlying48 Tryd.underlying5 rfl) rfl ?_
      | refine At.yl (Yl.lenSl Tryd.underlying28 rfl) rfl ?_)
    refine At.draws 18 (ordFrom 0 15 ++ [(15, true), (16, false), (17, false)]) rfl (by decide +kernel) (by repeat (first | exact QP.body _ _ _ | refine QP.thn ?_ | refine QP.blk ?_)) ?_
    show At _ _ _ _ (wpOrd _ _ _ _ _ [(0, false), (1, false), (2, false), (3, false), (4, false), (5, false), (6, false), (7, false), (8, false), (9, false), (10, false), (11, false), (12, false), (13, false), (14, false), (15, true), (16, false), (17, false)])
    repeat (first
      | refine At.ordY (Sub.refl _) rfl (Yl.move rfl) rfl ?_
      | refine At.ordY (Sub.refl _) rfl (Yl.assign rfl) rfl ?_
      | refine At.ordY (Sub.refl _) rfl (Yl.nilCheck rfl) rfl ?_
      | refine At.ordY (Sub.refl _) rfl (Yl.addI rfl rfl (by omega) (by omega)) rfl ?_
      | refine At.ordY (Sub.refl _) rfl (Yl.subI rfl rfl (by omega) (by omega)) rfl ?_
      | refine At.ordY (Sub.refl _) rfl (Yl.mulI rfl rfl (by omega) (by omega)) rfl ?_
      | refine At.ordY (Sub.refl _) rfl (Yl.quoI rfl rfl (by omega) (by omega) (by omega)) rfl ?_
      | refine At.ordY (Sub.refl _) rfl (Yl.remI rfl rfl (by omega) (by omega)) rfl ?_
      | refine At.ordY (Sub.refl _) rfl (Yl.lss rfl rfl) rfl ?_
      | refine At.ordY (Sub.refl _) rfl (Yl.gtr rfl rfl) rfl ?_
      | refine At.ordY (Sub.refl _) rfl (Yl.leq rfl rfl) rfl ?_
      | refine At.ordY (Sub.refl _) rfl (Yl.geq rfl rfl) rfl ?_
      | refine At.ordY (Sub.refl _) rfl (Yl.eql rfl rfl) rfl ?_
      | refine At.ordY (Sub.refl _) rfl (Yl.neq rfl rfl) rfl ?_
      | refine At.ordY (Sub.refl _) rfl (Yl.xorU rfl rfl) rfl ?_
      | refine At.ordY (Sub.refl _) rfl (Yl.orU rfl rfl) rfl ?_
      | refine At.ordY (Sub.refl _) rfl (Yl.andU rfl rfl) rfl ?_
      | refine At.ordY (Sub.refl _) rfl (Yl.notU rfl) rfl ?_
      | refine At.ordY (Sub.refl _) rfl (Yl.xorB rfl rfl) rfl ?_
      | refine At.ordY (Sub.refl _) rfl (Yl.convBU Tryd.underlying5 Tryd.underlying48 rfl) rfl ?_
      | refine At.ordY (Sub.refl _) rfl (Yl.convUB Tryd.underlying48 Tryd.underlying5 rfl) rfl ?_
      | refine At.ordY (Sub.refl _) rfl (Yl.lenSl Tryd.underlying28 rfl) rfl ?_)
    refine At.ordY (Sub.refl _) rfl (Yl.indexArr (i := k) Tryd.underlying52 info48 bq48 rfl rfl rfl hlt) rfl ?_
    refine At.ordY (Sub.refl _) rfl (Yl.loadU Tryd.underlying48 rfl ga rfl hlt) rfl ?_
    repeat (first
      | refine At.ordY (Sub.refl _) rfl (Yl.move rfl) rfl ?_
      | refine At.ordY (Sub.refl _) rfl (Yl.assign rfl) rfl ?_
      | refine At.ordY (Sub.refl _) rfl (Yl.nilCheck rfl) rfl ?_
      | refine At.ordY (Sub.refl _) rfl (Yl.addI rfl rfl (by omega) (by omega)) rfl ?_
      | refine At.ordY (Sub.refl _) rfl (Yl.subI rfl rfl (by omega) (by omega)) rfl ?_
      | refine At.ordY (Sub.refl _) rfl (Yl.mulI rfl rfl (by omega) (by omega)) rfl ?_
      | refine At.ordY (Sub.refl _) rfl (Yl.quoI rfl rfl (by omega) (by omega) (by omega)) rfl ?_
      | refine At.ordY (Sub.refl _) rfl (Yl.remI rfl rfl (by omega) (by omega)) rfl ?_
      | refine At.ordY (Sub.refl _) rfl (Yl.lss rfl rfl) rfl ?_
      | refine At.ordY (Sub.refl _) rfl (Yl.gtr rfl rfl) rfl ?_
      | refine At.ordY (Sub.refl _) rfl (Yl.leq rfl rfl) rfl ?_
      | refine At.ordY (Sub.refl _) rfl (Yl.geq rfl rfl) rfl ?_
      | refine At.ordY (Sub.refl _) rfl (Yl.eql rfl rfl) rfl ?_
      | refine At.ordY (Sub.refl _) rfl (Yl.neq rfl rfl) rfl ?_
      | refine At.ordY (Sub.refl _) rfl (Yl.xorU rfl rfl) rfl ?_
      | refine At.ordY (Sub.refl _) rfl (Yl.orU rfl rfl) rfl ?_
      | refine At.ordY (Sub.refl _) rfl (Yl.andU rfl rfl) rfl ?_
      | refine At.ordY (Sub.refl _) rfl (Yl.notU rfl) rfl ?_
      | refine At.ordY (Sub.refl _) rfl (Yl.xorB rfl rfl) rfl ?_
      | refine At.ordY (Sub.refl _) rfl (Yl.convBU Tryd.underlying5 Tryd.underlying48 rfl) rfl ?_
      | refine At.ordY (Sub.refl _) rfl (Yl.convUB Tryd.underlying48 Tryd.underlying5 rfl) rfl ?_
      | refine At.ordY (Sub.refl _) rfl (Yl.lenSl Tryd.underlying28 rfl) rfl ?_)
    refine At.ordY (Sub.refl _) rfl (Yl.indexArr (i := (k + 4) % 5) Tryd.underlying76 info48 bq48 rfl rfl (by omega) (by omega)) rfl ?_
    refine At.ordY (Sub.refl _) rfl (Yl.loadU Tryd.underlying48 rfl gc rfl (by omega)) rfl ?_
    repeat (first
      | refine At.ordY (Sub.refl _) rfl (Yl.move rfl) rfl ?_
      | refine At.ordY (Sub.refl _) rfl (Yl.assign rfl) rfl ?_
      | refine At.ordY (Sub.refl _) rfl (Yl.nilCheck rfl) rfl ?_
      | refine At.ordY (Sub.refl _) rfl (Yl.addI rfl rfl (by omega) (by omega)) rfl ?_
      | refine At.ordY (Sub.refl _) rfl (Yl.subI rfl rfl (by omega) (by omega)) rfl ?_
      | refine At.ordY (Sub.refl _) rfl (Yl.mulI rfl rfl (by omega) (by omega)) rfl ?_
      | refine At.ordY (Sub.refl _) rfl (Yl.quoI rfl rfl (by omega) (by omega) (by omega)) rfl ?_
      | refine At.ordY (Sub.refl _) rfl (Yl.remI rfl rfl (by omega) (by omega)) rfl ?_
      | refine At.ordY (Sub.refl _) rfl (Yl.lss rfl rfl) rfl ?_
      | refine At.ordY (Sub.refl _) rfl (Yl.gtr rfl rfl) rfl ?_
      | refine At.ordY (Sub.refl _) rfl (Yl.leq rfl rfl) rfl ?_
      | refine At.ordY (Sub.refl _) rfl (Yl.geq rfl rfl) rfl ?_
      | refine At.ordY (Sub.refl _) rfl (Yl.eql rfl rfl) rfl ?_
      | refine At.ordY (Sub.refl _) rfl (Yl.neq rfl rfl) rfl ?_
      | refine At.ordY (Sub.refl _) rfl (Yl.xorU rfl rfl) rfl ?_
      | refine At.ordY (Sub.refl _) rfl (Yl.orU rfl rfl) rfl ?_
      | refine At.ordY (Sub.refl _) rfl (Yl.andU rfl rfl) rfl ?_
      | refine At.ordY (Sub.refl _) rfl (Yl.notU rfl) rfl ?_
      | refine At.ordY (Sub.refl _) rfl (Yl.xorB rfl rfl) rfl ?_
      | refine At.ordY (Sub.refl _) rfl (Yl.convBU Tryd.underlying5 Tryd.underlying48 rfl) rfl ?_
      | refine At.ordY (Sub.refl _) rfl (Yl.convUB Tryd.underlying48 Tryd.underlying5 rfl) rfl ?_
      | refine At.ordY (Sub.refl _) rfl (Yl.lenSl Tryd.underlying28 rfl) rfl ?_)
    refine At.ordY (Sub.refl _) rfl (Yl.indexArr (i := (k + 1) % 5) Tryd.underlying76 info48 bq48 rfl rfl (by omega) (by omega)) rfl ?_
    refine At.ordY (Sub.refl _) rfl (Yl.loadU Tryd.underlying48 rfl gc rfl (by omega)) rfl ?_
    refine At.ordC (Sub.refl _) rfl Tryd.call40 rfl rfl (left_does _ _ 1 1 rfl (by omega)) ?_
    rintro v H' ⟨rfl, rfl⟩
    repeat (first
      | refine At.ordY (Sub.refl _) rfl (Yl.move rfl) rfl ?_
      | refine At.ordY (Sub.refl _) rfl (Yl.assign rfl) rfl ?_
      | refine At.ordY (Sub.refl _) rfl (Yl.nilCheck rfl) rfl ?_
      | refine At.ordY (Sub.refl _) rfl (Yl.addI rfl rfl (by omega) (by omega)) rfl ?_
      | refine At.ordY (Sub.refl _) rfl (Yl.subI rfl rfl (by omega) (by omega)) rfl ?_
      | refine At.ordY (Sub.refl _) rfl (Yl.mulI rfl rfl (by omega) (by omega)) rfl ?_
      | refine At.ordY (Sub.refl _) rfl (Yl.quoI rfl rfl (by omega) (by omega) (by omega)) rfl ?_
      | refine At.ordY (Sub.refl _) rfl (Yl.remI rfl rfl (by omega) (by omega)) rfl ?_
      | refine At.ordY (Sub.refl _) rfl (Yl.lss rfl rfl) rfl ?_
      | refine At.ordY (Sub.refl _) rfl (Yl.gtr rfl rfl) rfl ?_
      | refine At.ordY (Sub.refl _) rfl (Yl.leq rfl rfl) rfl ?_
      | refine At.ordY (Sub.refl _) rfl (Yl.geq rfl rfl) rfl ?_
      | refine At.ordY (Sub.refl _) rfl (Yl.eql rfl rfl) rfl ?_
      | refine At.ordY (Sub.refl _) rfl (Yl.neq rfl rfl) rfl ?_
      | refine At.ordY (Sub.refl _) rfl (Yl.xorU rfl rfl) rfl ?_
      | refine At.ordY (Sub.refl _) rfl (Yl.orU rfl rfl) rfl ?_
      | refine At.ordY (Sub.refl _) rfl (Yl.andU rfl rfl) rfl ?_
      | refine At.ordY (Sub.refl _) rfl (Yl.notU rfl) rfl ?_
      | refine At.ordY (Sub.refl _) rfl (Yl.xorB rfl rfl) rfl ?_
      | refine At.ordY (Sub.refl _) rfl (Yl.convBU Tryd.underlying5 Tryd.underlying48 rfl) rfl ?_
      | refine At.ordY (Sub.refl _) rfl (Yl.convUB Tryd.underlying48 Tryd.underlying5 rfl) rfl ?_
      | refine At.ordY (Sub.refl _) rfl (Yl.lenSl Tryd.underlying28 rfl) rfl ?_)
    refine At.ordY (Sub.refl _) rfl (Yl.indexArr (i := k) Tryd.underlying52 info48 bq48 rfl rfl rfl hlt) rfl ?_
    refine At.ordNil (Sub.refl _) ?_
    refine At.put (Ef.storeU info48 bq48 ga rfl rfl hlt) ga fun H6 s6 o6 ga => ?_
    repeat (first
      | refine At.yl (Yl.move rfl) rfl ?_
      | refine At.yl (Yl.assign rfl) rfl ?_
      | refine At.nil ?_
      | refine At.nmThen ?_
      | refine At.region ?_
      | refine At.seq ?_
      | refine At.block ?_
      | refine At.nmBlock ?_
      | refine At.skip ?_
      | refine At.exit ?_
      | refine At.exThen ?_
      | refine At.exHere ?_
      | refine At.exOther rfl ?_
      | refine At.retC ?_
      | refine At.rtThen ?_
      | refine At.rtBlock ?_
      | refine At.yl (Yl.nilCheck rfl) rfl ?_
      | refine At.yl (Yl.addI rfl rfl (by omega) (by omega)) rfl ?_
      | refine At.yl (Yl.subI rfl rfl (by omega) (by omega)) rfl ?_
      | refine At.yl (Yl.mulI rfl rfl (by omega) (by omega)) rfl ?_
      | refine At.yl (Yl.quoI rfl rfl (by omega) (by omega) (by omega)) rfl ?_
      | refine At.yl (Yl.remI rfl rfl (by omega) (by omega)) rfl ?_
      | refine At.yl (Yl.lss rfl rfl) rfl ?_
      | refine At.yl (Yl.gtr rfl rfl) rfl ?_
      | refine At.yl (Yl.leq rfl rfl) rfl ?_
      | refine At.yl (Yl.geq rfl rfl) rfl ?_
      | refine At.yl (Yl.eql rfl rfl) rfl ?_
      | refine At.yl (Yl.neq rfl rfl) rfl ?_
      | refine At.yl (Yl.xorU rfl rfl) rfl ?_
      | refine At.yl (Yl.orU rfl rfl) rfl ?_
      | refine At.yl (Yl.andU rfl rfl) rfl ?_
      | refine At.yl (Yl.notU rfl) rfl ?_
      | refine At.yl (Yl.xorB rfl rfl) rfl ?_
      | refine At.yl (Yl.convBU Tryd.underlying5 Tryd.underlying48 rfl) rfl ?_
      | refine At.yl (Yl.convUB Tryd.underlying48 Tryd.underlying5 rfl) rfl ?_
      | refine At.yl (Yl.lenSl Tryd.underlying28 rfl) rfl ?_)
    exact At.round (k + 1, H6) ⟨by simp only; omega, by simp only; omega, u5.put o6 (by omega), ga, o6.ne gr (by omega), o6.ne gc (by omega)⟩ (by simp only; omega) (Sb.cons rfl (Sb.cons rfl (Sb.cons rfl (Sb.cons rfl (Sb.cons rfl (Sb.nil)))))) rfl
  refine At.condDF rfl (by omega) ?_
  have hk25 : k = 25 := by omega
  subst hk25
  generalize tN c a 25 = e at ga ⊢
  clear gc
  repeat (first
    | refine At.yl (Yl.move rfl) rfl ?_
    | refine At.yl (Yl.assign rfl) rfl ?_
    | refine At.nil ?_
    | refine At.nmThen ?_
    | refine At.region ?_
    | refine At.seq ?_
    | refine At.block ?_
    | refine At.nmBlock ?_
    | refine At.skip ?_
    | refine At.exit ?_
    | refine At.exThen ?_
    | refine At.exHere ?_
    | refine At.exOther rfl ?_
    | refine At.retC ?_
    | refine At.rtThen ?_
    | refine At.rtBlock ?_
    | refine At.yl (Yl.nilCheck rfl) rfl ?_
    | refine At.yl (Yl.addI rfl rfl (by omega) (by omega)) rfl ?_
    | refine At.yl (Yl.subI rfl rfl (by omega) (by omega)) rfl ?_
    | refine At.yl (Yl.mulI rfl rfl (by omega) (by omega)) rfl ?_
    | refine At.yl (Yl.quoI rfl rfl (by omega) (by omega) (by omega)) rfl ?_
    | refine At.yl (Yl.remI rfl rfl (by omega) (by omega)) rfl ?_
    | refine At.yl (Yl.lss rfl rfl) rfl ?_
    | refine At.yl (Yl.gtr rfl rfl) rfl ?_
    | refine At.yl (Yl.leq rfl rfl) rfl ?_
    | refine At.yl (Yl.geq rfl rfl) rfl ?_
    | refine At.yl (Yl.eql rfl rfl) rfl ?_
    | refine At.yl (Yl.neq rfl rfl) rfl ?_
    | refine At.yl (Yl.xorU rfl rfl) rfl ?_
    | refine At.yl (Yl.orU rfl rfl) rfl ?_
    | refine At.yl (Yl.andU rfl rfl) rfl ?_
    | refine At.yl (Yl.notU rfl) rfl ?_
    | refine At.yl (Yl.xorB rfl rfl) rfl ?_
    | refine At.yl (Yl.convBU Tryd.underlying5 Tryd.underlying48 rfl) rfl ?_
    | refine At.yl (Yl.convUB Tryd.underlying48 Tryd.underlying5 rfl) rfl ?_
    | refine At.yl (Yl.lenSl Tryd.underlying28 rfl) rfl ?_)
  -- rho and pi
  refine At.yl (Yl.buildU Tryd.underlying52 info52 zero52 info48) rfl ?_
  refine At.new (Ef.allocU info52 zero52) rfl fun bb H6 eb s6 u6 gb => ?_
  refine At.put (Ef.storeWU info52 bq52 rfl rfl gb) gb fun H7 s7 o7 gb => ?_
  have ga7 := o7.ne (u6.get ga) (by have := lt_of_get ga; omega)
  have gr7 := o7.ne (u6.get gr) (by have := lt_of_get gr; omega)
  have u7 : Sub H H7 := (u5.trans u6).put o7 (by have := u5.size; omega)
  have hba := lt_of_get ga
  have hbr := lt_of_get gr
  repeat (first
    | refine At.yl (Yl.move rfl) rfl ?_
    | refine At.yl (Yl.assign rfl) rfl ?_
    | refine At.nil ?_
    | refine At.nmThen ?_
    | refine At.region ?_
    | refine At.seq ?_
    | refine At.block ?_
    | refine At.nmBlock ?_
    | refine At.skip ?_
    | refine At.exit ?_
    | refine At.exThen ?_
    | refine At.exHere ?_
    | refine At.exOther rfl ?_
    | refine At.retC ?_
    | refine At.rtThen ?_
    | refine At.rtBlock ?_
    | refine At.yl (Yl.nilCheck rfl) rfl ?_
    | refine At.yl (Yl.addI rfl rfl (by omega) (by omega)) rfl ?_
    | refine At.yl (Yl.subI rfl rfl (by omega) (by omega)) rfl ?_
    | refine At.yl (Yl.mulI rfl rfl (by omega) (by omega)) rfl ?_
    | refine At.yl (Yl.quoI rfl rfl (by omega) (by omega) (by omega)) rfl ?_
    | refine At.yl (Yl.remI rfl rfl (by omega) (by omega)) rfl ?_
    | refine At.yl (Yl.lss rfl rfl) rfl ?_
    | refine At.yl (Yl.gtr rfl rfl) rfl ?_
    | refine At.yl (Yl.leq rfl rfl) rfl ?_
    | refine At.yl (Yl.geq rfl rfl) rfl ?_
    | refine At.yl (Yl.eql rfl rfl) rfl ?_
    | refine At.yl (Yl.neq rfl rfl) rfl ?_
    | refine At.yl (Yl.xorU rfl rfl) rfl ?_
    | refine At.yl (Yl.orU rfl rfl) rfl ?_
    | refine At.yl (Yl.andU rfl rfl) rfl ?_
    | refine At.yl (Yl.notU rfl) rfl ?_
    | refine At.yl (Yl.xorB rfl rfl) rfl ?_
    | refine At.yl (Yl.convBU Tryd.underlying5 Tryd.underlying48 rfl) rfl ?_
    | refine At.yl (Yl.convUB Tryd.underlying48 Tryd.underlying5 rfl) rfl ?_
    | refine At.yl (Yl.lenSl Tryd.underlying28 rfl) rfl ?_)
  refine At.yl (Yl.indexArr (i := 0) Tryd.underlying52 info48 bq48 rfl rfl rfl (by omega)) rfl ?_
  refine At.yl (Yl.loadU Tryd.underlying48 rfl ga7 rfl (by omega)) rfl ?_
  refine At.yl (Yl.indexArr (i := 0) Tryd.underlying52 info48 bq48 rfl rfl rfl (by omega)) rfl ?_
  refine At.put (Ef.storeU info48 bq48 gb rfl rfl (by omega)) gb fun H8 s8 o8 gb => ?_
  have ga8 := o8.ne ga7 (by omega)
  have gr8 := o8.ne gr7 (by omega)
  have u8 : Sub H H8 := u7.put o8 (by have := u5.size; omega)
  have hHb : H.size ≤ bb := by have := u5.size; omega
  clear ga7 gr7 u7 u6 o7 o8 ga gr
  repeat (first
    | refine At.yl (Yl.move rfl) rfl ?_
    | refine At.yl (Yl.assign rfl) rfl ?_
    | refine At.nil ?_
    | refine At.nmThen ?_
    | refine At.region ?_
    | refine At.seq ?_
    | refine At.block ?_
    | refine At.nmBlock ?_
    | refine At.skip ?_
    | refine At.exit ?_
    | refine At.exThen ?_
    | refine At.exHere ?_
    | refine At.exOther rfl ?_
    | refine At.retC ?_
    | refine At.rtThen ?_
    | refine At.rtBlock ?_
    | refine At.yl (Yl.nilCheck rfl) rfl ?_
    | refine At.yl (Yl.addI rfl rfl (by omega) (by omega)) rfl ?_
    | refine At.yl (Yl.subI rfl rfl (by omega) (by omega)) rfl ?_
    | refine At.yl (Yl.mulI rfl rfl (by omega) (by omega)) rfl ?_
    | refine At.yl (Yl.quoI rfl rfl (by omega) (by omega) (by omega)) rfl ?_
    | refine At.yl (Yl.remI rfl rfl (by omega) (by omega)) rfl ?_
    | refine At.yl (Yl.lss rfl rfl) rfl ?_
    | refine At.yl (Yl.gtr rfl rfl) rfl ?_
    | refine At.yl (Yl.leq rfl rfl) rfl ?_
    | refine At.yl (Yl.geq rfl rfl) rfl ?_
    | refine At.yl (Yl.eql rfl rfl) rfl ?_
    | refine At.yl (Yl.neq rfl rfl) rfl ?_
    | refine At.yl (Yl.xorU rfl rfl) rfl ?_
    | refine At.yl (Yl.orU rfl rfl) rfl ?_
    | refine At.yl (Yl.andU rfl rfl) rfl ?_
    | refine At.yl (Yl.notU rfl) rfl ?_
    | refine At.yl (Yl.xorB rfl rfl) rfl ?_
    | refine At.yl (Yl.convBU Tryd.underlying5 Tryd.underlying48 rfl) rfl ?_
    | refine At.yl (Yl.convUB Tryd.underlying48 Tryd.underlying5 rfl) rfl ?_
    | refine At.yl (Yl.lenSl Tryd.underlying28 rfl) rfl ?_)
  refine At.loop (σ := Nat × Array Obj) (fun σ => [(1, I i), (2, ptr ba 0), (4, ptr br 0), (9, ptr bb 0), (10, I ((xy σ.1).1 : Nat)), (11, I ((xy σ.1).2 : Nat)), (12, I σ.1)]) (fun σ => σ.2)
    (fun σ => σ.1 ≤ 24 ∧ σ.2.size = H8.size ∧ Sub H σ.2 ∧ σ.2[ba]? = some (cellsOf (arrU 25 e) 52) ∧ σ.2[br]? = some (cellsOf (arrU 25 fun _ => 0) 52) ∧ σ.2[bb]? = some (cellsOf (arrU 25 (pN e σ.1)) 52))
    (fun σ => 24 - σ.1) (0, H8) ⟨by simp only; omega, rfl, u8, ga8, gr8, gb⟩ (Sb.cons rfl (Sb.cons rfl (Sb.cons rfl (Sb.cons rfl (Sb.cons rfl (Sb.cons rfl (Sb.cons rfl (Sb.nil)))))))) rfl ?_
  clear ga8 gr8 u8 gb u5 s5
  have hbb : bb < H8.size := by omega
  have hba' : ba ≠ bb := by omega
  have hbr' : br ≠ bb := by omega
  clear s6 s7 s8 hk hlt eb
  rintro ⟨t, H9⟩ ⟨hk, s5, u5, ga, gr, gb⟩
  simp only at hk s5 u5 ga gr gb ⊢
  have hxy := xy_lt t
  repeat (first
    | refine At.yl (Yl.move rfl) rfl ?_
    | refine At.yl (Yl.assign rfl) rfl ?_
    | refine At.nil ?_
    | refine At.nmThen ?_
    | refine At.region ?_
    | refine At.seq ?_
    | refine At.block ?_
    | refine At.nmBlock ?_
    | refine At.skip ?_
    | refine At.exit ?_
    | refine At.exThen ?_
    | refine At.exHere ?_
    | refine At.exOther rfl ?_
    | refine At.retC ?_
    | refine At.rtThen ?_
    | refine At.rtBlock ?_
    | refine At.yl (Yl.nilCheck rfl) rfl ?_
    | refine At.yl (Yl.addI rfl rfl (by omega) (by omega)) rfl ?_
    | refine At.yl (Yl.subI rfl rfl (by omega) (by omega)) rfl ?_
    | refine At.yl (Yl.mulI rfl rfl (by omega) (by omega)) rfl ?_
    | refine At.yl (Yl.quoI rfl rfl (by omega) (by omega) (by omega)) rfl ?_
    | refine At.yl (Yl.remI rfl rfl (by omega) (by omega)) rfl ?_
    | refine At.yl (Yl.lss rfl rfl) rfl ?_
    | refine At.yl (Yl.gtr rfl rfl) rfl ?_
    | refine At.yl (Yl.leq rfl rfl) rfl ?_
    | refine At.yl (Yl.geq rfl rfl) rfl ?_
    | refine At.yl (Yl.eql rfl rfl) rfl ?_
    | refine At.yl (Yl.neq rfl rfl) rfl ?_
    | refine At.yl (Yl.xorU rfl rfl) rfl ?_
    | refine At.yl (Yl.orU rfl rfl) rfl ?_
    | refine At.yl (Yl.andU rfl rfl) rfl ?_
    | refine At.yl (Yl.notU rfl) rfl ?_
    | refine At.yl (Yl.xorB rfl rfl) rfl ?_
    | refine At.yl (Yl.convBU Tryd.underlying5 Tryd.underlying48 rfl) rfl ?_
    | refine At.yl (Yl.convUB Tryd.underlying48 Tryd.underlying5 rfl) rfl ?_
    | refine At.yl (Yl.lenSl Tryd.underlying28 rfl) rfl ?_)
  by_cases hlt : t < 24
  · refine At.condDT rfl (by omega) ?_
    repeat (first
      | refine At.yl (Yl.move rfl) rfl ?_
      | refine At.yl (Yl.assign rfl) rfl ?_
      | refine At.nil ?_
      | refine At.nmThen ?_
      | refine At.region ?_
      | refine At.seq ?_
      | refine At.block ?_
      | refine At.nmBlock ?_
      | refine At.skip ?_
      | refine At.exit ?_
      | refine At.exThen ?_
      | refine At.exHere ?_
      | refine At.exOther rfl ?_
      | refine At.retC ?_
      | refine At.rtThen ?_
      | refine At.rtBlock ?_
      | refine At.yl (Yl.nilCheck rfl) rfl ?_
      | refine At.yl (Yl.addI rfl rfl (by omega) (by omega)) rfl ?_
      | refine At.yl (Yl.subI rfl rfl (by omega) (by omega)) rfl ?_
      | refine At.yl (Yl.mulI rfl rfl (by omega) (by omega)) rfl ?_
      | refine At.yl (Yl.quoI rfl rfl (by omega) (by omega) (by omega)) rfl ?_
      | refine At.yl (Yl.remI rfl rfl (by omega) (by omega)) rfl ?_
      | refine At.yl (Yl.lss rfl rfl) rfl ?_
      | refine At.yl (Yl.gtr rfl rfl) rfl ?_
      | refine At.yl (Yl.leq rfl rfl) rfl ?_
      | refine At.yl (Yl.geq rfl rfl) rfl ?_
      | refine At.yl (Yl.eql rfl rfl) rfl ?_
      | refine At.yl (Yl.neq rfl rfl) rfl ?_
      | refine At.yl (Yl.xorU rfl rfl) rfl ?_
      | refine At.yl (Yl.orU rfl rfl) rfl ?_
      | refine At.yl (Yl.andU rfl rfl) rfl ?_
      | refine At.yl (Yl.notU rfl) rfl ?_
      | refine At.yl (Yl.xorB rfl rfl) rfl ?_
      | refine At.yl (Yl.convBU Tryd.underlying5 Tryd.underlying48 rfl) rfl ?_
      | refine At.yl (Yl.convUB Tryd.underlying48 Tryd.underlying5 rfl) rfl ?_
      | refine At.yl (Yl.lenSl Tryd.underlying28 rfl) rfl ?_)
    refine At.yl (Yl.indexArr (i := (xy t).1 + 5 * (xy t).2) Tryd.underlying52 info48 bq48 rfl rfl (by omega) (by omega)) rfl ?_
    refine At.yl (Yl.loadU Tryd.underlying48 rfl ga rfl (by omega)) rfl ?_
    repeat (first
      | refine At.yl (Yl.move rfl) rfl ?_
      | refine At.yl (Yl.assign rfl) rfl ?_
      | refine At.nil ?_
      | refine At.nmThen ?_
      | refine At.region ?_
      | refine At.seq ?_
      | refine At.block ?_
      | refine At.nmBlock ?_
      | refine At.skip ?_
      | refine At.exit ?_
      | refine At.exThen ?_
      | refine At.exHere ?_
      | refine At.exOther rfl ?_
      | refine At.retC ?_
      | refine At.rtThen ?_
      | refine At.rtBlock ?_
      | refine At.yl (Yl.nilCheck rfl) rfl ?_
      | refine At.yl (Yl.addI rfl rfl (by omega) (by omega)) rfl ?_
      | refine At.yl (Yl.subI rfl rfl (by omega) (by omega)) rfl ?_
      | refine At.yl (Yl.mulI rfl rfl (by omega) (by omega)) rfl ?_
      | refine At.yl (Yl.quoI rfl rfl (by omega) (by omega) (by omega)) rfl ?_
      | refine At.yl (Yl.remI rfl rfl (by omega) (by omega)) rfl ?_
      | refine At.yl (Yl.lss rfl rfl) rfl ?_
      | refine At.yl (Yl.gtr rfl rfl) rfl ?_
      | refine At.yl (Yl.leq rfl rfl) rfl ?_
      | refine At.yl (Yl.geq rfl rfl) rfl ?_
      | refine At.yl (Yl.eql rfl rfl) rfl ?_
      | refine At.yl (Yl.neq rfl rfl) rfl ?_
      | refine At.yl (Yl.xorU rfl rfl) rfl ?_
      | refine At.yl (Yl.orU rfl rfl) rfl ?_
      | refine At.yl (Yl.andU rfl rfl) rfl ?_
      | refine At.yl (Yl.notU rfl) rfl ?_
      | refine At.yl (Yl.xorB rfl rfl) rfl ?_
      | refine At.yl (Yl.convBU Tryd.underlying5 Tryd.underlying48 rfl) rfl ?_
      | refine At.yl (Yl.convUB Tryd.underlying48 Tryd.underlying5 rfl) rfl ?_
      | refine At.yl (Yl.lenSl Tryd.underlying28 rfl) rfl ?_)
    have hm1 : ((t : Int) + 1) * ((t : Int) + 2) = (((t + 1) * (t + 2) : Nat) : Int) := by push_cast; rfl
    have hm2 : (t + 1) * (t + 2) ≤ 24 * 25 := Nat.mul_le_mul (by omega) (by omega)
    refine At.yl (Yl.mulI rfl rfl (by omega) (by omega)) rfl ?_
    repeat (first
      | refine At.yl (Yl.move rfl) rfl ?_
      | refine At.yl (Yl.assign rfl) rfl ?_
      | refine At.nil ?_
      | refine At.nmThen ?_
      | refine At.region ?_
      | refine At.seq ?_
      | refine At.block ?_
      | refine At.nmBlock ?_
      | refine At.skip ?_
      | refine At.exit ?_
      | refine At.exThen ?_
      | refine At.exHere ?_
      | refine At.exOther rfl ?_
      | refine At.retC ?_
      | refine At.rtThen ?_
      | refine At.rtBlock ?_
      | refine At.yl (Yl.nilCheck rfl) rfl ?_
      | refine At.yl (Yl.addI rfl rfl (by omega) (by omega)) rfl ?_
      | refine At.yl (Yl.subI rfl rfl (by omega) (by omega)) rfl ?_
      | refine At.yl (Yl.mulI rfl rfl (by omega) (by omega)) rfl ?_
      | refine At.yl (Yl.quoI rfl rfl (by omega) (by omega) (by omega)) rfl ?_
      | refine At.yl (Yl.remI rfl rfl (by omega) (by omega)) rfl ?_
      | refine At.yl (Yl.lss rfl rfl) rfl ?_
      | refine At.yl (Yl.gtr rfl rfl) rfl ?_
      | refine At.yl (Yl.leq rfl rfl) rfl ?_
      | refine At.yl (Yl.geq rfl rfl) rfl ?_
      | refine At.yl (Yl.eql rfl rfl) rfl ?_
      | refine At.yl (Yl.neq rfl rfl) rfl ?_
      | refine At.yl (Yl.xorU rfl rfl) rfl ?_
      | refine At.yl (Yl.orU rfl rfl) rfl ?_
      | refine At.yl (Yl.andU rfl rfl) rfl ?_
      | refine At.yl (Yl.notU rfl) rfl ?_
      | refine At.yl (Yl.xorB rfl rfl) rfl ?_
      | refine At.yl (Yl.convBU Tryd.underlying5 Tryd.underlying48 rfl) rfl ?_
      | refine At.yl (Yl.convUB Tryd.underlying48 Tryd.underlying5 rfl) rfl ?_
      | refine At.yl (Yl.lenSl Tryd.underlying28 rfl) rfl ?_)
    refine At.call Tryd.call40 rfl rfl (left_does _ _ ((t + 1) * (t + 2) / 2 % 64) _ (by omega) (by omega)) ?_
    rintro v H' ⟨rfl, rfl⟩
    repeat (first
      | refine At.yl (Yl.move rfl) rfl ?_
      | refine At.yl (Yl.assign rfl) rfl ?_
      | refine At.nil ?_
      | refine At.nmThen ?_
      | refine At.region ?_
      | refine At.seq ?_
      | refine At.block ?_
      | refine At.nmBlock ?_
      | refine At.skip ?_
      | refine At.exit ?_
      | refine At.exThen ?_
      | refine At.exHere ?_
      | refine At.exOther rfl ?_
      | refine At.retC ?_
      | refine At.rtThen ?_
      | refine At.rtBlock ?_
      | refine At.yl (Yl.nilCheck rfl) rfl ?_
      | refine At.yl (Yl.addI rfl rfl (by omega) (by omega)) rfl ?_
      | refine At.yl (Yl.subI rfl rfl (by omega) (by omega)) rfl ?_
      | refine At.yl (Yl.mulI rfl rfl (by omega) (by omega)) rfl ?_
      | refine At.yl (Yl.quoI rfl rfl (by omega) (by omega) (by omega)) rfl ?_
      | refine At.yl (Yl.remI rfl rfl (by omega) (by omega)) rfl ?_
      | refine At.yl (Yl.lss rfl rfl) rfl ?_
      | refine At.yl (Yl.gtr rfl rfl) rfl ?_
      | refine At.yl (Yl.leq rfl rfl) rfl ?_
      | refine At.yl (Yl.geq rfl rfl) rfl ?_
      | refine At.yl (Yl.eql rfl rfl) rfl ?_
      | refine At.yl (Yl.neq rfl rfl) rfl ?_
      | refine At.yl (Yl.xorU rfl rfl) rfl ?_
      | refine At.yl (Yl.orU rfl rfl) rfl ?_
      | refine At.yl (Yl.andU rfl rfl) rfl ?_
      | refine At.yl (Yl.notU rfl) rfl ?_
      | refine At.yl (Yl.xorB rfl rfl) rfl ?_
      | refine At.yl (Yl.convBU Tryd.underlying5 Tryd.underlying48 rfl) rfl ?_
      | refine At.yl (Yl.convUB Tryd.underlying48 Tryd.underlying5 rfl) rfl ?_
      | refine At.yl (Yl.lenSl Tryd.underlying28 rfl) rfl ?_)
    refine At.yl (Yl.indexArr (i := (xy (t + 1)).1 + 5 * (xy (t + 1)).2) Tryd.underlying52 info48 bq48 rfl rfl (by simp only [xy]; omega) (by simp only [xy]; omega)) rfl ?_
    refine At.put (Ef.storeU info48 bq48 gb rfl rfl (by simp only [xy]; omega)) gb fun H6 s6 o6 gb => ?_
    repeat (first
      | refine At.yl (Yl.move rfl) rfl ?_
      | refine At.yl (Yl.assign rfl) rfl ?_
      | refine At.nil ?_
      | refine At.nmThen ?_
      | refine At.region ?_
      | refine At.seq ?_
      | refine At.block ?_
      | refine At.nmBlock ?_
      | refine At.skip ?_
      | refine At.exit ?_
      | refine At.exThen ?_
      | refine At.exHere ?_
      | refine At.exOther rfl ?_
      | refine At.retC ?_
      | refine At.rtThen ?_
      | refine At.rtBlock ?_
      | refine At.yl (Yl.nilCheck rfl) rfl ?_
      | refine At.yl (Yl.addI rfl rfl (by omega) (by omega)) rfl ?_
      | refine At.yl (Yl.subI rfl rfl (by omega) (by omega)) rfl ?_
      | refine At.yl (Yl.mulI rfl rfl (by omega) (by omega)) rfl ?_
      | refine At.yl (Yl.quoI rfl rfl (by omega) (by omega) (by omega)) rfl ?_
      | refine At.yl (Yl.remI rfl rfl (by omega) (by omega)) rfl ?_
      | refine At.yl (Yl.lss rfl rfl) rfl ?_
      | refine At.yl (Yl.gtr rfl rfl) rfl ?_
      | refine At.yl (Yl.leq rfl rfl) rfl ?_
      | refine At.yl (Yl.geq rfl rfl) rfl ?_
      | refine At.yl (Yl.eql rfl rfl) rfl ?_
      | refine At.yl (Yl.neq rfl rfl) rfl ?_
      | refine At.yl (Yl.xorU rfl rfl) rfl ?_
      | refine At.yl (Yl.orU rfl rfl) rfl ?_
      | refine At.yl (Yl.andU rfl rfl) rfl ?_
      | refine At.yl (Yl.notU rfl) rfl ?_
      | refine At.yl (Yl.xorB rfl rfl) rfl ?_
      | refine At.yl (Yl.convBU Tryd.underlying5 Tryd.underlying48 rfl) rfl ?_
      | refine At.yl (Yl.convUB Tryd.underlying48 Tryd.underlying5 rfl) rfl ?_
      | refine At.yl (Yl.lenSl Tryd.underlying28 rfl) rfl ?_)
    refine At.round (t + 1, H6) ⟨by simp only; omega, by simp only; omega, u5.put o6 (by omega), o6.ne ga (by omega), o6.ne gr (by omega), gb⟩ (by simp only; omega) (.cons rfl (.cons rfl (.cons rfl (.cons rfl (.cons rfl (.cons ?_ (.cons rfl .nil))))))) rfl
    show some _ = some _
    simp only [xy]; push_cast; rfl
  refine At.condDF rfl (by omega) ?_
  have hk24 : t = 24 := by omega
  subst hk24
  generalize pN e 24 = p at gb ⊢
  clear hxy
  repeat (first
    | refine At.yl (Yl.move rfl) rfl ?_
    | refine At.yl (Yl.assign rfl) rfl ?_
    | refine At.nil ?_
    | refine At.nmThen ?_
    | refine At.region ?_
    | refine At.seq ?_
    | refine At.block ?_
    | refine At.nmBlock ?_
    | refine At.skip ?_
    | refine At.exit ?_
    | refine At.exThen ?_
    | refine At.exHere ?_
    | refine At.exOther rfl ?_
    | refine At.retC ?_
    | refine At.rtThen ?_
    | refine At.rtBlock ?_
    | refine At.yl (Yl.nilCheck rfl) rfl ?_
    | refine At.yl (Yl.addI rfl rfl (by omega) (by omega)) rfl ?_
    | refine At.yl (Yl.subI rfl rfl (by omega) (by omega)) rfl ?_
    | refine At.yl (Yl.mulI rfl rfl (by omega) (by omega)) rfl ?_
    | refine At.yl (Yl.quoI rfl rfl (by omega) (by omega) (by omega)) rfl ?_
    | refine At.yl (Yl.remI rfl rfl (by omega) (by omega)) rfl ?_
    | refine At.yl (Yl.lss rfl rfl) rfl ?_
    | refine At.yl (Yl.gtr rfl rfl) rfl ?_
    | refine At.yl (Yl.leq rfl rfl) rfl ?_
    | refine At.yl (Yl.geq rfl rfl) rfl ?_
    | refine At.yl (Yl.eql rfl rfl) rfl ?_
    | refine At.yl (Yl.neq rfl rfl) rfl ?_
    | refine At.yl (Yl.xorU rfl rfl) rfl ?_
    | refine At.yl (Yl.orU rfl rfl) rfl ?_
    | refine At.yl (Yl.andU rfl rfl) rfl ?_
    | refine At.yl (Yl.notU rfl) rfl ?_
    | refine At.yl (Yl.xorB rfl rfl) rfl ?_
    | refine At.yl (Yl.convBU Tryd.underlying5 Tryd.underlying48 rfl) rfl ?_
    | refine At.yl (Yl.convUB Tryd.underlying48 Tryd.underlying5 rfl) rfl ?_
    | refine At.yl (Yl.lenSl Tryd.underlying28 rfl) rfl ?_)
  refine At.loop (σ := Nat × Array Obj) (fun σ => [(1, I i), (2, ptr ba 0), (4, ptr br 0), (9, ptr bb 0), (89, I σ.1)]) (fun σ => σ.2)
    (fun σ => σ.1 ≤ 25 ∧ σ.2.size = H8.size ∧ Sub H σ.2 ∧ σ.2[ba]? = some (cellsOf (arrU 25 (hN p e σ.1)) 52) ∧ σ.2[br]? = some (cellsOf (arrU 25 fun _ => 0) 52) ∧ σ.2[bb]? = some (cellsOf (arrU 25 p) 52))
    (fun σ => 25 - σ.1) (0, H9) ⟨by simp only; omega, s5, u5, ga, gr, gb⟩ (Sb.cons rfl (Sb.cons rfl (Sb.cons rfl (Sb.cons rfl (Sb.cons rfl (Sb.nil)))))) rfl ?_
  clear ga gr gb u5 s5 hk hlt
  rintro ⟨k, HA⟩ ⟨hk, s5, u5, ga, gr, gb⟩
  simp only at hk s5 u5 ga gr gb ⊢
  repeat (first
    | refine At.yl (Yl.move rfl) rfl ?_
    | refine At.yl (Yl.assign rfl) rfl ?_
    | refine At.nil ?_
    | refine At.nmThen ?_
    | refine At.region ?_
    | refine At.seq ?_
    | refine At.block ?_
    | refine At.nmBlock ?_
    | refine At.skip ?_
    | refine At.exit ?_
    | refine At.exThen ?_
    | refine At.exHere ?_
    | refine At.exOther rfl ?_
    | refine At.retC ?_
    | refine At.rtThen ?_
    | refine At.rtBlock ?_
    | refine At.yl (Yl.nilCheck rfl) rfl ?_
    | refine At.yl (Yl.addI rfl rfl (by omega) (by omega)) rfl ?_
    | refine At.yl (Yl.subI rfl rfl (by omega) (by omega)) rfl ?_
    | refine At.yl (Yl.mulI rfl rfl (by omega) (by omega)) rfl ?_
    | refine At.yl (Yl.quoI rfl rfl (by omega) (by omega) (by omega)) rfl ?_
    | refine At.yl (Yl.remI rfl rfl (by omega) (by omega)) rfl ?_
    | refine At.yl (Yl.lss rfl rfl) rfl ?_
    | refine At.yl (Yl.gtr rfl rfl) rfl ?_
    | refine At.yl (Yl.leq rfl rfl) rfl ?_
    | refine At.yl (Yl.geq rfl rfl) rfl ?_
    | refine At.yl (Yl.eql rfl rfl) rfl ?_
    | refine At.yl (Yl.neq rfl rfl) rfl ?_
    | refine At.yl (Yl.xorU rfl rfl) rfl ?_
    | refine At.yl (Yl.orU rfl rfl) rfl ?_
    | refine At.yl (Yl.andU rfl rfl) rfl ?_
    | refine At.yl (Yl.notU rfl) rfl ?_
    | refine At.yl (Yl.xorB rfl rfl) rfl ?_
    | refine At.yl (Yl.convBU Tryd.underlying5 Tryd.underlying48 rfl) rfl ?_
    | refine At.yl (Yl.convUB Tryd.underlying48 Tryd.underlying5 rfl) rfl ?_
    | refine At.yl (Yl.lenSl Tryd.underlying28 rfl) rfl ?_)
  by_cases hlt : k < 25
  · refine At.condDT rfl (by omega) ?_
    repeat (first
      | refine At.yl (Yl.move rfl) rfl ?_
      | refine At.yl (Yl.assign rfl) rfl ?_
      | refine At.nil ?_
      | refine At.nmThen ?_
      | refine At.region ?_
      | refine At.seq ?_
      | refine At.block ?_
      | refine At.nmBlock ?_
      | refine At.skip ?_
      | refine At.exit ?_
      | refine At.exThen ?_
      | refine At.exHere ?_
      | refine At.exOther rfl ?_
      | refine At.retC ?_
      | refine At.rtThen ?_
      | refine At.rtBlock ?_
      | refine At.yl (Yl.nilCheck rfl) rfl ?_
      | refine At.yl (Yl.addI rfl rfl (by omega) (by omega)) rfl ?_
      | refine At.yl (Yl.subI rfl rfl (by omega) (by omega)) rfl ?_
      | refine At.yl (Yl.mulI rfl rfl (by omega) (by omega)) rfl ?_
      | refine At.yl (Yl.quoI rfl rfl (by omega) (by omega) (by omega)) rfl ?_
      | refine At.yl (Yl.remI rfl rfl (by omega) (by omega)) rfl ?_
      | refine At.yl (Yl.lss rfl rfl) rfl ?_
      | refine At.yl (Yl.gtr rfl rfl) rfl ?_
      | refine At.yl (Yl.leq rfl rfl) rfl ?_
      | refine At.yl (Yl.geq rfl rfl) rfl ?_
      | refine At.yl (Yl.eql rfl rfl) rfl ?_
      | refine At.yl (Yl.neq rfl rfl) rfl ?_
      | refine At.yl (Yl.xorU rfl rfl) rfl ?_
      | refine At.yl (Yl.orU rfl rfl) rfl ?_
      | refine At.yl (Yl.andU rfl rfl) rfl ?_
      | refine At.yl (Yl.notU rfl) rfl ?_
      | refine At.yl (Yl.xorB rfl rfl) rfl ?_
      | refine At.yl (Yl.convBU Tryd.underlying5 Tryd.underlying48 rfl) rfl ?_
      | refine At.yl (Yl.convUB Tryd.underlying48 Tryd.underlying5 rfl) rfl ?_
      | refine At.yl (Yl.lenSl Tryd.underlying28 rfl) rfl ?_)
    refine At.draws 22 (ordFrom 0 22) rfl (by decide +kernel) (by repeat (first | exact QP.body _ _ _ | refine QP.thn ?_ | refine QP.blk ?_)) ?_
    show At _ _ _ _ (wpOrd _ _ _ _ _ [(0, false), (1, false), (2, false), (3, false), (4, false), (5, false), (6, false), (7, false), (8, false), (9, false), (10, false), (11, false), (12, false), (13, false), (14, false), (15, false), (16, false), (17, false), (18, false), (19, false), (20, false), (21, false)])
    repeat (first
      | refine At.ordY (Sub.refl _) rfl (Yl.move rfl) rfl ?_
      | refine At.ordY (Sub.refl _) rfl (Yl.assign rfl) rfl ?_
      | refine At.ordY (Sub.refl _) rfl (Yl.nilCheck rfl) rfl ?_
      | refine At.ordY (Sub.refl _) rfl (Yl.addI rfl rfl (by omega) (by omega)) rfl ?_
      | refine At.ordY (Sub.refl _) rfl (Yl.subI rfl rfl (by omega) (by omega)) rfl ?_
      | refine At.ordY (Sub.refl _) rfl (Yl.mulI rfl rfl (by omega) (by omega)) rfl ?_
      | refine At.ordY (Sub.refl _) rfl (Yl.quoI rfl rfl (by omega) (by omega) (by omega)) rfl ?_
      | refine At.ordY (Sub.refl _) rfl (Yl.remI rfl rfl (by omega) (by omega)) rfl ?_
      | refine At.ordY (Sub.refl _) rfl (Yl.lss rfl rfl) rfl ?_
      | refine At.ordY (Sub.refl _) rfl (Yl.gtr rfl rfl) rfl ?_
      | refine At.ordY (Sub.refl _) rfl (Yl.leq rfl rfl) rfl ?_
      | refine At.ordY (Sub.refl _) rfl (Yl.geq rfl rfl) rfl ?_
      | refine At.ordY (Sub.refl _) rfl (Yl.eql rfl rfl) rfl ?_
      | refine At.ordY (Sub.refl _) rfl (Yl.neq rfl rfl) rfl ?_
      | refine At.ordY (Sub.refl _) rfl (Yl.xorU rfl rfl) rfl ?_
      | refine At.ordY (Sub.refl _) rfl (Yl.orU rfl rfl) rfl ?_
      | refine At.ordY (Sub.refl _) rfl (Yl.andU rfl rfl) rfl ?_
      | refine At.ordY (Sub.refl _) rfl (Yl.notU rfl) rfl ?_
      | refine At.ordY (Sub.refl _) rfl (Yl.xorB rfl rfl) rfl ?_
      | refine At.ordY (Sub.refl _) rfl (Yl.convBU Tryd.underlying5 Tryd.underlying48 rfl) rfl ?_
      | refine At.ordY (Sub.refl _) rfl (Yl.convUB Tryd.underlying48 Tryd.underlying5 rfl) rfl ?_
      | refine At.ordY (Sub.refl _) rfl (Yl.lenSl Tryd.underlying28 rfl) rfl ?_)
    refine At.ordY (Sub.refl _) rfl (Yl.indexArr (i := k) Tryd.underlying52 info48 bq48 rfl rfl rfl hlt) rfl ?_
    refine At.ordY (Sub.refl _) rfl (Yl.loadU Tryd.underlying48 rfl gb rfl hlt) rfl ?_
    repeat (first
      | refine At.ordY (Sub.refl _) rfl (Yl.move rfl) rfl ?_
      | refine At.ordY (Sub.refl _) rfl (Yl.assign rfl) rfl ?_
      | refine At.ordY (Sub.refl _) rfl (Yl.nilCheck rfl) rfl ?_
      | refine At.ordY (Sub.refl _) rfl (Yl.addI rfl rfl (by omega) (by omega)) rfl ?_
      | refine At.ordY (Sub.refl _) rfl (Yl.subI rfl rfl (by omega) (by omega)) rfl ?_
      | refine At.ordY (Sub.refl _) rfl (Yl.mulI rfl rfl (by omega) (by omega)) rfl ?_
      | refine At.ordY (Sub.refl _) rfl (Yl.quoI rfl rfl (by omega) (by omega) (by omega)) rfl ?_
      | refine At.ordY (Sub.refl _) rfl (Yl.remI rfl rfl (by omega) (by omega)) rfl ?_
      | refine At.ordY (Sub.refl _) rfl (Yl.lss rfl rfl) rfl ?_
      | refine At.ordY (Sub.refl _) rfl (Yl.gtr rfl rfl) rfl ?_
      | refine At.ordY (Sub.refl _) rfl (Yl.leq rfl rfl) rfl ?_
      | refine At.ordY (Sub.refl _) rfl (Yl.geq rfl rfl) rfl ?_
      | refine At.ordY (Sub.refl _) rfl (Yl.eql rfl rfl) rfl ?_
      | refine At.ordY (Sub.refl _) rfl (Yl.neq rfl rfl) rfl ?_
      | refine At.ordY (Sub.refl _) rfl (Yl.xorU rfl rfl) rfl ?_
      | refine At.ordY (Sub.refl _) rfl (Yl.orU rfl rfl) rfl ?_
      | refine At.ordY (Sub.refl _) rfl (Yl.andU rfl rfl) rfl ?_
      | refine At.ordY (Sub.refl _) rfl (Yl.notU rfl) rfl ?_
      | refine At.ordY (Sub.refl _) rfl (Yl.xorB rfl rfl) rfl ?_
      | refine At.ordY (Sub.refl _) rfl (Yl.convBU Tryd.underlying5 Tryd.underlying48 rfl) rfl ?_
      | refine At.ordY (Sub.refl _) rfl (Yl.convUB Tryd.underlying48 Tryd.underlying5 rfl) rfl ?_
      | refine At.ordY (Sub.refl _) rfl (Yl.lenSl Tryd.underlying28 rfl) rfl ?_)
    refine At.ordY (Sub.refl _) rfl (Yl.indexArr (i := k / 5 * 5 + (k + 1) % 5) Tryd.underlying52 info48 bq48 rfl rfl (by omega) (by omega)) rfl ?_
    refine At.ordY (Sub.refl _) rfl (Yl.loadU Tryd.underlying48 rfl gb rfl (by omega)) rfl ?_
    repeat (first
      | refine At.ordY (Sub.refl _) rfl (Yl.move rfl) rfl ?_
      | refine At.ordY (Sub.refl _) rfl (Yl.assign rfl) rfl ?_
      | refine At.ordY (Sub.refl _) rfl (Yl.nilCheck rfl) rfl ?_
      | refine At.ordY (Sub.refl _) rfl (Yl.addI rfl rfl (by omega) (by omega)) rfl ?_
      | refine At.ordY (Sub.refl _) rfl (Yl.subI rfl rfl (by omega) (by omega)) rfl ?_
      | refine At.ordY (Sub.refl _) rfl (Yl.mulI rfl rfl (by omega) (by omega)) rfl ?_
      | refine At.ordY (Sub.refl _) rfl (Yl.quoI rfl rfl (by omega) (by omega) (by omega)) rfl ?_
      | refine At.ordY (Sub.refl _) rfl (Yl.remI rfl rfl (by omega) (by omega)) rfl ?_
      | refine At.ordY (Sub.refl _) rfl (Yl.lss rfl rfl) rfl ?_
      | refine At.ordY (Sub.refl _) rfl (Yl.gtr rfl rfl) rfl ?_
      | refine At.ordY (Sub.refl _) rfl (Yl.leq rfl rfl) rfl ?_
      | refine At.ordY (Sub.refl _) rfl (Yl.geq rfl rfl) rfl ?_
      | refine At.ordY (Sub.refl _) rfl (Yl.eql rfl rfl) rfl ?_
      | refine At.ordY (Sub.refl _) rfl (Yl.neq rfl rfl) rfl ?_
      | refine At.ordY (Sub.refl _) rfl (Yl.xorU rfl rfl) rfl ?_
      | refine At.ordY (Sub.refl _) rfl (Yl.orU rfl rfl) rfl ?_
      | refine At.ordY (Sub.refl _) rfl (Yl.andU rfl rfl) rfl ?_
      | refine At.ordY (Sub.refl _) rfl (Yl.notU rfl) rfl ?_
      | refine At.ordY (Sub.refl _) rfl (Yl.xorB rfl rfl) rfl ?_
      | refine At.ordY (Sub.refl _) rfl (Yl.convBU Tryd.underlying5 Tryd.underlying48 rfl) rfl ?_
      | refine At.ordY (Sub.refl _) rfl (Yl.convUB Tryd.underlying48 Tryd.underlying5 rfl) rfl ?_
      | refine At.ordY (Sub.refl _) rfl (Yl.lenSl Tryd.underlying28 rfl) rfl ?_)
    refine At.ordY (Sub.refl _) rfl (Yl.indexArr (i := k / 5 * 5 + (k + 2) % 5) Tryd.underlying52 info48 bq48 rfl rfl (by omega) (by omega)) rfl ?_
    refine At.ordY (Sub.refl _) rfl (Yl.loadU Tryd.underlying48 rfl gb rfl (by omega)) rfl ?_
    repeat (first
      | refine At.ordY (Sub.refl _) rfl (Yl.move rfl) rfl ?_
      | refine At.ordY (Sub.refl _) rfl (Yl.assign rfl) rfl ?_
      | refine At.ordY (Sub.refl _) rfl (Yl.nilCheck rfl) rfl ?_
      | refine At.ordY (Sub.refl _) rfl (Yl.addI rfl rfl (by omega) (by omega)) rfl ?_
      | refine At.ordY (Sub.refl _) rfl (Yl.subI rfl rfl (by omega) (by omega)) rfl ?_
      | refine At.ordY (Sub.refl _) rfl (Yl.mulI rfl rfl (by omega) (by omega)) rfl ?_
      | refine At.ordY (Sub.refl _) rfl (Yl.quoI rfl rfl (by omega) (by omega) (by omega)) rfl ?_
      | refine At.ordY (Sub.refl _) rfl (Yl.remI rfl rfl (by omega) (by omega)) rfl ?_
      | refine At.ordY (Sub.refl _) rfl (Yl.lss rfl rfl) rfl ?_
      | refine At.ordY (Sub.refl _) rfl (Yl.gtr rfl rfl) rfl ?_
      | refine At.ordY (Sub.refl _) rfl (Yl.leq rfl rfl) rfl ?_
      | refine At.ordY (Sub.refl _) rfl (Yl.geq rfl rfl) rfl ?_
      | refine At.ordY (Sub.refl _) rfl (Yl.eql rfl rfl) rfl ?_
      | refine At.ordY (Sub.refl _) rfl (Yl.neq rfl rfl) rfl ?_
      | refine At.ordY (Sub.refl _) rfl (Yl.xorU rfl rfl) rfl ?_
      | refine At.ordY (Sub.refl _) rfl (Yl.orU rfl rfl) rfl ?_
      | refine At.ordY (Sub.refl _) rfl (Yl.andU rfl rfl) rfl ?_
      | refine At.ordY (Sub.refl _) rfl (Yl.notU rfl) rfl ?_
      | refine At.ordY (Sub.refl _) rfl (Yl.xorB rfl rfl) rfl ?_
      | refine At.ordY (Sub.refl _) rfl (Yl.convBU Tryd.underlying5 Tryd.underlying48 rfl) rfl ?_
      | refine At.ordY (Sub.refl _) rfl (Yl.convUB Tryd.underlying48 Tryd.underlying5 rfl) rfl ?_
      | refine At.ordY (Sub.refl _) rfl (Yl.lenSl Tryd.underlying28 rfl) rfl ?_)
    refine At.ordY (Sub.refl _) rfl (Yl.indexArr (i := k) Tryd.underlying52 info48 bq48 rfl rfl rfl hlt) rfl ?_
    refine At.ordNil (Sub.refl _) ?_
    refine At.put (Ef.storeU info48 bq48 ga rfl rfl hlt) ga fun H6 s6 o6 ga => ?_
    repeat (first
      | refine At.yl (Yl.move rfl) rfl ?_
      | refine At.yl (Yl.assign rfl) rfl ?_
      | refine At.nil ?_
      | refine At.nmThen ?_
      | refine At.region ?_
      | refine At.seq ?_
      | refine At.block ?_
      | refine At.nmBlock ?_
      | refine At.skip ?_
      | refine At.exit ?_
      | refine At.exThen ?_
      | refine At.exHere ?_
      | refine At.exOther rfl ?_
      | refine At.retC ?_
      | refine At.rtThen ?_
      | refine At.rtBlock ?_
      | refine At.yl (Yl.nilCheck rfl) rfl ?_
      | refine At.yl (Yl.addI rfl rfl (by omega) (by omega)) rfl ?_
      | refine At.yl (Yl.subI rfl rfl (by omega) (by omega)) rfl ?_
      | refine At.yl (Yl.mulI rfl rfl (by omega) (by omega)) rfl ?_
      | refine At.yl (Yl.quoI rfl rfl (by omega) (by omega) (by omega)) rfl ?_
      | refine At.yl (Yl.remI rfl rfl (by omega) (by omega)) rfl ?_
      | refine At.yl (Yl.lss rfl rfl) rfl ?_
      | refine At.yl (Yl.gtr rfl rfl) rfl ?_
      | refine At.yl (Yl.leq rfl rfl) rfl ?_
      | refine At.yl (Yl.geq rfl rfl) rfl ?_
      | refine At.yl (Yl.eql rfl rfl) rfl ?_
      | refine At.yl (Yl.neq rfl rfl) rfl ?_
      | refine At.yl (Yl.xorU rfl rfl) rfl ?_
      | refine At.yl (Yl.orU rfl rfl) rfl ?_
      | refine At.yl (Yl.andU rfl rfl) rfl ?_
      | refine At.yl (Yl.notU rfl) rfl ?_
      | refine At.yl (Yl.xorB rfl rfl) rfl ?_
      | refine At.yl (Yl.convBU Tryd.underlying5 Tryd.underlying48 rfl) rfl ?_
      | refine At.yl (Yl.convUB Tryd.underlying48 Tryd.underlying5 rfl) rfl ?_
      | refine At.yl (Yl.lenSl Tryd.underlying28 rfl) rfl ?_)
    exact At.round (k + 1, H6) ⟨by simp only; omega, by simp only; omega, u5.put o6 (by omega), ga, o6.ne gr (by omega), o6.ne gb (by omega)⟩ (by simp only; omega) (Sb.cons rfl (Sb.cons rfl (Sb.cons rfl (Sb.cons rfl (Sb.cons rfl (Sb.nil)))))) rfl
  refine At.condDF rfl (by omega) ?_
  have hk25 : k = 25 := by omega
  subst hk25
  generalize hN p e 25 = h at ga ⊢
  clear gb
  repeat (first
    | refine At.yl (Yl.move rfl) rfl ?_
    | refine At.yl (Yl.assign rfl) rfl ?_
    | refine At.nil ?_
    | refine At.nmThen ?_
    | refine At.region ?_
    | refine At.seq ?_
    | refine At.block ?_
    | refine At.nmBlock ?_
    | refine At.skip ?_
    | refine At.exit ?_
    | refine At.exThen ?_
    | refine At.exHere ?_
    | refine At.exOther rfl ?_
    | refine At.retC ?_
    | refine At.rtThen ?_
    | refine At.rtBlock ?_
    | refine At.yl (Yl.nilCheck rfl) rfl ?_
    | refine At.yl (Yl.addI rfl rfl (by omega) (by omega)) rfl ?_
    | refine At.yl (Yl.subI rfl rfl (by omega) (by omega)) rfl ?_
    | refine At.yl (Yl.mulI rfl rfl (by omega) (by omega)) rfl ?_
    | refine At.yl (Yl.quoI rfl rfl (by omega) (by omega) (by omega)) rfl ?_
    | refine At.yl (Yl.remI rfl rfl (by omega) (by omega)) rfl ?_
    | refine At.yl (Yl.lss rfl rfl) rfl ?_
    | refine At.yl (Yl.gtr rfl rfl) rfl ?_
    | refine At.yl (Yl.leq rfl rfl) rfl ?_
    | refine At.yl (Yl.geq rfl rfl) rfl ?_
    | refine At.yl (Yl.eql rfl rfl) rfl ?_
    | refine At.yl (Yl.neq rfl rfl) rfl ?_
    | refine At.yl (Yl.xorU rfl rfl) rfl ?_
    | refine At.yl (Yl.orU rfl rfl) rfl ?_
    | refine At.yl (Yl.andU rfl rfl) rfl ?_
    | refine At.yl (Yl.notU rfl) rfl ?_
    | refine At.yl (Yl.xorB rfl rfl) rfl ?_
    | refine At.yl (Yl.convBU Tryd.underlying5 Tryd.underlying48 rfl) rfl ?_
    | refine At.yl (Yl.convUB Tryd.underlying48 Tryd.underlying5 rfl) rfl ?_
    | refine At.yl (Yl.lenSl Tryd.underlying28 rfl) rfl ?_)
  refine At.draws 6 [(0, false), (1, false), (2, false), (3, true), (4, false), (5, false)] rfl (by decide +kernel) (by repeat (first | exact QP.body _ _ _ | refine QP.thn ?_ | refine QP.blk ?_)) ?_
  refine At.ordY (Sub.refl _) rfl (Yl.indexArr (i := 0) Tryd.underlying52 info48 bq48 rfl rfl rfl (by omega)) rfl ?_
  refine At.ordY (Sub.refl _) rfl (Yl.loadU Tryd.underlying48 rfl ga rfl (by omega)) rfl ?_
  repeat (first
    | refine At.ordY (Sub.refl _) rfl (Yl.move rfl) rfl ?_
    | refine At.ordY (Sub.refl _) rfl (Yl.assign rfl) rfl ?_
    | refine At.ordY (Sub.refl _) rfl (Yl.nilCheck rfl) rfl ?_
    | refine At.ordY (Sub.refl _) rfl (Yl.addI rfl rfl (by omega) (by omega)) rfl ?_
    | refine At.ordY (Sub.refl _) rfl (Yl.subI rfl rfl (by omega) (by omega)) rfl ?_
    | refine At.ordY (Sub.refl _) rfl (Yl.mulI rfl rfl (by omega) (by omega)) rfl ?_
    | refine At.ordY (Sub.refl _) rfl (Yl.quoI rfl rfl (by omega) (by omega) (by omega)) rfl ?_
    | refine At.ordY (Sub.refl _) rfl (Yl.remI rfl rfl (by omega) (by omega)) rfl ?_
    | refine At.ordY (Sub.refl _) rfl (Yl.lss rfl rfl) rfl ?_
    | refine At.ordY (Sub.refl _) rfl (Yl.gtr rfl rfl) rfl ?_
    | refine At.ordY (Sub.refl _) rfl (Yl.leq rfl rfl) rfl ?_
    | refine At.ordY (Sub.refl _) rfl (Yl.geq rfl rfl) rfl ?_
    | refine At.ordY (Sub.refl _) rfl (Yl.eql rfl rfl) rfl ?_
    | refine At.ordY (Sub.refl _) rfl (Yl.neq rfl rfl) rfl ?_
    | refine At.ordY (Sub.refl _) rfl (Yl.xorU rfl rfl) rfl ?_
    | refine At.ordY (Sub.refl _) rfl (Yl.orU rfl rfl) rfl ?_
    | refine At.ordY (Sub.refl _) rfl (Yl.andU rfl rfl) rfl ?_
    | refine At.ordY (Sub.refl _) rfl (Yl.notU rfl) rfl ?_
    | refine At.ordY (Sub.refl _) rfl (Yl.xorB rfl rfl) rfl ?_
    | refine At.ordY (Sub.refl _) rfl (Yl.convBU Tryd.underlying5 Tryd.underlying48 rfl) rfl ?_
    | refine At.ordY (Sub.refl _) rfl (Yl.convUB Tryd.underlying48 Tryd.underlying5 rfl) rfl ?_
    | refine At.ordY (Sub.refl _) rfl (Yl.lenSl Tryd.underlying28 rfl) rfl ?_)
  refine At.ordC (Sub.refl _) rfl Tryd.call41 rfl rfl (cst_does _ i _ rfl (by omega)) ?_
  rintro v H' ⟨rfl, rfl⟩
  repeat (first
    | refine At.ordY (Sub.refl _) rfl (Yl.move rfl) rfl ?_
    | refine At.ordY (Sub.refl _) rfl (Yl.assign rfl) rfl ?_
    | refine At.ordY (Sub.refl _) rfl (Yl.nilCheck rfl) rfl ?_
    | refine At.ordY (Sub.refl _) rfl (Yl.addI rfl rfl (by omega) (by omega)) rfl ?_
    | refine At.ordY (Sub.refl _) rfl (Yl.subI rfl rfl (by omega) (by omega)) rfl ?_
    | refine At.ordY (Sub.refl _) rfl (Yl.mulI rfl rfl (by omega) (by omega)) rfl ?_
    | refine At.ordY (Sub.refl _) rfl (Yl.quoI rfl rfl (by omega) (by omega) (by omega)) rfl ?_
    | refine At.ordY (Sub.refl _) rfl (Yl.remI rfl rfl (by omega) (by omega)) rfl ?_
    | refine At.ordY (Sub.refl _) rfl (Yl.lss rfl rfl) rfl ?_
    | refine At.ordY (Sub.refl _) rfl (Yl.gtr rfl rfl) rfl ?_
    | refine At.ordY (Sub.refl _) rfl (Yl.leq rfl rfl) rfl ?_
    | refine At.ordY (Sub.refl _) rfl (Yl.geq rfl rfl) rfl ?_
    | refine At.ordY (Sub.refl _) rfl (Yl.eql rfl rfl) rfl ?_
    | refine At.ordY (Sub.refl _) rfl (Yl.neq rfl rfl) rfl ?_
    | refine At.ordY (Sub.refl _) rfl (Yl.xorU rfl rfl) rfl ?_
    | refine At.ordY (Sub.refl _) rfl (Yl.orU rfl rfl) rfl ?_
    | refine At.ordY (Sub.refl _) rfl (Yl.andU rfl rfl) rfl ?_
    | refine At.ordY (Sub.refl _) rfl (Yl.notU rfl) rfl ?_
    | refine At.ordY (Sub.refl _) rfl (Yl.xorB rfl rfl) rfl ?_
    | refine At.ordY (Sub.refl _) rfl (Yl.convBU Tryd.underlying5 Tryd.underlying48 rfl) rfl ?_
    | refine At.ordY (Sub.refl _) rfl (Yl.convUB Tryd.underlying48 Tryd.underlying5 rfl) rfl ?_
    | refine At.ordY (Sub.refl _) rfl (Yl.lenSl Tryd.underlying28 rfl) rfl ?_)
  refine At.ordY (Sub.refl _) rfl (Yl.indexArr (i := 0) Tryd.underlying52 info48 bq48 rfl rfl rfl (by omega)) rfl ?_
  refine At.ordNil (Sub.refl _) ?_
  refine At.put (Ef.storeU info48 bq48 ga rfl rfl (by omega)) ga fun H6 s6 o6 ga => ?_
  have gr6 := o6.ne gr (by omega)
  have u6 : Sub H H6 := u5.put o6 (by omega)
  clear gr u5 o6
  repeat (first
    | refine At.yl (Yl.move rfl) rfl ?_
    | refine At.yl (Yl.assign rfl) rfl ?_
    | refine At.nil ?_
    | refine At.nmThen ?_
    | refine At.region ?_
    | refine At.seq ?_
    | refine At.block ?_
    | refine At.nmBlock ?_
    | refine At.skip ?_
    | refine At.exit ?_
    | refine At.exThen ?_
    | refine At.exHere ?_
    | refine At.exOther rfl ?_
    | refine At.retC ?_
    | refine At.rtThen ?_
    | refine At.rtBlock ?_
    | refine At.yl (Yl.nilCheck rfl) rfl ?_
    | refine At.yl (Yl.addI rfl rfl (by omega) (by omega)) rfl ?_
    | refine At.yl (Yl.subI rfl rfl (by omega) (by omega)) rfl ?_
    | refine At.yl (Yl.mulI rfl rfl (by omega) (by omega)) rfl ?_
    | refine At.yl (Yl.quoI rfl rfl (by omega) (by omega) (by omega)) rfl ?_
    | refine At.yl (Yl.remI rfl rfl (by omega) (by omega)) rfl ?_
    | refine At.yl (Yl.lss rfl rfl) rfl ?_
    | refine At.yl (Yl.gtr rfl rfl) rfl ?_
    | refine At.yl (Yl.leq rfl rfl) rfl ?_
    | refine At.yl (Yl.geq rfl rfl) rfl ?_
    | refine At.yl (Yl.eql rfl rfl) rfl ?_
    | refine At.yl (Yl.neq rfl rfl) rfl ?_
    | refine At.yl (Yl.xorU rfl rfl) rfl ?_
    | refine At.yl (Yl.orU rfl rfl) rfl ?_
    | refine At.yl (Yl.andU rfl rfl) rfl ?_
    | refine At.yl (Yl.notU rfl) rfl ?_
    | refine At.yl (Yl.xorB rfl rfl) rfl ?_
    | refine At.yl (Yl.convBU Tryd.underlying5 Tryd.underlying48 rfl) rfl ?_
    | refine At.yl (Yl.convUB Tryd.underlying48 Tryd.underlying5 rfl) rfl ?_
    | refine At.yl (Yl.lenSl Tryd.underlying28 rfl) rfl ?_)
  refine At.yl (Yl.loadWU Tryd.underlying52 rfl info52 bq52 rfl ga) rfl ?_
  refine At.put (Ef.storeWU info52 bq52 rfl rfl gr6) gr6 fun H7 s7 o7 gr7 => ?_
  repeat (first
    | refine At.yl (Yl.move rfl) rfl ?_
    | refine At.yl (Yl.assign rfl) rfl ?_
    | refine At.nil ?_
    | refine At.nmThen ?_
    | refine At.region ?_
    | refine At.seq ?_
    | refine At.block ?_
    | refine At.nmBlock ?_
    | refine At.skip ?_
    | refine At.exit ?_
    | refine At.exThen ?_
    | refine At.exHere ?_
    | refine At.exOther rfl ?_
    | refine At.retC ?_
    | refine At.rtThen ?_
    | refine At.rtBlock ?_
    | refine At.yl (Yl.nilCheck rfl) rfl ?_
    | refine At.yl (Yl.addI rfl rfl (by omega) (by omega)) rfl ?_
    | refine At.yl (Yl.subI rfl rfl (by omega) (by omega)) rfl ?_
    | refine At.yl (Yl.mulI rfl rfl (by omega) (by omega)) rfl ?_
    | refine At.yl (Yl.quoI rfl rfl (by omega) (by omega) (by omega)) rfl ?_
    | refine At.yl (Yl.remI rfl rfl (by omega) (by omega)) rfl ?_
    | refine At.yl (Yl.lss rfl rfl) rfl ?_
    | refine At.yl (Yl.gtr rfl rfl) rfl ?_
    | refine At.yl (Yl.leq rfl rfl) rfl ?_
    | refine At.yl (Yl.geq rfl rfl) rfl ?_
    | refine At.yl (Yl.eql rfl rfl) rfl ?_
    | refine At.yl (Yl.neq rfl rfl) rfl ?_
    | refine At.yl (Yl.xorU rfl rfl) rfl ?_
    | refine At.yl (Yl.orU rfl rfl) rfl ?_
    | refine At.yl (Yl.andU rfl rfl) rfl ?_
    | refine At.yl (Yl.notU rfl) rfl ?_
    | refine At.yl (Yl.xorB rfl rfl) rfl ?_
    | refine At.yl (Yl.convBU Tryd.underlying5 Tryd.underlying48 rfl) rfl ?_
    | refine At.yl (Yl.convUB Tryd.underlying48 Tryd.underlying5 rfl) rfl ?_
    | refine At.yl (Yl.lenSl Tryd.underlying28 rfl) rfl ?_)
  exact At.retCellU (b := br) Tryd.results29 Tryd.underlying52 rfl info52 bq52 rfl gr7 ⟨rfl, u6.put o7 (by omega)⟩
end Go.Proofs.YtbnepbdlhpkiiaaDoor

