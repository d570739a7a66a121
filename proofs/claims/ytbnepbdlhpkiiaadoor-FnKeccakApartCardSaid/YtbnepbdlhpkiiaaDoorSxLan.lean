/- Lanes and bytes: the reference's lanes, the turned KeccakF1600, Keccak on bytes on both sides. -/
import Derived.Test.YtbnepbdlhpkiiaaDoorSxRnd
import Derived.Test.YtbnepbdlhpkiiaaDoorSxKF
namespace Go.Proofs.YtbnepbdlhpkiiaaDoor
open Go.Sx
attribute [local irreducible] wpList Code.wp Exit.then Exit.inBlock bodyPost wpOrd Does At Yl Ef EfX arrU arrB arr

/-! ### plain -/
/-- the lanes after k bytes -/
def lnN (x : Nat → BitVec 8) : Nat → (Nat → BitVec 64)
  | 0 => fun _ => 0
  | k + 1 => upd (lnN x k) (k / 8) (lnN x k (k / 8) ||| (x k).setWidth 64 <<< (8 * (k % 8)))
/-- a byte of the lanes -/
def byt (a : Nat → BitVec 64) (k : Nat) : BitVec 8 := (a (k / 8) >>> (8 * (k % 8))).setWidth 8
def byN (o : Nat → BitVec 8) (a : Nat → BitVec 64) : Nat → (Nat → BitVec 8)
  | 0 => o
  | k + 1 => upd (byN o a k) k (byt a k)
theorem byN_eq (o : Nat → BitVec 8) (a : Nat → BitVec 64) (k n : Nat) : byN o a k n = if n < k then byt a n else o n := by
  induction k with
  | zero => simp [byN]
  | succ k ih =>
    simp only [byN, upd]
    by_cases h : n = k
    · subst h; simp
    · rw [if_neg h, ih]
      by_cases h2 : n < k
      · rw [if_pos h2, if_pos (by omega)]
      · rw [if_neg h2, if_neg (by omega)]
theorem byN_all (o : Nat → BitVec 8) (a : Nat → BitVec 64) (n : Nat) : arrB n (byN o a n) = arrB n (byt a) :=
  arrB_ext fun i hi => by rw [byN_eq, if_pos hi]
/-- the reference's round -/
def rd (i : Nat) (a : Nat → BitVec 64) : Nat → BitVec 64 :=
  upd (hN (pN (tN (cN a 25) a 25) 24) (tN (cN a 25) a 25) 25) 0 (hN (pN (tN (cN a 25) a 25) 24) (tN (cN a 25) a 25) 25 0 ^^^ cst i 7)
/-- k rounds of the reference's last r -/
def rN (r : Nat) (a : Nat → BitVec 64) : Nat → (Nat → BitVec 64)
  | 0 => a
  | k + 1 => rd (24 - r + k) (rN r a k)

set_option maxRecDepth 8000 in
set_option maxHeartbeats 4000000 in
theorem lanes_does (H : Array Obj) (x : Nat → BitVec 8) :
    Does Tryd.prog 28 #[.agg (arrB 200 x)] H (fun v H' => v = .agg (arrU 25 (lnN x 200)) ∧ Sub H H') := by
  refine Does.of_body (vs := [.agg (arrB 200 x)]) Tryd.func28 rfl Tryd.ntmps28 rfl fun w0 => ?_
  repeat (first
    | refine At.yl (Yl.move rfl) rfl ?_
    | refine At.yl (Yl.assign rfl) rfl ?_
    | refine At.nil ?_
    | refine At.nmThen ?_
    | refine At.region ?_
    | refine At.seq ?_
    | refine At.block ?_
    | refine At.nmBlock ?_
    | refine At.skip ?_
    | refine At.exit ?_
    | refine At.exThen ?_
    | refine At.exHere ?_
    | refine At.exOther rfl ?_
    | refine At.retC ?_
    | refine At.rtThen ?_
    | refine At.rtBlock ?_
    | refine At.yl (Yl.nilCheck rfl) rfl ?_
    | refine At.yl (Yl.addI rfl rfl (by omega) (by omega)) rfl ?_
    | refine At.yl (Yl.subI rfl rfl (by omega) (by omega)) rfl ?_
    | refine At.yl (Yl.mulI rfl rfl (by omega) (by omega)) rfl ?_
    | refine At.yl (Yl.quoI rfl rfl (by omega) (by omega) (by omega)) rfl ?_
    | refine At.yl (Yl.remI rfl rfl (by omega) (by omega)) rfl ?_
    | refine At.yl (Yl.lss rfl rfl) rfl ?_
    | refine At.yl (Yl.gtr rfl rfl) rfl ?_
    | refine At.yl (Yl.leq rfl rfl) rfl ?_
    | refine At.yl (Yl.geq rfl rfl) rfl ?_
    | refine At.yl (Yl.eql rfl rfl) rfl ?_
    | refine At.yl (Yl.neq rfl rfl) rfl ?_
    | refine At.yl (Yl.xorU rfl rfl) rfl ?_
    | refine At.yl (Yl.orU rfl rfl) rfl ?_
    | refine At.yl (Yl.andU rfl rfl) rfl ?_
    | refine At.yl (Yl.notU rfl) rfl ?_
    | refine At.yl (Yl.xorB rfl rfl) rfl ?_
    | refine At.yl (Yl.convBU Tryd.underlying5 Tryd.underlying48 rfl) rfl ?_
    | refine At.yl (Yl.convUB Tryd.underlying48 Tryd.underlying5 rfl) rfl ?_
    | refine At.yl (Yl.lenSl Tryd.underlying28 rfl) rfl ?_)
  refine At.new (Ef.box rfl) rfl fun ba H1 ea s1 u1 ga => ?_
  refine At.new (Ef.allocU info52 zero52) rfl fun br H2 er s2 u2 gr => ?_
  repeat (first
    | refine At.yl (Yl.move rfl) rfl ?_
    | refine At.yl (Yl.assign rfl) rfl ?_
    | refine At.nil ?_
    | refine At.nmThen ?_
    | refine At.region ?_
    | refine At.seq ?_
    | refine At.block ?_
    | refine At.nmBlock ?_
    | refine At.skip ?_
    | refine At.exit ?_
    | refine At.exThen ?_
    | refine At.exHere ?_
    | refine At.exOther rfl ?_
    | refine At.retC ?_
    | refine At.rtThen ?_
    | refine At.rtBlock ?_
    | refine At.yl (Yl.nilCheck rfl) rfl ?_
    | refine At.yl (Yl.addI rfl rfl (by omega) (by omega)) rfl ?_
    | refine At.yl (Yl.subI rfl rfl (by omega) (by omega)) rfl ?_
    | refine At.yl (Yl.mulI rfl rfl (by omega) (by omega)) rfl ?_
    | refine At.yl (Yl.quoI rfl rfl (by omega) (by omega) (by omega)) rfl ?_
    | refine At.yl (Yl.remI rfl rfl (by omega) (by omega)) rfl ?_
    | refine At.yl (Yl.lss rfl rfl) rfl ?_
    | refine At.yl (Yl.gtr rfl rfl) rfl ?_
    | refine At.yl (Yl.leq rfl rfl) rfl ?_
    | refine At.yl (Yl.geq rfl rfl) rfl ?_
    | refine At.yl (Yl.eql rfl rfl) rfl ?_
    | refine At.yl (Yl.neq rfl rfl) rfl ?_
    | refine At.yl (Yl.xorU rfl rfl) rfl ?_
    | refine At.yl (Yl.orU rfl rfl) rfl ?_
    | refine At.yl (Yl.andU rfl rfl) rfl ?_
    | refine At.yl (Yl.notU rfl) rfl ?_
    | refine At.yl (Yl.xorB rfl rfl) rfl ?_
    | refine At.yl (Yl.convBU Tryd.underlying5 Tryd.underlying48 rfl) rfl ?_
    | refine At.yl (Yl.convUB Tryd.underlying48 Tryd.underlying5 rfl) rfl ?_
    | refine At.yl (Yl.lenSl Tryd.underlying28 rfl) rfl ?_)
  refine At.yl (Yl.buildU Tryd.underlying52 info52 zero52 info48) rfl ?_
  refine At.new (Ef.allocU info52 zero52) rfl fun bc H3 ec s3 u3 gc => ?_
  refine At.put (Ef.storeWU info52 bq52 rfl rfl gc) gc fun H4 s4 o4 gc => ?_
  have ga4 := o4.ne (u3.get (u2.get ga)) (by omega)
  have gr4 := o4.ne (u3.get gr) (by omega)
  have u4 : Sub H H4 := (u1.trans (u2.trans u3)).put o4 (by omega)
  clear ga gr o4 u3 u2 u1
  repeat (first
    | refine At.yl (Yl.move rfl) rfl ?_
    | refine At.yl (Yl.assign rfl) rfl ?_
    | refine At.nil ?_
    | refine At.nmThen ?_
    | refine At.region ?_
    | refine At.seq ?_
    | refine At.block ?_
    | refine At.nmBlock ?_
    | refine At.skip ?_
    | refine At.exit ?_
    | refine At.exThen ?_
    | refine At.exHere ?_
    | refine At.exOther rfl ?_
    | refine At.retC ?_
    | refine At.rtThen ?_
    | refine At.rtBlock ?_
    | refine At.yl (Yl.nilCheck rfl) rfl ?_
    | refine At.yl (Yl.addI rfl rfl (by omega) (by omega)) rfl ?_
    | refine At.yl (Yl.subI rfl rfl (by omega) (by omega)) rfl ?_
    | refine At.yl (Yl.mulI rfl rfl (by omega) (by omega)) rfl ?_
    | refine At.yl (Yl.quoI rfl rfl (by omega) (by omega) (by omega)) rfl ?_
    | refine At.yl (Yl.remI rfl rfl (by omega) (by omega)) rfl ?_
    | refine At.yl (Yl.lss rfl rfl) rfl ?_
    | refine At.yl (Yl.gtr rfl rfl) rfl ?_
    | refine At.yl (Yl.leq rfl rfl) rfl ?_
    | refine At.yl (Yl.geq rfl rfl) rfl ?_
    | refine At.yl (Yl.eql rfl rfl) rfl ?_
    | refine At.yl (Yl.neq rfl rfl) rfl ?_
    | refine At.yl (Yl.xorU rfl rfl) rfl ?_
    | refine At.yl (Yl.orU rfl rfl) rfl ?_
    | refine At.yl (Yl.andU rfl rfl) rfl ?_
    | refine At.yl (Yl.notU rfl) rfl ?_
    | refine At.yl (Yl.xorB rfl rfl) rfl ?_
    | refine At.yl (Yl.convBU Tryd.underlying5 Tryd.underlying48 rfl) rfl ?_
    | refine At.yl (Yl.convUB Tryd.underlying48 Tryd.underlying5 rfl) rfl ?_
    | refine At.yl (Yl.lenSl Tryd.underlying28 rfl) rfl ?_)
  refine At.yl (Yl.loadWB Tryd.underlying25 rfl info25 bq25 rfl ga4) rfl ?_
  repeat (first
    | refine At.yl (Yl.move rfl) rfl ?_
    | refine At.yl (Yl.assign rfl) rfl ?_
    | refine At.nil ?_
    | refine At.nmThen ?_
    | refine At.region ?_
    | refine At.seq ?_
    | refine At.block ?_
    | refine At.nmBlock ?_
    | refine At.skip ?_
    | refine At.exit ?_
    | refine At.exThen ?_
    | refine At.exHere ?_
    | refine At.exOther rfl ?_
    | refine At.retC ?_
    | refine At.rtThen ?_
    | refine At.rtBlock ?_
    | refine At.yl (Yl.nilCheck rfl) rfl ?_
    | refine At.yl (Yl.addI rfl rfl (by omega) (by omega)) rfl ?_
    | refine At.yl (Yl.subI rfl rfl (by omega) (by omega)) rfl ?_
    | refine At.yl (Yl.mulI rfl rfl (by omega) (by omega)) rfl ?_
    | refine At.yl (Yl.quoI rfl rfl (by omega) (by omega) (by omega)) rfl ?_
    | refine At.yl (Yl.remI rfl rfl (by omega) (by omega)) rfl ?_
    | refine At.yl (Yl.lss rfl rfl) rfl ?_
    | refine At.yl (Yl.gtr rfl rfl) rfl ?_
    | refine At.yl (Yl.leq rfl rfl) rfl ?_
    | refine At.yl (Yl.geq rfl rfl) rfl ?_
    | refine At.yl (Yl.eql rfl rfl) rfl ?_
    | refine At.yl (Yl.neq rfl rfl) rfl ?_
    | refine At.yl (Yl.xorU rfl rfl) rfl ?_
    | refine At.yl (Yl.orU rfl rfl) rfl ?_
    | refine At.yl (Yl.andU rfl rfl) rfl ?_
    | refine At.yl (Yl.notU rfl) rfl ?_
    | refine At.yl (Yl.xorB rfl rfl) rfl ?_
    | refine At.yl (Yl.convBU Tryd.underlying5 Tryd.underlying48 rfl) rfl ?_
    | refine At.yl (Yl.convUB Tryd.underlying48 Tryd.underlying5 rfl) rfl ?_
    | refine At.yl (Yl.lenSl Tryd.underlying28 rfl) rfl ?_)
  refine At.loop (σ := Nat × Array Obj) (fun σ => [(2, ptr br 0), (3, ptr bc 0), (7, .agg (arrB 200 x)), (8, I σ.1)]) (fun σ => σ.2)
    (fun σ => σ.1 ≤ 200 ∧ σ.2.size = H4.size ∧ Sub H σ.2 ∧ σ.2[br]? = some (cellsOf (arrU 25 fun _ => 0) 52) ∧ σ.2[bc]? = some (cellsOf (arrU 25 (lnN x σ.1)) 52))
    (fun σ => 200 - σ.1) (0, H4) ⟨by simp only; omega, rfl, u4, gr4, gc⟩ (Sb.cons rfl (Sb.cons rfl (Sb.cons rfl (Sb.cons rfl (Sb.nil))))) rfl ?_
  clear ga4 gr4 u4
  rintro ⟨k, H5⟩ ⟨hk, s5, u5, gr, gc⟩
  simp only at hk s5 u5 gr gc ⊢
  repeat (first
    | refine At.yl (Yl.move rfl) rfl ?_
    | refine At.yl (Yl.assign rfl) rfl ?_
    | refine At.nil ?_
    | refine At.nmThen ?_
    | refine At.region ?_
    | refine At.seq ?_
    | refine At.block ?_
    | refine At.nmBlock ?_
    | refine At.skip ?_
    | refine At.exit ?_
    | refine At.exThen ?_
    | refine At.exHere ?_
    | refine At.exOther rfl ?_
    | refine At.retC ?_
    | refine At.rtThen ?_
    | refine At.rtBlock ?_
    | refine At.yl (Yl.nilCheck rfl) rfl ?_
    | refine At.yl (Yl.addI rfl rfl (by omega) (by omega)) rfl ?_
    | refine At.yl (Yl.subI rfl rfl (by omega) (by omega)) rfl ?_
    | refine At.yl (Yl.mulI rfl rfl (by omega) (by omega)) rfl ?_
    | refine At.yl (Yl.quoI rfl rfl (by omega) (by omega) (by omega)) rfl ?_
    | refine At.yl (Yl.remI rfl rfl (by omega) (by omega)) rfl ?_
    | refine At.yl (Yl.lss rfl rfl) rfl ?_
    | refine At.yl (Yl.gtr rfl rfl) rfl ?_
    | refine At.yl (Yl.leq rfl rfl) rfl ?_
    | refine At.yl (Yl.geq rfl rfl) rfl ?_
    | refine At.yl (Yl.eql rfl rfl) rfl ?_
    | refine At.yl (Yl.neq rfl rfl) rfl ?_
    | refine At.yl (Yl.xorU rfl rfl) rfl ?_
    | refine At.yl (Yl.orU rfl rfl) rfl ?_
    | refine At.yl (Yl.andU rfl rfl) rfl ?_
    | refine At.yl (Yl.notU rfl) rfl ?_
    | refine At.yl (Yl.xorB rfl rfl) rfl ?_
    | refine At.yl (Yl.convBU Tryd.underlying5 Tryd.underlying48 rfl) rfl ?_
    | refine At.yl (Yl.convUB Tryd.underlying48 Tryd.underlying5 rfl) rfl ?_
    | refine At.yl (Yl.lenSl Tryd.underlying28 rfl) rfl ?_)
  by_cases hlt : k < 200
  · refine At.condDT rfl (by omega) ?_
    repeat (first
      | refine At.yl (Yl.move rfl) rfl ?_
      | refine At.yl (Yl.assign rfl) rfl ?_
      | refine At.nil ?_
      | refine At.nmThen ?_
      | refine At.region ?_
      | refine At.seq ?_
      | refine At.block ?_
      | refine At.nmBlock ?_
      | refine At.skip ?_
      | refine At.exit ?_
      | refine At.exThen ?_
      | refine At.exHere ?_
      | refine At.exOther rfl ?_
      | refine At.retC ?_
      | refine At.rtThen ?_
      | refine At.rtBlock ?_
      | refine At.yl (Yl.nilCheck rfl) rfl ?_
      | refine At.yl (Yl.addI rfl rfl (by omega) (by omega)) rfl ?_
      | refine At.yl (Yl.subI rfl rfl (by omega) (by omega)) rfl ?_
      | refine At.yl (Yl.mulI rfl rfl (by omega) (by omega)) rfl ?_
      | refine At.yl (Yl.quoI rfl rfl (by omega) (by omega) (by omega)) rfl ?_
      | refine At.yl (Yl.remI rfl rfl (by omega) (by omega)) rfl ?_
      | refine At.yl (Yl.lss rfl rfl) rfl ?_
      | refine At.yl (Yl.gtr rfl rfl) rfl ?_
      | refine At.yl (Yl.leq rfl rfl) rfl ?_
      | refine At.yl (Yl.geq rfl rfl) rfl ?_
      | refine At.yl (Yl.eql rfl rfl) rfl ?_
      | refine At.yl (Yl.neq rfl rfl) rfl ?_
      | refine At.yl (Yl.xorU rfl rfl) rfl ?_
      | refine At.yl (Yl.orU rfl rfl) rfl ?_
      | refine At.yl (Yl.andU rfl rfl) rfl ?_
      | refine At.yl (Yl.notU rfl) rfl ?_
      | refine At.yl (Yl.xorB rfl rfl) rfl ?_
      | refine At.yl (Yl.convBU Tryd.underlying5 Tryd.underlying48 rfl) rfl ?_
      | refine At.yl (Yl.convUB Tryd.underlying48 Tryd.underlying5 rfl) rfl ?_
      | refine At.yl (Yl.lenSl Tryd.underlying28 rfl) rfl ?_)
    refine At.yl (Yl.index Tryd.underlying25 Tryd.underlying5 rfl info5 bq5 rfl rfl rfl hlt (arrB_get _ hlt)) rfl ?_
    repeat (first
      | refine At.yl (Yl.move rfl) rfl ?_
      | refine At.yl (Yl.assign rfl) rfl ?_
      | refine At.nil ?_
      | refine At.nmThen ?_
      | refine At.region ?_
      | refine At.seq ?_
      | refine At.block ?_
      | refine At.nmBlock ?_
      | refine At.skip ?_
      | refine At.exit ?_
      | refine At.exThen ?_
      | refine At.exHere ?_
      | refine At.exOther rfl ?_
      | refine At.retC ?_
      | refine At.rtThen ?_
      | refine At.rtBlock ?_
      | refine At.yl (Yl.nilCheck rfl) rfl ?_
      | refine At.yl (Yl.addI rfl rfl (by omega) (by omega)) rfl ?_
      | refine At.yl (Yl.subI rfl rfl (by omega) (by omega)) rfl ?_
      | refine At.yl (Yl.mulI rfl rfl (by omega) (by omega)) rfl ?_
      | refine At.yl (Yl.quoI rfl rfl (by omega) (by omega) (by omega)) rfl ?_
      | refine At.yl (Yl.remI rfl rfl (by omega) (by omega)) rfl ?_
      | refine At.yl (Yl.lss rfl rfl) rfl ?_
      | refine At.yl (Yl.gtr rfl rfl) rfl ?_
      | refine At.yl (Yl.leq rfl rfl) rfl ?_
      | refine At.yl (Yl.geq rfl rfl) rfl ?_
      | refine At.yl (Yl.eql rfl rfl) rfl ?_
      | refine At.yl (Yl.neq rfl rfl) rfl ?_
      | refine At.yl (Yl.xorU rfl rfl) rfl ?_
      | refine At.yl (Yl.orU rfl rfl) rfl ?_
      | refine At.yl (Yl.andU rfl rfl) rfl ?_
      | refine At.yl (Yl.notU rfl) rfl ?_
      | refine At.yl (Yl.xorB rfl rfl) rfl ?_
      | refine At.yl (Yl.convBU Tryd.underlying5 Tryd.underlying48 rfl) rfl ?_
      | refine At.yl (Yl.convUB Tryd.underlying48 Tryd.underlying5 rfl) rfl ?_
      | refine At.yl (Yl.lenSl Tryd.underlying28 rfl) rfl ?_)
    refine At.draws 14 (ordFrom 0 14) rfl (by decide +kernel) (by repeat (first | exact QP.body _ _ _ | refine QP.thn ?_ | refine QP.blk ?_)) ?_
    show At _ _ _ _ (wpOrd _ _ _ _ _ [(0, false), (1, false), (2, false), (3, false), (4, false), (5, false), (6, false), (7, false), (8, false), (9, false), (10, false), (11, false), (12, false), (13, false)])
    repeat (first
      | refine At.ordY (Sub.refl _) rfl (Yl.move rfl) rfl ?_
      | refine At.ordY (Sub.refl _) rfl (Yl.assign rfl) rfl ?_
      | refine At.ordY (Sub.refl _) rfl (Yl.nilCheck rfl) rfl ?_
      | refine At.ordY (Sub.refl _) rfl (Yl.addI rfl rfl (by omega) (by omega)) rfl ?_
      | refine At.ordY (Sub.refl _) rfl (Yl.subI rfl rfl (by omega) (by omega)) rfl ?_
      | refine At.ordY (Sub.refl _) rfl (Yl.mulI rfl rfl (by omega) (by omega)) rfl ?_
      | refine At.ordY (Sub.refl _) rfl (Yl.quoI rfl rfl (by omega) (by omega) (by omega)) rfl ?_
      | refine At.ordY (Sub.refl _) rfl (Yl.remI rfl rfl (by omega) (by omega)) rfl ?_
      | refine At.ordY (Sub.refl _) rfl (Yl.lss rfl rfl) rfl ?_
      | refine At.ordY (Sub.refl _) rfl (Yl.gtr rfl rfl) rfl ?_
      | refine At.ordY (Sub.refl _) rfl (Yl.leq rfl rfl) rfl ?_
      | refine At.ordY (Sub.refl _) rfl (Yl.geq rfl rfl) rfl ?_
      | refine At.ordY (Sub.refl _) rfl (Yl.eql rfl rfl) rfl ?_
      | refine At.ordY (Sub.refl _) rfl (Yl.neq rfl rfl) rfl ?_
      | refine At.ordY (Sub.refl _) rfl (Yl.xorU rfl rfl) rfl ?_
      | refine At.ordY (Sub.refl _) rfl (Yl.orU rfl rfl) rfl ?_
      | refine At.ordY (Sub.refl _) rfl (Yl.andU rfl rfl) rfl ?_
      | refine At.ordY (Sub.refl _) rfl (Yl.notU rfl) rfl ?_
      | refine At.ordY (Sub.refl _) rfl (Yl.xorB rfl rfl) rfl ?_
      | refine At.ordY (Sub.refl _) rfl (Yl.convBU Tryd.underlying5 Tryd.underlying48 rfl) rfl ?_
      | refine At.ordY (Sub.refl _) rfl (Yl.convUB Tryd.underlying48 Tryd.underlying5 rfl) rfl ?_
      | refine At.ordY (Sub.refl _) rfl (Yl.lenSl Tryd.underlying28 rfl) rfl ?_)
    refine At.ordY (Sub.refl _) rfl (Yl.indexArr (i := k / 8) Tryd.underlying52 info48 bq48 rfl rfl (by omega) (by omega)) rfl ?_
    refine At.ordY (Sub.refl _) rfl (Yl.loadU Tryd.underlying48 rfl gc rfl (by omega)) rfl ?_
    repeat (first
      | refine At.ordY (Sub.refl _) rfl (Yl.move rfl) rfl ?_
      | refine At.ordY (Sub.refl _) rfl (Yl.assign rfl) rfl ?_
      | refine At.ordY (Sub.refl _) rfl (Yl.nilCheck rfl) rfl ?_
      | refine At.ordY (Sub.refl _) rfl (Yl.addI rfl rfl (by omega) (by omega)) rfl ?_
      | refine At.ordY (Sub.refl _) rfl (Yl.subI rfl rfl (by omega) (by omega)) rfl ?_
      | refine At.ordY (Sub.refl _) rfl (Yl.mulI rfl rfl (by omega) (by omega)) rfl ?_
      | refine At.ordY (Sub.refl _) rfl (Yl.quoI rfl rfl (by omega) (by omega) (by omega)) rfl ?_
      | refine At.ordY (Sub.refl _) rfl (Yl.remI rfl rfl (by omega) (by omega)) rfl ?_
      | refine At.ordY (Sub.refl _) rfl (Yl.lss rfl rfl) rfl ?_
      | refine At.ordY (Sub.refl _) rfl (Yl.gtr rfl rfl) rfl ?_
      | refine At.ordY (Sub.refl _) rfl (Yl.leq rfl rfl) rfl ?_
      | refine At.ordY (Sub.refl _) rfl (Yl.geq rfl rfl) rfl ?_
      | refine At.ordY (Sub.refl _) rfl (Yl.eql rfl rfl) rfl ?_
      | refine At.ordY (Sub.refl _) rfl (Yl.neq rfl rfl) rfl ?_
      | refine At.ordY (Sub.refl _) rfl (Yl.xorU rfl rfl) rfl ?_
      | refine At.ordY (Sub.refl _) rfl (Yl.orU rfl rfl) rfl ?_
      | refine At.ordY (Sub.refl _) rfl (Yl.andU rfl rfl) rfl ?_
      | refine At.ordY (Sub.refl _) rfl (Yl.notU rfl) rfl ?_
      | refine At.ordY (Sub.refl _) rfl (Yl.xorB rfl rfl) rfl ?_
      | refine At.ordY (Sub.refl _) rfl (Yl.convBU Tryd.underlying5 Tryd.underlying48 rfl) rfl ?_
      | refine At.ordY (Sub.refl _) rfl (Yl.convUB Tryd.underlying48 Tryd.underlying5 rfl) rfl ?_
      | refine At.ordY (Sub.refl _) rfl (Yl.lenSl Tryd.underlying28 rfl) rfl ?_)
    refine At.ordY (Sub.refl _) rfl (Yl.shlU (m := 8 * (k % 8)) rfl rfl (by omega)) rfl ?_
    repeat (first
      | refine At.ordY (Sub.refl _) rfl (Yl.move rfl) rfl ?_
      | refine At.ordY (Sub.refl _) rfl (Yl.assign rfl) rfl ?_
      | refine At.ordY (Sub.refl _) rfl (Yl.nilCheck rfl) rfl ?_
      | refine At.ordY (Sub.refl _) rfl (Yl.addI rfl rfl (by omega) (by omega)) rfl ?_
      | refine At.ordY (Sub.refl _) rfl (Yl.subI rfl rfl (by omega) (by omega)) rfl ?_
      | refine At.ordY (Sub.refl _) rfl (Yl.mulI rfl rfl (by omega) (by omega)) rfl ?_
      | refine At.ordY (Sub.refl _) rfl (Yl.quoI rfl rfl (by omega) (by omega) (by omega)) rfl ?_
      | refine At.ordY (Sub.refl _) rfl (Yl.remI rfl rfl (by omega) (by omega)) rfl ?_
      | refine At.ordY (Sub.refl _) rfl (Yl.lss rfl rfl) rfl ?_
      | refine At.ordY (Sub.refl _) rfl (Yl.gtr rfl rfl) rfl ?_
      | refine At.ordY (Sub.refl _) rfl (Yl.leq rfl rfl) rfl ?_
      | refine At.ordY (Sub.refl _) rfl (Yl.geq rfl rfl) rfl ?_
      | refine At.ordY (Sub.refl _) rfl (Yl.eql rfl rfl) rfl ?_
      | refine At.ordY (Sub.refl _) rfl (Yl.neq rfl rfl) rfl ?_
      | refine At.ordY (Sub.refl _) rfl (Yl.xorU rfl rfl) rfl ?_
      | refine At.ordY (Sub.refl _) rfl (Yl.orU rfl rfl) rfl ?_
      | refine At.ordY (Sub.refl _) rfl (Yl.andU rfl rfl) rfl ?_
      | refine At.ordY (Sub.refl _) rfl (Yl.notU rfl) rfl ?_
      | refine At.ordY (Sub.refl _) rfl (Yl.xorB rfl rfl) rfl ?_
      | refine At.ordY (Sub.refl _) rfl (Yl.convBU Tryd.underlying5 Tryd.underlying48 rfl) rfl ?_
      | refine At.ordY (Sub.refl _) rfl (Yl.convUB Tryd.underlying48 Tryd.underlying5 rfl) rfl ?_
      | refine At.ordY (Sub.refl _) rfl (Yl.lenSl Tryd.underlying28 rfl) rfl ?_)
    refine At.ordY (Sub.refl _) rfl (Yl.indexArr (i := k / 8) Tryd.underlying52 info48 bq48 rfl rfl (by omega) (by omega)) rfl ?_
    refine At.ordNil (Sub.refl _) ?_
    refine At.put (Ef.storeU info48 bq48 gc rfl rfl (by omega)) gc fun H6 s6 o6 gc => ?_
    repeat (first
      | refine At.yl (Yl.move rfl) rfl ?_
      | refine At.yl (Yl.assign rfl) rfl ?_
      | refine At.nil ?_
      | refine At.nmThen ?_
      | refine At.region ?_
      | refine At.seq ?_
      | refine At.block ?_
      | refine At.nmBlock ?_
      | refine At.skip ?_
      | refine At.exit ?_
      | refine At.exThen ?_
      | refine At.exHere ?_
      | refine At.exOther rfl ?_
      | refine At.retC ?_
      | refine At.rtThen ?_
      | refine At.rtBlock ?_
      | refine At.yl (Yl.nilCheck rfl) rfl ?_
      | refine At.yl (Yl.addI rfl rfl (by omega) (by omega)) rfl ?_
      | refine At.yl (Yl.subI rfl rfl (by omega) (by omega)) rfl ?_
      | refine At.yl (Yl.mulI rfl rfl (by omega) (by omega)) rfl ?_
      | refine At.yl (Yl.quoI rfl rfl (by omega) (by omega) (by omega)) rfl ?_
      | refine At.yl (Yl.remI rfl rfl (by omega) (by omega)) rfl ?_
      | refine At.yl (Yl.lss rfl rfl) rfl ?_
      | refine At.yl (Yl.gtr rfl rfl) rfl ?_
      | refine At.yl (Yl.leq rfl rfl) rfl ?_
      | refine At.yl (Yl.geq rfl rfl) rfl ?_
      | refine At.yl (Yl.eql rfl rfl) rfl ?_
      | refine At.yl (Yl.neq rfl rfl) rfl ?_
      | refine At.yl (Yl.xorU rfl rfl) rfl ?_
      | refine At.yl (Yl.orU rfl rfl) rfl ?_
      | refine At.yl (Yl.andU rfl rfl) rfl ?_
      | refine At.yl (Yl.notU rfl) rfl ?_
      | refine At.yl (Yl.xorB rfl rfl) rfl ?_
      | refine At.yl (Yl.convBU Tryd.underlying5 Tryd.underlying48 rfl) rfl ?_
      | refine At.yl (Yl.convUB Tryd.underlying48 Tryd.underlying5 rfl) rfl ?_
      | refine At.yl (Yl.lenSl Tryd.underlying28 rfl) rfl ?_)
    exact At.round (k + 1, H6) ⟨by simp only; omega, by simp only; omega, u5.put o6 (by omega), o6.ne gr (by omega), gc⟩ (by simp only; omega) (Sb.cons rfl (Sb.cons rfl (Sb.cons rfl (Sb.cons rfl (Sb.nil))))) rfl
  refine At.condDF rfl (by omega) ?_
  have hk25 : k = 200 := by omega
  subst hk25
  generalize lnN x 200 = c at gc ⊢
  repeat (first
    | refine At.yl (Yl.move rfl) rfl ?_
    | refine At.yl (Yl.assign rfl) rfl ?_
    | refine At.nil ?_
    | refine At.nmThen ?_
    | refine At.region ?_
    | refine At.seq ?_
    | refine At.block ?_
    | refine At.nmBlock ?_
    | refine At.skip ?_
    | refine At.exit ?_
    | refine At.exThen ?_
    | refine At.exHere ?_
    | refine At.exOther rfl ?_
    | refine At.retC ?_
    | refine At.rtThen ?_
    | refine At.rtBlock ?_
    | refine At.yl (Yl.nilCheck rfl) rfl ?_
    | refine At.yl (Yl.addI rfl rfl (by omega) (by omega)) rfl ?_
    | refine At.yl (Yl.subI rfl rfl (by omega) (by omega)) rfl ?_
    | refine At.yl (Yl.mulI rfl rfl (by omega) (by omega)) rfl ?_
    | refine At.yl (Yl.quoI rfl rfl (by omega) (by omega) (by omega)) rfl ?_
    | refine At.yl (Yl.remI rfl rfl (by omega) (by omega)) rfl ?_
    | refine At.yl (Yl.lss rfl rfl) rfl ?_
    | refine At.yl (Yl.gtr rfl rfl) rfl ?_
    | refine At.yl (Yl.leq rfl rfl) rfl ?_
    | refine At.yl (Yl.geq rfl rfl) rfl ?_
    | refine At.yl (Yl.eql rfl rfl) rfl ?_
    | refine At.yl (Yl.neq rfl rfl) rfl ?_
    | refine At.yl (Yl.xorU rfl rfl) rfl ?_
    | refine At.yl (Yl.orU rfl rfl) rfl ?_
    | refine At.yl (Yl.andU rfl rfl) rfl ?_
    | refine At.yl (Yl.notU rfl) rfl ?_
    | refine At.yl (Yl.xorB rfl rfl) rfl ?_
    | refine At.yl (Yl.convBU Tryd.underlying5 Tryd.underlying48 rfl) rfl ?_
    | refine At.yl (Yl.convUB Tryd.underlying48 Tryd.underlying5 rfl) rfl ?_
    | refine At.yl (Yl.lenSl Tryd.underlying28 rfl) rfl ?_)
  refine At.yl (Yl.loadWU Tryd.underlying52 rfl info52 bq52 rfl gc) rfl ?_
  refine At.put (Ef.storeWU info52 bq52 rfl rfl gr) gr fun H7 s7 o7 gr7 => ?_
  repeat (first
    | refine At.yl (Yl.move rfl) rfl ?_
    | refine At.yl (Yl.assign rfl) rfl ?_
    | refine At.nil ?_
    | refine At.nmThen ?_
    | refine At.region ?_
    | refine At.seq ?_
    | refine At.block ?_
    | refine At.nmBlock ?_
    | refine At.skip ?_
    | refine At.exit ?_
    | refine At.exThen ?_
    | refine At.exHere ?_
    | refine At.exOther rfl ?_
    | refine At.retC ?_
    | refine At.rtThen ?_
    | refine At.rtBlock ?_
    | refine At.yl (Yl.nilCheck rfl) rfl ?_
    | refine At.yl (Yl.addI rfl rfl (by omega) (by omega)) rfl ?_
    | refine At.yl (Yl.subI rfl rfl (by omega) (by omega)) rfl ?_
    | refine At.yl (Yl.mulI rfl rfl (by omega) (by omega)) rfl ?_
    | refine At.yl (Yl.quoI rfl rfl (by omega) (by omega) (by omega)) rfl ?_
    | refine At.yl (Yl.remI rfl rfl (by omega) (by omega)) rfl ?_
    | refine At.yl (Yl.lss rfl rfl) rfl ?_
    | refine At.yl (Yl.gtr rfl rfl) rfl ?_
    | refine At.yl (Yl.leq rfl rfl) rfl ?_
    | refine At.yl (Yl.geq rfl rfl) rfl ?_
    | refine At.yl (Yl.eql rfl rfl) rfl ?_
    | refine At.yl (Yl.neq rfl rfl) rfl ?_
    | refine At.yl (Yl.xorU rfl rfl) rfl ?_
    | refine At.yl (Yl.orU rfl rfl) rfl ?_
    | refine At.yl (Yl.andU rfl rfl) rfl ?_
    | refine At.yl (Yl.notU rfl) rfl ?_
    | refine At.yl (Yl.xorB rfl rfl) rfl ?_
    | refine At.yl (Yl.convBU Tryd.underlying5 Tryd.underlying48 rfl) rfl ?_
    | refine At.yl (Yl.convUB Tryd.underlying48 Tryd.underlying5 rfl) rfl ?_
    | refine At.yl (Yl.lenSl Tryd.underlying28 rfl) rfl ?_)
  exact At.retCellU (b := br) Tryd.results28 Tryd.underlying52 rfl info52 bq52 rfl gr7 ⟨rfl, u5.put o7 (by omega)⟩

set_option maxRecDepth 8000 in
set_option maxHeartbeats 4000000 in
theorem zk_does (H : Array Obj) (s : Nat → BitVec 64) (turbo : Bool) (rcs : Nat → BitVec 64) {T' : TypeId} {fz : Nat × Nat} (hg : H[1]? = some (.cells (arrU 24 rcs) T' fz)) :
    Does Tryd.prog 27 #[.agg (arrU 25 s), .bool turbo] H (fun v H' => v = .agg (arrU 25 (keccak rcs turbo s)) ∧ Sub H H') := by
  have hg1 := lt_of_get hg
  refine Does.of_body (vs := [.agg (arrU 25 s), .bool turbo]) Tryd.func27 rfl Tryd.ntmps27 rfl fun w0 => ?_
  repeat (first
    | refine At.yl (Yl.move rfl) rfl ?_
    | refine At.yl (Yl.assign rfl) rfl ?_
    | refine At.nil ?_
    | refine At.nmThen ?_
    | refine At.region ?_
    | refine At.seq ?_
    | refine At.block ?_
    | refine At.nmBlock ?_
    | refine At.skip ?_
    | refine At.exit ?_
    | refine At.exThen ?_
    | refine At.exHere ?_
    | refine At.exOther rfl ?_
    | refine At.retC ?_
    | refine At.rtThen ?_
    | refine At.rtBlock ?_
    | refine At.yl (Yl.nilCheck rfl) rfl ?_
    | refine At.yl (Yl.addI rfl rfl (by omega) (by omega)) rfl ?_
    | refine At.yl (Yl.subI rfl rfl (by omega) (by omega)) rfl ?_
    | refine At.yl (Yl.mulI rfl rfl (by omega) (by omega)) rfl ?_
    | refine At.yl (Yl.quoI rfl rfl (by omega) (by omega) (by omega)) rfl ?_
    | refine At.yl (Yl.remI rfl rfl (by omega) (by omega)) rfl ?_
    | refine At.yl (Yl.lss rfl rfl) rfl ?_
    | refine At.yl (Yl.gtr rfl rfl) rfl ?_
    | refine At.yl (Yl.leq rfl rfl) rfl ?_
    | refine At.yl (Yl.geq rfl rfl) rfl ?_
    | refine At.yl (Yl.eql rfl rfl) rfl ?_
    | refine At.yl (Yl.neq rfl rfl) rfl ?_
    | refine At.yl (Yl.xorU rfl rfl) rfl ?_
    | refine At.yl (Yl.orU rfl rfl) rfl ?_
    | refine At.yl (Yl.andU rfl rfl) rfl ?_
    | refine At.yl (Yl.notU rfl) rfl ?_
    | refine At.yl (Yl.xorB rfl rfl) rfl ?_
    | refine At.yl (Yl.convBU Tryd.underlying5 Tryd.underlying48 rfl) rfl ?_
    | refine At.yl (Yl.convUB Tryd.underlying48 Tryd.underlying5 rfl) rfl ?_
    | refine At.yl (Yl.lenSl Tryd.underlying28 rfl) rfl ?_)
  refine At.new (Ef.box rfl) rfl fun ba H1 ea s1 u1 ga => ?_
  refine At.new (Ef.allocU info52 zero52) rfl fun br H2 er s2 u2 gr => ?_
  repeat (first
    | refine At.yl (Yl.move rfl) rfl ?_
    | refine At.yl (Yl.assign rfl) rfl ?_
    | refine At.nil ?_
    | refine At.nmThen ?_
    | refine At.region ?_
    | refine At.seq ?_
    | refine At.block ?_
    | refine At.nmBlock ?_
    | refine At.skip ?_
    | refine At.exit ?_
    | refine At.exThen ?_
    | refine At.exHere ?_
    | refine At.exOther rfl ?_
    | refine At.retC ?_
    | refine At.rtThen ?_
    | refine At.rtBlock ?_
    | refine At.yl (Yl.nilCheck rfl) rfl ?_
    | refine At.yl (Yl.addI rfl rfl (by omega) (by omega)) rfl ?_
    | refine At.yl (Yl.subI rfl rfl (by omega) (by omega)) rfl ?_
    | refine At.yl (Yl.mulI rfl rfl (by omega) (by omega)) rfl ?_
    | refine At.yl (Yl.quoI rfl rfl (by omega) (by omega) (by omega)) rfl ?_
    | refine At.yl (Yl.remI rfl rfl (by omega) (by omega)) rfl ?_
    | refine At.yl (Yl.lss rfl rfl) rfl ?_
    | refine At.yl (Yl.gtr rfl rfl) rfl ?_
    | refine At.yl (Yl.leq rfl rfl) rfl ?_
    | refine At.yl (Yl.geq rfl rfl) rfl ?_
    | refine At.yl (Yl.eql rfl rfl) rfl ?_
    | refine At.yl (Yl.neq rfl rfl) rfl ?_
    | refine At.yl (Yl.xorU rfl rfl) rfl ?_
    | refine At.yl (Yl.orU rfl rfl) rfl ?_
    | refine At.yl (Yl.andU rfl rfl) rfl ?_
    | refine At.yl (Yl.notU rfl) rfl ?_
    | refine At.yl (Yl.xorB rfl rfl) rfl ?_
    | refine At.yl (Yl.convBU Tryd.underlying5 Tryd.underlying48 rfl) rfl ?_
    | refine At.yl (Yl.convUB Tryd.underlying48 Tryd.underlying5 rfl) rfl ?_
    | refine At.yl (Yl.lenSl Tryd.underlying28 rfl) rfl ?_)
  have ga2 := u2.get ga
  rw [show (Value.agg (arrU 25 s)).cells = arrU 25 s from rfl, ← lay_nil] at ga2
  refine At.call Tryd.call39 rfl rfl (kf_does (pre := []) ga2 (u2.get (u1.get hg)) (by omega) turbo) ?_
  rintro v H3 ⟨rfl, rfl⟩
  rw [lay_nil] 
  have ga3 : (H2.setIfInBounds ba (cellsOf (arrU 25 (keccak rcs turbo s)) 52))[ba]? = some (cellsOf (arrU 25 (keccak rcs turbo s)) 52) := get_set_same ga2
  have o3 : Only (fun i => i = ba) H2 (H2.setIfInBounds ba (cellsOf (arrU 25 (keccak rcs turbo s)) 52)) := Only.set _ _ rfl
  have gr3 := o3.ne gr (by omega)
  have u3 : Sub H (H2.setIfInBounds ba (cellsOf (arrU 25 (keccak rcs turbo s)) 52)) := (u1.trans u2).put o3 (by omega)
  generalize H2.setIfInBounds ba (cellsOf (arrU 25 (keccak rcs turbo s)) 52) = H3 at ga3 gr3 u3 o3 ⊢
  generalize keccak rcs turbo s = c at ga3 ⊢
  repeat (first
    | refine At.yl (Yl.move rfl) rfl ?_
    | refine At.yl (Yl.assign rfl) rfl ?_
    | refine At.nil ?_
    | refine At.nmThen ?_
    | refine At.region ?_
    | refine At.seq ?_
    | refine At.block ?_
    | refine At.nmBlock ?_
    | refine At.skip ?_
    | refine At.exit ?_
    | refine At.exThen ?_
    | refine At.exHere ?_
    | refine At.exOther rfl ?_
    | refine At.retC ?_
    | refine At.rtThen ?_
    | refine At.rtBlock ?_
    | refine At.yl (Yl.nilCheck rfl) rfl ?_
    | refine At.yl (Yl.addI rfl rfl (by omega) (by omega)) rfl ?_
    | refine At.yl (Yl.subI rfl rfl (by omega) (by omega)) rfl ?_
    | refine At.yl (Yl.mulI rfl rfl (by omega) (by omega)) rfl ?_
    | refine At.yl (Yl.quoI rfl rfl (by omega) (by omega) (by omega)) rfl ?_
    | refine At.yl (Yl.remI rfl rfl (by omega) (by omega)) rfl ?_
    | refine At.yl (Yl.lss rfl rfl) rfl ?_
    | refine At.yl (Yl.gtr rfl rfl) rfl ?_
    | refine At.yl (Yl.leq rfl rfl) rfl ?_
    | refine At.yl (Yl.geq rfl rfl) rfl ?_
    | refine At.yl (Yl.eql rfl rfl) rfl ?_
    | refine At.yl (Yl.neq rfl rfl) rfl ?_
    | refine At.yl (Yl.xorU rfl rfl) rfl ?_
    | refine At.yl (Yl.orU rfl rfl) rfl ?_
    | refine At.yl (Yl.andU rfl rfl) rfl ?_
    | refine At.yl (Yl.notU rfl) rfl ?_
    | refine At.yl (Yl.xorB rfl rfl) rfl ?_
    | refine At.yl (Yl.convBU Tryd.underlying5 Tryd.underlying48 rfl) rfl ?_
    | refine At.yl (Yl.convUB Tryd.underlying48 Tryd.underlying5 rfl) rfl ?_
    | refine At.yl (Yl.lenSl Tryd.underlying28 rfl) rfl ?_)
  refine At.yl (Yl.loadWU Tryd.underlying52 rfl info52 bq52 rfl ga3) rfl ?_
  refine At.put (Ef.storeWU info52 bq52 rfl rfl gr3) gr3 fun H7 s7 o7 gr7 => ?_
  repeat (first
    | refine At.yl (Yl.move rfl) rfl ?_
    | refine At.yl (Yl.assign rfl) rfl ?_
    | refine At.nil ?_
    | refine At.nmThen ?_
    | refine At.region ?_
    | refine At.seq ?_
    | refine At.block ?_
    | refine At.nmBlock ?_
    | refine At.skip ?_
    | refine At.exit ?_
    | refine At.exThen ?_
    | refine At.exHere ?_
    | refine At.exOther rfl ?_
    | refine At.retC ?_
    | refine At.rtThen ?_
    | refine At.rtBlock ?_
    | refine At.yl (Yl.nilCheck rfl) rfl ?_
    | refine At.yl (Yl.addI rfl rfl (by omega) (by omega)) rfl ?_
    | refine At.yl (Yl.subI rfl rfl (by omega) (by omega)) rfl ?_
    | refine At.yl (Yl.mulI rfl rfl (by omega) (by omega)) rfl ?_
    | refine At.yl (Yl.quoI rfl rfl (by omega) (by omega) (by omega)) rfl ?_
    | refine At.yl (Yl.remI rfl rfl (by omega) (by omega)) rfl ?_
    | refine At.yl (Yl.lss rfl rfl) rfl ?_
    | refine At.yl (Yl.gtr rfl rfl) rfl ?_
    | refine At.yl (Yl.leq rfl rfl) rfl ?_
    | refine At.yl (Yl.geq rfl rfl) rfl ?_
    | refine At.yl (Yl.eql rfl rfl) rfl ?_
    | refine At.yl (Yl.neq rfl rfl) rfl ?_
    | refine At.yl (Yl.xorU rfl rfl) rfl ?_
    | refine At.yl (Yl.orU rfl rfl) rfl ?_
    | refine At.yl (Yl.andU rfl rfl) rfl ?_
    | refine At.yl (Yl.notU rfl) rfl ?_
    | refine At.yl (Yl.xorB rfl rfl) rfl ?_
    | refine At.yl (Yl.convBU Tryd.underlying5 Tryd.underlying48 rfl) rfl ?_
    | refine At.yl (Yl.convUB Tryd.underlying48 Tryd.underlying5 rfl) rfl ?_
    | refine At.yl (Yl.lenSl Tryd.underlying28 rfl) rfl ?_)
  exact At.retCellU (b := br) Tryd.results27 Tryd.underlying52 rfl info52 bq52 rfl gr7 ⟨rfl, u3.put o7 (by omega)⟩
end Go.Proofs.YtbnepbdlhpkiiaaDoor

