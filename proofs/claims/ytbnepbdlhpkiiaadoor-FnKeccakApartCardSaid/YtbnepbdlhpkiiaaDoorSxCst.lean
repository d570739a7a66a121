/- The reference's Constant and left: what they compute. -/
import Derived.Test.YtbnepbdlhpkiiaaDoorSxK
import Derived.Test.YtbnepbdlhpkiiaaDoorSxHeap
import Derived.Test.YtbnepbdlhpkiiaaDoorSxFacts
namespace Go.Proofs.YtbnepbdlhpkiiaaDoor
open Go.Sx
attribute [local irreducible] wpList Code.wp Exit.then Exit.inBlock bodyPost wpOrd Does At Yl Ef EfX

/-! ### plain -/
def lfsr : Nat → Nat
  | 0 => 1
  | t + 1 => if 256 ≤ lfsr t * 2 then lfsr t * 2 ^^^ 369 else lfsr t * 2
theorem xor369 : ∀ r, r < 512 → 256 ≤ r → r ^^^ 369 < 256 := by decide +kernel
theorem lfsr_lt : ∀ t, lfsr t < 256
  | 0 => by simp [lfsr]
  | t + 1 => by
    have := lfsr_lt t
    simp only [lfsr]
    split
    · exact xor369 _ (by omega) (by assumption)
    · omega
def cst (round : Nat) : Nat → BitVec 64
  | 0 => 0
  | j + 1 => if lfsr ((j + 7 * round) % 255) &&& 1 = 1 then cst round j ||| (1#64 <<< ((1#64 <<< j) - 1#64).toNat) else cst round j

set_option maxRecDepth 4000 in
theorem left_does (H : Array Obj) (x : BitVec 64) (m : Nat) (z : Int) (hz : z = (m : Int)) (hm : m ≤ 64) : Does Tryd.prog 40 #[U x, I z] H (fun v H' => v = U (rotl x m) ∧ H' = H) := by
  subst hz
  refine Does.of_body (vs := [U x, I m]) Tryd.func40 rfl Tryd.ntmps40 rfl fun w0 => ?_
  repeat (first
    | refine At.yl (Yl.move rfl) rfl ?_
    | refine At.yl (Yl.assign rfl) rfl ?_
    | refine At.nil ?_
    | refine At.nmThen ?_
    | refine At.region ?_
    | refine At.seq ?_
    | refine At.block ?_
    | refine At.nmBlock ?_
    | refine At.skip ?_
    | refine At.exit ?_
    | refine At.exThen ?_
    | refine At.exHere ?_
    | refine At.exOther rfl ?_
    | refine At.retC ?_
    | refine At.rtThen ?_
    | refine At.rtBlock ?_
    | refine At.yl (Yl.nilCheck rfl) rfl ?_
    | refine At.yl (Yl.addI rfl rfl (by omega) (by omega)) rfl ?_
    | refine At.yl (Yl.subI rfl rfl (by omega) (by omega)) rfl ?_
    | refine At.yl (Yl.mulI rfl rfl (by omega) (by omega)) rfl ?_
    | refine At.yl (Yl.quoI rfl rfl (by omega) (by omega) (by omega)) rfl ?_
    | refine At.yl (Yl.remI rfl rfl (by omega) (by omega)) rfl ?_
    | refine At.yl (Yl.lss rfl rfl) rfl ?_
    | refine At.yl (Yl.gtr rfl rfl) rfl ?_
    | refine At.yl (Yl.leq rfl rfl) rfl ?_
    | refine At.yl (Yl.geq rfl rfl) rfl ?_
    | refine At.yl (Yl.eql rfl rfl) rfl ?_
    | refine At.yl (Yl.neq rfl rfl) rfl ?_
    | refine At.yl (Yl.xorU rfl rfl) rfl ?_
    | refine At.yl (Yl.orU rfl rfl) rfl ?_
    | refine At.yl (Yl.andU rfl rfl) rfl ?_
    | refine At.yl (Yl.notU rfl) rfl ?_
    | refine At.yl (Yl.xorB rfl rfl) rfl ?_
    | refine At.yl (Yl.convBU Tryd.underlying5 Tryd.underlying48 rfl) rfl ?_
    | refine At.yl (Yl.convUB Tryd.underlying48 Tryd.underlying5 rfl) rfl ?_
    | refine At.yl (Yl.lenSl Tryd.underlying28 rfl) rfl ?_)
  refine At.draws 8 (ordFrom 0 8) rfl (by decide +kernel) (QP.thn (QP.body _ _ _)) ?_
  repeat (first
    | refine At.ordY (Sub.refl _) rfl (Yl.move rfl) rfl ?_
    | refine At.ordY (Sub.refl _) rfl (Yl.assign rfl) rfl ?_
    | refine At.ordY (Sub.refl _) rfl (Yl.nilCheck rfl) rfl ?_
    | refine At.ordY (Sub.refl _) rfl (Yl.addI rfl rfl (by omega) (by omega)) rfl ?_
    | refine At.ordY (Sub.refl _) rfl (Yl.subI rfl rfl (by omega) (by omega)) rfl ?_
    | refine At.ordY (Sub.refl _) rfl (Yl.mulI rfl rfl (by omega) (by omega)) rfl ?_
    | refine At.ordY (Sub.refl _) rfl (Yl.quoI rfl rfl (by omega) (by omega) (by omega)) rfl ?_
    | refine At.ordY (Sub.refl _) rfl (Yl.remI rfl rfl (by omega) (by omega)) rfl ?_
    | refine At.ordY (Sub.refl _) rfl (Yl.lss rfl rfl) rfl ?_
    | refine At.ordY (Sub.refl _) rfl (Yl.gtr rfl rfl) rfl ?_
    | refine At.ordY (Sub.refl _) rfl (Yl.leq rfl rfl) rfl ?_
    | refine At.ordY (Sub.refl _) rfl (Yl.geq rfl rfl) rfl ?_
    | refine At.ordY (Sub.refl _) rfl (Yl.eql rfl rfl) rfl ?_
    | refine At.ordY (Sub.refl _) rfl (Yl.neq rfl rfl) rfl ?_
    | refine At.ordY (Sub.refl _) rfl (Yl.xorU rfl rfl) rfl ?_
    | refine At.ordY (Sub.refl _) rfl (Yl.orU rfl rfl) rfl ?_
    | refine At.ordY (Sub.refl _) rfl (Yl.andU rfl rfl) rfl ?_
    | refine At.ordY (Sub.refl _) rfl (Yl.notU rfl) rfl ?_
    | refine At.ordY (Sub.refl _) rfl (Yl.xorB rfl rfl) rfl ?_
    | refine At.ordY (Sub.refl _) rfl (Yl.convBU Tryd.underlying5 Tryd.underlying48 rfl) rfl ?_
    | refine At.ordY (Sub.refl _) rfl (Yl.convUB Tryd.underlying48 Tryd.underlying5 rfl) rfl ?_
    | refine At.ordY (Sub.refl _) rfl (Yl.lenSl Tryd.underlying28 rfl) rfl ?_)
  refine At.ordY (Sub.refl _) rfl (Yl.shlU rfl rfl rfl) rfl ?_
  repeat (first
    | refine At.ordY (Sub.refl _) rfl (Yl.move rfl) rfl ?_
    | refine At.ordY (Sub.refl _) rfl (Yl.assign rfl) rfl ?_
    | refine At.ordY (Sub.refl _) rfl (Yl.nilCheck rfl) rfl ?_
    | refine At.ordY (Sub.refl _) rfl (Yl.addI rfl rfl (by omega) (by omega)) rfl ?_
    | refine At.ordY (Sub.refl _) rfl (Yl.subI rfl rfl (by omega) (by omega)) rfl ?_
    | refine At.ordY (Sub.refl _) rfl (Yl.mulI rfl rfl (by omega) (by omega)) rfl ?_
    | refine At.ordY (Sub.refl _) rfl (Yl.quoI rfl rfl (by omega) (by omega) (by omega)) rfl ?_
    | refine At.ordY (Sub.refl _) rfl (Yl.remI rfl rfl (by omega) (by omega)) rfl ?_
    | refine At.ordY (Sub.refl _) rfl (Yl.lss rfl rfl) rfl ?_
    | refine At.ordY (Sub.refl _) rfl (Yl.gtr rfl rfl) rfl ?_
    | refine At.ordY (Sub.refl _) rfl (Yl.leq rfl rfl) rfl ?_
    | refine At.ordY (Sub.refl _) rfl (Yl.geq rfl rfl) rfl ?_
    | refine At.ordY (Sub.refl _) rfl (Yl.eql rfl rfl) rfl ?_
    | refine At.ordY (Sub.refl _) rfl (Yl.neq rfl rfl) rfl ?_
    | refine At.ordY (Sub.refl _) rfl (Yl.xorU rfl rfl) rfl ?_
    | refine At.ordY (Sub.refl _) rfl (Yl.orU rfl rfl) rfl ?_
    | refine At.ordY (Sub.refl _) rfl (Yl.andU rfl rfl) rfl ?_
    | refine At.ordY (Sub.refl _) rfl (Yl.notU rfl) rfl ?_
    | refine At.ordY (Sub.refl _) rfl (Yl.xorB rfl rfl) rfl ?_
    | refine At.ordY (Sub.refl _) rfl (Yl.convBU Tryd.underlying5 Tryd.underlying48 rfl) rfl ?_
    | refine At.ordY (Sub.refl _) rfl (Yl.convUB Tryd.underlying48 Tryd.underlying5 rfl) rfl ?_
    | refine At.ordY (Sub.refl _) rfl (Yl.lenSl Tryd.underlying28 rfl) rfl ?_)
  refine At.ordY (Sub.refl _) rfl (Yl.shrU (m := 64 - m) rfl rfl (by omega)) rfl ?_
  repeat (first
    | refine At.ordY (Sub.refl _) rfl (Yl.move rfl) rfl ?_
    | refine At.ordY (Sub.refl _) rfl (Yl.assign rfl) rfl ?_
    | refine At.ordY (Sub.refl _) rfl (Yl.nilCheck rfl) rfl ?_
    | refine At.ordY (Sub.refl _) rfl (Yl.addI rfl rfl (by omega) (by omega)) rfl ?_
    | refine At.ordY (Sub.refl _) rfl (Yl.subI rfl rfl (by omega) (by omega)) rfl ?_
    | refine At.ordY (Sub.refl _) rfl (Yl.mulI rfl rfl (by omega) (by omega)) rfl ?_
    | refine At.ordY (Sub.refl _) rfl (Yl.quoI rfl rfl (by omega) (by omega) (by omega)) rfl ?_
    | refine At.ordY (Sub.refl _) rfl (Yl.remI rfl rfl (by omega) (by omega)) rfl ?_
    | refine At.ordY (Sub.refl _) rfl (Yl.lss rfl rfl) rfl ?_
    | refine At.ordY (Sub.refl _) rfl (Yl.gtr rfl rfl) rfl ?_
    | refine At.ordY (Sub.refl _) rfl (Yl.leq rfl rfl) rfl ?_
    | refine At.ordY (Sub.refl _) rfl (Yl.geq rfl rfl) rfl ?_
    | refine At.ordY (Sub.refl _) rfl (Yl.eql rfl rfl) rfl ?_
    | refine At.ordY (Sub.refl _) rfl (Yl.neq rfl rfl) rfl ?_
    | refine At.ordY (Sub.refl _) rfl (Yl.xorU rfl rfl) rfl ?_
    | refine At.ordY (Sub.refl _) rfl (Yl.orU rfl rfl) rfl ?_
    | refine At.ordY (Sub.refl _) rfl (Yl.andU rfl rfl) rfl ?_
    | refine At.ordY (Sub.refl _) rfl (Yl.notU rfl) rfl ?_
    | refine At.ordY (Sub.refl _) rfl (Yl.xorB rfl rfl) rfl ?_
    | refine At.ordY (Sub.refl _) rfl (Yl.convBU Tryd.underlying5 Tryd.underlying48 rfl) rfl ?_
    | refine At.ordY (Sub.refl _) rfl (Yl.convUB Tryd.underlying48 Tryd.underlying5 rfl) rfl ?_
    | refine At.ordY (Sub.refl _) rfl (Yl.lenSl Tryd.underlying28 rfl) rfl ?_)
  refine At.ordNil (Sub.refl _) ?_
  repeat (first
    | refine At.yl (Yl.move rfl) rfl ?_
    | refine At.yl (Yl.assign rfl) rfl ?_
    | refine At.nil ?_
    | refine At.nmThen ?_
    | refine At.region ?_
    | refine At.seq ?_
    | refine At.block ?_
    | refine At.nmBlock ?_
    | refine At.skip ?_
    | refine At.exit ?_
    | refine At.exThen ?_
    | refine At.exHere ?_
    | refine At.exOther rfl ?_
    | refine At.retC ?_
    | refine At.rtThen ?_
    | refine At.rtBlock ?_
    | refine At.yl (Yl.nilCheck rfl) rfl ?_
    | refine At.yl (Yl.addI rfl rfl (by omega) (by omega)) rfl ?_
    | refine At.yl (Yl.subI rfl rfl (by omega) (by omega)) rfl ?_
    | refine At.yl (Yl.mulI rfl rfl (by omega) (by omega)) rfl ?_
    | refine At.yl (Yl.quoI rfl rfl (by omega) (by omega) (by omega)) rfl ?_
    | refine At.yl (Yl.remI rfl rfl (by omega) (by omega)) rfl ?_
    | refine At.yl (Yl.lss rfl rfl) rfl ?_
    | refine At.yl (Yl.gtr rfl rfl) rfl ?_
    | refine At.yl (Yl.leq rfl rfl) rfl ?_
    | refine At.yl (Yl.geq rfl rfl) rfl ?_
    | refine At.yl (Yl.eql rfl rfl) rfl ?_
    | refine At.yl (Yl.neq rfl rfl) rfl ?_
    | refine At.yl (Yl.xorU rfl rfl) rfl ?_
    | refine At.yl (Yl.orU rfl rfl) rfl ?_
    | refine At.yl (Yl.andU rfl rfl) rfl ?_
    | refine At.yl (Yl.notU rfl) rfl ?_
    | refine At.yl (Yl.xorB rfl rfl) rfl ?_
    | refine At.yl (Yl.convBU Tryd.underlying5 Tryd.underlying48 rfl) rfl ?_
    | refine At.yl (Yl.convUB Tryd.underlying48 Tryd.underlying5 rfl) rfl ?_
    | refine At.yl (Yl.lenSl Tryd.underlying28 rfl) rfl ?_)
  exact At.ret1 Tryd.results40 rfl ⟨rfl, rfl⟩

set_option maxRecDepth 4000 in
theorem cst_does (H : Array Obj) (round : Nat) (z : Int) (hz : z = (round : Int)) (hr : round < 1000) : Does Tryd.prog 41 #[I z] H (fun v H' => v = U (cst round 7) ∧ H' = H) := by
  subst hz
  refine Does.of_body (vs := [I round]) Tryd.func41 rfl Tryd.ntmps41 rfl fun w0 => ?_
  repeat (first
    | refine At.yl (Yl.move rfl) rfl ?_
    | refine At.yl (Yl.assign rfl) rfl ?_
    | refine At.nil ?_
    | refine At.nmThen ?_
    | refine At.region ?_
    | refine At.seq ?_
    | refine At.block ?_
    | refine At.nmBlock ?_
    | refine At.skip ?_
    | refine At.exit ?_
    | refine At.exThen ?_
    | refine At.exHere ?_
    | refine At.exOther rfl ?_
    | refine At.retC ?_
    | refine At.rtThen ?_
    | refine At.rtBlock ?_
    | refine At.yl (Yl.nilCheck rfl) rfl ?_
    | refine At.yl (Yl.addI rfl rfl (by omega) (by omega)) rfl ?_
    | refine At.yl (Yl.subI rfl rfl (by omega) (by omega)) rfl ?_
    | refine At.yl (Yl.mulI rfl rfl (by omega) (by omega)) rfl ?_
    | refine At.yl (Yl.quoI rfl rfl (by omega) (by omega) (by omega)) rfl ?_
    | refine At.yl (Yl.remI rfl rfl (by omega) (by omega)) rfl ?_
    | refine At.yl (Yl.lss rfl rfl) rfl ?_
    | refine At.yl (Yl.gtr rfl rfl) rfl ?_
    | refine At.yl (Yl.leq rfl rfl) rfl ?_
    | refine At.yl (Yl.geq rfl rfl) rfl ?_
    | refine At.yl (Yl.eql rfl rfl) rfl ?_
    | refine At.yl (Yl.neq rfl rfl) rfl ?_
    | refine At.yl (Yl.xorU rfl rfl) rfl ?_
    | refine At.yl (Yl.orU rfl rfl) rfl ?_
    | refine At.yl (Yl.andU rfl rfl) rfl ?_
    | refine At.yl (Yl.notU rfl) rfl ?_
    | refine At.yl (Yl.xorB rfl rfl) rfl ?_
    | refine At.yl (Yl.convBU Tryd.underlying5 Tryd.underlying48 rfl) rfl ?_
    | refine At.yl (Yl.convUB Tryd.underlying48 Tryd.underlying5 rfl) rfl ?_
    | refine At.yl (Yl.lenSl Tryd.underlying28 rfl) rfl ?_)
  refine At.loop (σ := Nat) (fun j => [(0, I round), (3, U (cst round j)), (4, I j)]) (fun _ => H) (fun j => j ≤ 7) (fun j => 7 - j) 0 (by omega) (.cons rfl (.cons rfl (.cons rfl .nil))) rfl ?_
  intro j hj
  repeat (first
    | refine At.yl (Yl.move rfl) rfl ?_
    | refine At.yl (Yl.assign rfl) rfl ?_
    | refine At.nil ?_
    | refine At.nmThen ?_
    | refine At.region ?_
    | refine At.seq ?_
    | refine At.block ?_
    | refine At.nmBlock ?_
    | refine At.skip ?_
    | refine At.exit ?_
    | refine At.exThen ?_
    | refine At.exHere ?_
    | refine At.exOther rfl ?_
    | refine At.retC ?_
    | refine At.rtThen ?_
    | refine At.rtBlock ?_
    | refine At.yl (Yl.nilCheck rfl) rfl ?_
    | refine At.yl (Yl.addI rfl rfl (by omega) (by omega)) rfl ?_
    | refine At.yl (Yl.subI rfl rfl (by omega) (by omega)) rfl ?_
    | refine At.yl (Yl.mulI rfl rfl (by omega) (by omega)) rfl ?_
    | refine At.yl (Yl.quoI rfl rfl (by omega) (by omega) (by omega)) rfl ?_
    | refine At.yl (Yl.remI rfl rfl (by omega) (by omega)) rfl ?_
    | refine At.yl (Yl.lss rfl rfl) rfl ?_
    | refine At.yl (Yl.gtr rfl rfl) rfl ?_
    | refine At.yl (Yl.leq rfl rfl) rfl ?_
    | refine At.yl (Yl.geq rfl rfl) rfl ?_
    | refine At.yl (Yl.eql rfl rfl) rfl ?_
    | refine At.yl (Yl.neq rfl rfl) rfl ?_
    | refine At.yl (Yl.xorU rfl rfl) rfl ?_
    | refine At.yl (Yl.orU rfl rfl) rfl ?_
    | refine At.yl (Yl.andU rfl rfl) rfl ?_
    | refine At.yl (Yl.notU rfl) rfl ?_
    | refine At.yl (Yl.xorB rfl rfl) rfl ?_
    | refine At.yl (Yl.convBU Tryd.underlying5 Tryd.underlying48 rfl) rfl ?_
    | refine At.yl (Yl.convUB Tryd.underlying48 Tryd.underlying5 rfl) rfl ?_
    | refine At.yl (Yl.lenSl Tryd.underlying28 rfl) rfl ?_)
  by_cases hlt : j < 7
  · refine At.condDT rfl (by omega) ?_
    repeat (first
      | refine At.yl (Yl.move rfl) rfl ?_
      | refine At.yl (Yl.assign rfl) rfl ?_
      | refine At.nil ?_
      | refine At.nmThen ?_
      | refine At.region ?_
      | refine At.seq ?_
      | refine At.block ?_
      | refine At.nmBlock ?_
      | refine At.skip ?_
      | refine At.exit ?_
      | refine At.exThen ?_
      | refine At.exHere ?_
      | refine At.exOther rfl ?_
      | refine At.retC ?_
      | refine At.rtThen ?_
      | refine At.rtBlock ?_
      | refine At.yl (Yl.nilCheck rfl) rfl ?_
      | refine At.yl (Yl.addI rfl rfl (by omega) (by omega)) rfl ?_
      | refine At.yl (Yl.subI rfl rfl (by omega) (by omega)) rfl ?_
      | refine At.yl (Yl.mulI rfl rfl (by omega) (by omega)) rfl ?_
      | refine At.yl (Yl.quoI rfl rfl (by omega) (by omega) (by omega)) rfl ?_
      | refine At.yl (Yl.remI rfl rfl (by omega) (by omega)) rfl ?_
      | refine At.yl (Yl.lss rfl rfl) rfl ?_
      | refine At.yl (Yl.gtr rfl rfl) rfl ?_
      | refine At.yl (Yl.leq rfl rfl) rfl ?_
      | refine At.yl (Yl.geq rfl rfl) rfl ?_
      | refine At.yl (Yl.eql rfl rfl) rfl ?_
      | refine At.yl (Yl.neq rfl rfl) rfl ?_
      | refine At.yl (Yl.xorU rfl rfl) rfl ?_
      | refine At.yl (Yl.orU rfl rfl) rfl ?_
      | refine At.yl (Yl.andU rfl rfl) rfl ?_
      | refine At.yl (Yl.notU rfl) rfl ?_
      | refine At.yl (Yl.xorB rfl rfl) rfl ?_
      | refine At.yl (Yl.convBU Tryd.underlying5 Tryd.underlying48 rfl) rfl ?_
      | refine At.yl (Yl.convUB Tryd.underlying48 Tryd.underlying5 rfl) rfl ?_
      | refine At.yl (Yl.lenSl Tryd.underlying28 rfl) rfl ?_)
    refine At.loop (σ := Nat) (fun t => [(0, I round), (3, U (cst round j)), (4, I j), (5, I (lfsr t : Nat)), (6, I t)]) (fun _ => H) (fun t => t ≤ (j + 7 * round) % 255) (fun t => (j + 7 * round) % 255 - t) 0 (by omega)
      (.cons rfl (.cons rfl (.cons rfl (.cons rfl (.cons rfl .nil))))) rfl ?_
    · intro t ht
      have hl := lfsr_lt t
      repeat (first
        | refine At.yl (Yl.move rfl) rfl ?_
        | refine At.yl (Yl.assign rfl) rfl ?_
        | refine At.nil ?_
        | refine At.nmThen ?_
        | refine At.region ?_
        | refine At.seq ?_
        | refine At.block ?_
        | refine At.nmBlock ?_
        | refine At.skip ?_
        | refine At.exit ?_
        | refine At.exThen ?_
        | refine At.exHere ?_
        | refine At.exOther rfl ?_
        | refine At.retC ?_
        | refine At.rtThen ?_
        | refine At.rtBlock ?_
        | refine At.yl (Yl.nilCheck rfl) rfl ?_
        | refine At.yl (Yl.addI rfl rfl (by omega) (by omega)) rfl ?_
        | refine At.yl (Yl.subI rfl rfl (by omega) (by omega)) rfl ?_
        | refine At.yl (Yl.mulI rfl rfl (by omega) (by omega)) rfl ?_
        | refine At.yl (Yl.quoI rfl rfl (by omega) (by omega) (by omega)) rfl ?_
        | refine At.yl (Yl.remI rfl rfl (by omega) (by omega)) rfl ?_
        | refine At.yl (Yl.lss rfl rfl) rfl ?_
        | refine At.yl (Yl.gtr rfl rfl) rfl ?_
        | refine At.yl (Yl.leq rfl rfl) rfl ?_
        | refine At.yl (Yl.geq rfl rfl) rfl ?_
        | refine At.yl (Yl.eql rfl rfl) rfl ?_
        | refine At.yl (Yl.neq rfl rfl) rfl ?_
        | refine At.yl (Yl.xorU rfl rfl) rfl ?_
        | refine At.yl (Yl.orU rfl rfl) rfl ?_
        | refine At.yl (Yl.andU rfl rfl) rfl ?_
        | refine At.yl (Yl.notU rfl) rfl ?_
        | refine At.yl (Yl.xorB rfl rfl) rfl ?_
        | refine At.yl (Yl.convBU Tryd.underlying5 Tryd.underlying48 rfl) rfl ?_
        | refine At.yl (Yl.convUB Tryd.underlying48 Tryd.underlying5 rfl) rfl ?_
        | refine At.yl (Yl.lenSl Tryd.underlying28 rfl) rfl ?_)
      by_cases h2 : t < (j + 7 * round) % 255
      · refine At.condDT rfl (by omega) ?_
        repeat (first
          | refine At.yl (Yl.move rfl) rfl ?_
          | refine At.yl (Yl.assign rfl) rfl ?_
          | refine At.nil ?_
          | refine At.nmThen ?_
          | refine At.region ?_
          | refine At.seq ?_
          | refine At.block ?_
          | refine At.nmBlock ?_
          | refine At.skip ?_
          | refine At.exit ?_
          | refine At.exThen ?_
          | refine At.exHere ?_
          | refine At.exOther rfl ?_
          | refine At.retC ?_
          | refine At.rtThen ?_
          | refine At.rtBlock ?_
          | refine At.yl (Yl.nilCheck rfl) rfl ?_
          | refine At.yl (Yl.addI rfl rfl (by omega) (by omega)) rfl ?_
          | refine At.yl (Yl.subI rfl rfl (by omega) (by omega)) rfl ?_
          | refine At.yl (Yl.mulI rfl rfl (by omega) (by omega)) rfl ?_
          | refine At.yl (Yl.quoI rfl rfl (by omega) (by omega) (by omega)) rfl ?_
          | refine At.yl (Yl.remI rfl rfl (by omega) (by omega)) rfl ?_
          | refine At.yl (Yl.lss rfl rfl) rfl ?_
          | refine At.yl (Yl.gtr rfl rfl) rfl ?_
          | refine At.yl (Yl.leq rfl rfl) rfl ?_
          | refine At.yl (Yl.geq rfl rfl) rfl ?_
          | refine At.yl (Yl.eql rfl rfl) rfl ?_
          | refine At.yl (Yl.neq rfl rfl) rfl ?_
          | refine At.yl (Yl.xorU rfl rfl) rfl ?_
          | refine At.yl (Yl.orU rfl rfl) rfl ?_
          | refine At.yl (Yl.andU rfl rfl) rfl ?_
          | refine At.yl (Yl.notU rfl) rfl ?_
          | refine At.yl (Yl.xorB rfl rfl) rfl ?_
          | refine At.yl (Yl.convBU Tryd.underlying5 Tryd.underlying48 rfl) rfl ?_
          | refine At.yl (Yl.convUB Tryd.underlying48 Tryd.underlying5 rfl) rfl ?_
          | refine At.yl (Yl.lenSl Tryd.underlying28 rfl) rfl ?_)
        refine At.yl (Yl.shl1I rfl rfl (by omega) (by omega)) rfl ?_
        repeat (first
          | refine At.yl (Yl.move rfl) rfl ?_
          | refine At.yl (Yl.assign rfl) rfl ?_
          | refine At.nil ?_
          | refine At.nmThen ?_
          | refine At.region ?_
          | refine At.seq ?_
          | refine At.block ?_
          | refine At.nmBlock ?_
          | refine At.skip ?_
          | refine At.exit ?_
          | refine At.exThen ?_
          | refine At.exHere ?_
          | refine At.exOther rfl ?_
          | refine At.retC ?_
          | refine At.rtThen ?_
          | refine At.rtBlock ?_
          | refine At.yl (Yl.nilCheck rfl) rfl ?_
          | refine At.yl (Yl.addI rfl rfl (by omega) (by omega)) rfl ?_
          | refine At.yl (Yl.subI rfl rfl (by omega) (by omega)) rfl ?_
          | refine At.yl (Yl.mulI rfl rfl (by omega) (by omega)) rfl ?_
          | refine At.yl (Yl.quoI rfl rfl (by omega) (by omega) (by omega)) rfl ?_
          | refine At.yl (Yl.remI rfl rfl (by omega) (by omega)) rfl ?_
          | refine At.yl (Yl.lss rfl rfl) rfl ?_
          | refine At.yl (Yl.gtr rfl rfl) rfl ?_
          | refine At.yl (Yl.leq rfl rfl) rfl ?_
          | refine At.yl (Yl.geq rfl rfl) rfl ?_
          | refine At.yl (Yl.eql rfl rfl) rfl ?_
          | refine At.yl (Yl.neq rfl rfl) rfl ?_
          | refine At.yl (Yl.xorU rfl rfl) rfl ?_
          | refine At.yl (Yl.orU rfl rfl) rfl ?_
          | refine At.yl (Yl.andU rfl rfl) rfl ?_
          | refine At.yl (Yl.notU rfl) rfl ?_
          | refine At.yl (Yl.xorB rfl rfl) rfl ?_
          | refine At.yl (Yl.convBU Tryd.underlying5 Tryd.underlying48 rfl) rfl ?_
          | refine At.yl (Yl.convUB Tryd.underlying48 Tryd.underlying5 rfl) rfl ?_
          | refine At.yl (Yl.lenSl Tryd.underlying28 rfl) rfl ?_)
        by_cases h3 : 256 ≤ lfsr t * 2
        · refine At.condDT rfl (by omega) ?_
          repeat (first
            | refine At.yl (Yl.move rfl) rfl ?_
            | refine At.yl (Yl.assign rfl) rfl ?_
            | refine At.nil ?_
            | refine At.nmThen ?_
            | refine At.region ?_
            | refine At.seq ?_
            | refine At.block ?_
            | refine At.nmBlock ?_
            | refine At.skip ?_
            | refine At.exit ?_
            | refine At.exThen ?_
            | refine At.exHere ?_
            | refine At.exOther rfl ?_
            | refine At.retC ?_
            | refine At.rtThen ?_
            | refine At.rtBlock ?_
            | refine At.yl (Yl.nilCheck rfl) rfl ?_
            | refine At.yl (Yl.addI rfl rfl (by omega) (by omega)) rfl ?_
            | refine At.yl (Yl.subI rfl rfl (by omega) (by omega)) rfl ?_
            | refine At.yl (Yl.mulI rfl rfl (by omega) (by omega)) rfl ?_
            | refine At.yl (Yl.quoI rfl rfl (by omega) (by omega) (by omega)) rfl ?_
            | refine At.yl (Yl.remI rfl rfl (by omega) (by omega)) rfl ?_
            | refine At.yl (Yl.lss rfl rfl) rfl ?_
            | refine At.yl (Yl.gtr rfl rfl) rfl ?_
            | refine At.yl (Yl.leq rfl rfl) rfl ?_
            | refine At.yl (Yl.geq rfl rfl) rfl ?_
            | refine At.yl (Yl.eql rfl rfl) rfl ?_
            | refine At.yl (Yl.neq rfl rfl) rfl ?_
            | refine At.yl (Yl.xorU rfl rfl) rfl ?_
            | refine At.yl (Yl.orU rfl rfl) rfl ?_
            | refine At.yl (Yl.andU rfl rfl) rfl ?_
            | refine At.yl (Yl.notU rfl) rfl ?_
            | refine At.yl (Yl.xorB rfl rfl) rfl ?_
            | refine At.yl (Yl.convBU Tryd.underlying5 Tryd.underlying48 rfl) rfl ?_
            | refine At.yl (Yl.convUB Tryd.underlying48 Tryd.underlying5 rfl) rfl ?_
            | refine At.yl (Yl.lenSl Tryd.underlying28 rfl) rfl ?_)
          refine At.yl (Yl.xorI (a := lfsr t * 2) (b := 369) rfl rfl (by omega) rfl (by omega) (by omega) (by have := xor369 (lfsr t * 2) (by omega) h3; omega)) rfl ?_
          repeat (first
            | refine At.yl (Yl.move rfl) rfl ?_
            | refine At.yl (Yl.assign rfl) rfl ?_
            | refine At.nil ?_
            | refine At.nmThen ?_
            | refine At.region ?_
            | refine At.seq ?_
            | refine At.block ?_
            | refine At.nmBlock ?_
            | refine At.skip ?_
            | refine At.exit ?_
            | refine At.exThen ?_
            | refine At.exHere ?_
            | refine At.exOther rfl ?_
            | refine At.retC ?_
            | refine At.rtThen ?_
            | refine At.rtBlock ?_
            | refine At.yl (Yl.nilCheck rfl) rfl ?_
            | refine At.yl (Yl.addI rfl rfl (by omega) (by omega)) rfl ?_
            | refine At.yl (Yl.subI rfl rfl (by omega) (by omega)) rfl ?_
            | refine At.yl (Yl.mulI rfl rfl (by omega) (by omega)) rfl ?_
            | refine At.yl (Yl.quoI rfl rfl (by omega) (by omega) (by omega)) rfl ?_
            | refine At.yl (Yl.remI rfl rfl (by omega) (by omega)) rfl ?_
            | refine At.yl (Yl.lss rfl rfl) rfl ?_
            | refine At.yl (Yl.gtr rfl rfl) rfl ?_
            | refine At.yl (Yl.leq rfl rfl) rfl ?_
            | refine At.yl (Yl.geq rfl rfl) rfl ?_
            | refine At.yl (Yl.eql rfl rfl) rfl ?_
            | refine At.yl (Yl.neq rfl rfl) rfl ?_
            | refine At.yl (Yl.xorU rfl rfl) rfl ?_
            | refine At.yl (Yl.orU rfl rfl) rfl ?_
            | refine At.yl (Yl.andU rfl rfl) rfl ?_
            | refine At.yl (Yl.notU rfl) rfl ?_
            | refine At.yl (Yl.xorB rfl rfl) rfl ?_
            | refine At.yl (Yl.convBU Tryd.underlying5 Tryd.underlying48 rfl) rfl ?_
            | refine At.yl (Yl.convUB Tryd.underlying48 Tryd.underlying5 rfl) rfl ?_
            | refine At.yl (Yl.lenSl Tryd.underlying28 rfl) rfl ?_)
          refine At.round (t + 1) (by omega) (by omega) (.cons rfl (.cons rfl (.cons rfl (.cons ?_ (.cons rfl .nil))))) rfl
          simp only [lfsr, if_pos h3]; rfl
        · refine At.condDF rfl (by omega) ?_
          repeat (first
            | refine At.yl (Yl.move rfl) rfl ?_
            | refine At.yl (Yl.assign rfl) rfl ?_
            | refine At.nil ?_
            | refine At.nmThen ?_
            | refine At.region ?_
            | refine At.seq ?_
            | refine At.block ?_
            | refine At.nmBlock ?_
            | refine At.skip ?_
            | refine At.exit ?_
            | refine At.exThen ?_
            | refine At.exHere ?_
            | refine At.exOther rfl ?_
            | refine At.retC ?_
            | refine At.rtThen ?_
            | refine At.rtBlock ?_
            | refine At.yl (Yl.nilCheck rfl) rfl ?_
            | refine At.yl (Yl.addI rfl rfl (by omega) (by omega)) rfl ?_
            | refine At.yl (Yl.subI rfl rfl (by omega) (by omega)) rfl ?_
            | refine At.yl (Yl.mulI rfl rfl (by omega) (by omega)) rfl ?_
            | refine At.yl (Yl.quoI rfl rfl (by omega) (by omega) (by omega)) rfl ?_
            | refine At.yl (Yl.remI rfl rfl (by omega) (by omega)) rfl ?_
            | refine At.yl (Yl.lss rfl rfl) rfl ?_
            | refine At.yl (Yl.gtr rfl rfl) rfl ?_
            | refine At.yl (Yl.leq rfl rfl) rfl ?_
            | refine At.yl (Yl.geq rfl rfl) rfl ?_
            | refine At.yl (Yl.eql rfl rfl) rfl ?_
            | refine At.yl (Yl.neq rfl rfl) rfl ?_
            | refine At.yl (Yl.xorU rfl rfl) rfl ?_
            | refine At.yl (Yl.orU rfl rfl) rfl ?_
            | refine At.yl (Yl.andU rfl rfl) rfl ?_
            | refine At.yl (Yl.notU rfl) rfl ?_
            | refine At.yl (Yl.xorB rfl rfl) rfl ?_
            | refine At.yl (Yl.convBU Tryd.underlying5 Tryd.underlying48 rfl) rfl ?_
            | refine At.yl (Yl.convUB Tryd.underlying48 Tryd.underlying5 rfl) rfl ?_
            | refine At.yl (Yl.lenSl Tryd.underlying28 rfl) rfl ?_)
          refine At.round (t + 1) (by omega) (by omega) (.cons rfl (.cons rfl (.cons rfl (.cons ?_ (.cons rfl .nil))))) rfl
          simp only [lfsr, if_neg h3]; rfl
      · refine At.condDF rfl (by omega) ?_
        repeat (first
          | refine At.yl (Yl.move rfl) rfl ?_
          | refine At.yl (Yl.assign rfl) rfl ?_
          | refine At.nil ?_
          | refine At.nmThen ?_
          | refine At.region ?_
          | refine At.seq ?_
          | refine At.block ?_
          | refine At.nmBlock ?_
          | refine At.skip ?_
          | refine At.exit ?_
          | refine At.exThen ?_
          | refine At.exHere ?_
          | refine At.exOther rfl ?_
          | refine At.retC ?_
          | refine At.rtThen ?_
          | refine At.rtBlock ?_
          | refine At.yl (Yl.nilCheck rfl) rfl ?_
          | refine At.yl (Yl.addI rfl rfl (by omega) (by omega)) rfl ?_
          | refine At.yl (Yl.subI rfl rfl (by omega) (by omega)) rfl ?_
          | refine At.yl (Yl.mulI rfl rfl (by omega) (by omega)) rfl ?_
          | refine At.yl (Yl.quoI rfl rfl (by omega) (by omega) (by omega)) rfl ?_
          | refine At.yl (Yl.remI rfl rfl (by omega) (by omega)) rfl ?_
          | refine At.yl (Yl.lss rfl rfl) rfl ?_
          | refine At.yl (Yl.gtr rfl rfl) rfl ?_
          | refine At.yl (Yl.leq rfl rfl) rfl ?_
          | refine At.yl (Yl.geq rfl rfl) rfl ?_
          | refine At.yl (Yl.eql rfl rfl) rfl ?_
          | refine At.yl (Yl.neq rfl rfl) rfl ?_
          | refine At.yl (Yl.xorU rfl rfl) rfl ?_
          | refine At.yl (Yl.orU rfl rfl) rfl ?_
          | refine At.yl (Yl.andU rfl rfl) rfl ?_
          | refine At.yl (Yl.notU rfl) rfl ?_
          | refine At.yl (Yl.xorB rfl rfl) rfl ?_
          | refine At.yl (Yl.convBU Tryd.underlying5 Tryd.underlying48 rfl) rfl ?_
          | refine At.yl (Yl.convUB Tryd.underlying48 Tryd.underlying5 rfl) rfl ?_
          | refine At.yl (Yl.lenSl Tryd.underlying28 rfl) rfl ?_)
        have ht' : t = (j + 7 * round) % 255 := by omega
        refine At.yl (Yl.andI (a := lfsr t) (b := 1) rfl rfl rfl rfl (by omega) (by omega)) rfl ?_
        repeat (first
          | refine At.yl (Yl.move rfl) rfl ?_
          | refine At.yl (Yl.assign rfl) rfl ?_
          | refine At.nil ?_
          | refine At.nmThen ?_
          | refine At.region ?_
          | refine At.seq ?_
          | refine At.block ?_
          | refine At.nmBlock ?_
          | refine At.skip ?_
          | refine At.exit ?_
          | refine At.exThen ?_
          | refine At.exHere ?_
          | refine At.exOther rfl ?_
          | refine At.retC ?_
          | refine At.rtThen ?_
          | refine At.rtBlock ?_
          | refine At.yl (Yl.nilCheck rfl) rfl ?_
          | refine At.yl (Yl.addI rfl rfl (by omega) (by omega)) rfl ?_
          | refine At.yl (Yl.subI rfl rfl (by omega) (by omega)) rfl ?_
          | refine At.yl (Yl.mulI rfl rfl (by omega) (by omega)) rfl ?_
          | refine At.yl (Yl.quoI rfl rfl (by omega) (by omega) (by omega)) rfl ?_
          | refine At.yl (Yl.remI rfl rfl (by omega) (by omega)) rfl ?_
          | refine At.yl (Yl.lss rfl rfl) rfl ?_
          | refine At.yl (Yl.gtr rfl rfl) rfl ?_
          | refine At.yl (Yl.leq rfl rfl) rfl ?_
          | refine At.yl (Yl.geq rfl rfl) rfl ?_
          | refine At.yl (Yl.eql rfl rfl) rfl ?_
          | refine At.yl (Yl.neq rfl rfl) rfl ?_
          | refine At.yl (Yl.xorU rfl rfl) rfl ?_
          | refine At.yl (Yl.orU rfl rfl) rfl ?_
          | refine At.yl (Yl.andU rfl rfl) rfl ?_
          | refine At.yl (Yl.notU rfl) rfl ?_
          | refine At.yl (Yl.xorB rfl rfl) rfl ?_
          | refine At.yl (Yl.convBU Tryd.underlying5 Tryd.underlying48 rfl) rfl ?_
          | refine At.yl (Yl.convUB Tryd.underlying48 Tryd.underlying5 rfl) rfl ?_
          | refine At.yl (Yl.lenSl Tryd.underlying28 rfl) rfl ?_)
        subst ht'
        by_cases h4 : lfsr ((j + 7 * round) % 255) &&& 1 = 1
        · refine At.condDT rfl (by omega) ?_
          repeat (first
            | refine At.yl (Yl.move rfl) rfl ?_
            | refine At.yl (Yl.assign rfl) rfl ?_
            | refine At.nil ?_
            | refine At.nmThen ?_
            | refine At.region ?_
            | refine At.seq ?_
            | refine At.block ?_
            | refine At.nmBlock ?_
            | refine At.skip ?_
            | refine At.exit ?_
            | refine At.exThen ?_
            | refine At.exHere ?_
            | refine At.exOther rfl ?_
            | refine At.retC ?_
            | refine At.rtThen ?_
            | refine At.rtBlock ?_
            | refine At.yl (Yl.nilCheck rfl) rfl ?_
            | refine At.yl (Yl.addI rfl rfl (by omega) (by omega)) rfl ?_
            | refine At.yl (Yl.subI rfl rfl (by omega) (by omega)) rfl ?_
            | refine At.yl (Yl.mulI rfl rfl (by omega) (by omega)) rfl ?_
            | refine At.yl (Yl.quoI rfl rfl (by omega) (by omega) (by omega)) rfl ?_
            | refine At.yl (Yl.remI rfl rfl (by omega) (by omega)) rfl ?_
            | refine At.yl (Yl.lss rfl rfl) rfl ?_
            | refine At.yl (Yl.gtr rfl rfl) rfl ?_
            | refine At.yl (Yl.leq rfl rfl) rfl ?_
            | refine At.yl (Yl.geq rfl rfl) rfl ?_
            | refine At.yl (Yl.eql rfl rfl) rfl ?_
            | refine At.yl (Yl.neq rfl rfl) rfl ?_
            | refine At.yl (Yl.xorU rfl rfl) rfl ?_
            | refine At.yl (Yl.orU rfl rfl) rfl ?_
            | refine At.yl (Yl.andU rfl rfl) rfl ?_
            | refine At.yl (Yl.notU rfl) rfl ?_
            | refine At.yl (Yl.xorB rfl rfl) rfl ?_
            | refine At.yl (Yl.convBU Tryd.underlying5 Tryd.underlying48 rfl) rfl ?_
            | refine At.yl (Yl.convUB Tryd.underlying48 Tryd.underlying5 rfl) rfl ?_
            | refine At.yl (Yl.lenSl Tryd.underlying28 rfl) rfl ?_)
          refine At.yl (Yl.shlU (a := 1#64) rfl rfl rfl) rfl ?_
          refine At.yl (Yl.subU (b := 1#64) rfl rfl) rfl ?_
          refine At.yl (Yl.shlU (a := 1#64) rfl rfl rfl) rfl ?_
          repeat (first
            | refine At.yl (Yl.move rfl) rfl ?_
            | refine At.yl (Yl.assign rfl) rfl ?_
            | refine At.nil ?_
            | refine At.nmThen ?_
            | refine At.region ?_
            | refine At.seq ?_
            | refine At.block ?_
            | refine At.nmBlock ?_
            | refine At.skip ?_
            | refine At.exit ?_
            | refine At.exThen ?_
            | refine At.exHere ?_
            | refine At.exOther rfl ?_
            | refine At.retC ?_
            | refine At.rtThen ?_
            | refine At.rtBlock ?_
            | refine At.yl (Yl.nilCheck rfl) rfl ?_
            | refine At.yl (Yl.addI rfl rfl (by omega) (by omega)) rfl ?_
            | refine At.yl (Yl.subI rfl rfl (by omega) (by omega)) rfl ?_
            | refine At.yl (Yl.mulI rfl rfl (by omega) (by omega)) rfl ?_
            | refine At.yl (Yl.quoI rfl rfl (by omega) (by omega) (by omega)) rfl ?_
            | refine At.yl (Yl.remI rfl rfl (by omega) (by omega)) rfl ?_
            | refine At.yl (Yl.lss rfl rfl) rfl ?_
            | refine At.yl (Yl.gtr rfl rfl) rfl ?_
            | refine At.yl (Yl.leq rfl rfl) rfl ?_
            | refine At.yl (Yl.geq rfl rfl) rfl ?_
            | refine At.yl (Yl.eql rfl rfl) rfl ?_
            | refine At.yl (Yl.neq rfl rfl) rfl ?_
            | refine At.yl (Yl.xorU rfl rfl) rfl ?_
            | refine At.yl (Yl.orU rfl rfl) rfl ?_
            | refine At.yl (Yl.andU rfl rfl) rfl ?_
            | refine At.yl (Yl.notU rfl) rfl ?_
            | refine At.yl (Yl.xorB rfl rfl) rfl ?_
            | refine At.yl (Yl.convBU Tryd.underlying5 Tryd.underlying48 rfl) rfl ?_
            | refine At.yl (Yl.convUB Tryd.underlying48 Tryd.underlying5 rfl) rfl ?_
            | refine At.yl (Yl.lenSl Tryd.underlying28 rfl) rfl ?_)
          refine At.round (j + 1) (by omega) (by omega) (.cons rfl (.cons ?_ (.cons rfl .nil))) rfl
          simp only [cst, if_pos h4]; rfl
        · refine At.condDF rfl (by omega) ?_
          repeat (first
            | refine At.yl (Yl.move rfl) rfl ?_
            | refine At.yl (Yl.assign rfl) rfl ?_
            | refine At.nil ?_
            | refine At.nmThen ?_
            | refine At.region ?_
            | refine At.seq ?_
            | refine At.block ?_
            | refine At.nmBlock ?_
            | refine At.skip ?_
            | refine At.exit ?_
            | refine At.exThen ?_
            | refine At.exHere ?_
            | refine At.exOther rfl ?_
            | refine At.retC ?_
            | refine At.rtThen ?_
            | refine At.rtBlock ?_
            | refine At.yl (Yl.nilCheck rfl) rfl ?_
            | refine At.yl (Yl.addI rfl rfl (by omega) (by omega)) rfl ?_
            | refine At.yl (Yl.subI rfl rfl (by omega) (by omega)) rfl ?_
            | refine At.yl (Yl.mulI rfl rfl (by omega) (by omega)) rfl ?_
            | refine At.yl (Yl.quoI rfl rfl (by omega) (by omega) (by omega)) rfl ?_
            | refine At.yl (Yl.remI rfl rfl (by omega) (by omega)) rfl ?_
            | refine At.yl (Yl.lss rfl rfl) rfl ?_
            | refine At.yl (Yl.gtr rfl rfl) rfl ?_
            | refine At.yl (Yl.leq rfl rfl) rfl ?_
            | refine At.yl (Yl.geq rfl rfl) rfl ?_
            | refine At.yl (Yl.eql rfl rfl) rfl ?_
            | refine At.yl (Yl.neq rfl rfl) rfl ?_
            | refine At.yl (Yl.xorU rfl rfl) rfl ?_
            | refine At.yl (Yl.orU rfl rfl) rfl ?_
            | refine At.yl (Yl.andU rfl rfl) rfl ?_
            | refine At.yl (Yl.notU rfl) rfl ?_
            | refine At.yl (Yl.xorB rfl rfl) rfl ?_
            | refine At.yl (Yl.convBU Tryd.underlying5 Tryd.underlying48 rfl) rfl ?_
            | refine At.yl (Yl.convUB Tryd.underlying48 Tryd.underlying5 rfl) rfl ?_
            | refine At.yl (Yl.lenSl Tryd.underlying28 rfl) rfl ?_)
          refine At.round (j + 1) (by omega) (by omega) (.cons rfl (.cons ?_ (.cons rfl .nil))) rfl
          simp only [cst, if_neg h4]; rfl
  · refine At.condDF rfl (by omega) ?_
    have : j = 7 := by omega
    subst this
    repeat (first
      | refine At.yl (Yl.move rfl) rfl ?_
      | refine At.yl (Yl.assign rfl) rfl ?_
      | refine At.nil ?_
      | refine At.nmThen ?_
      | refine At.region ?_
      | refine At.seq ?_
      | refine At.block ?_
      | refine At.nmBlock ?_
      | refine At.skip ?_
      | refine At.exit ?_
      | refine At.exThen ?_
      | refine At.exHere ?_
      | refine At.exOther rfl ?_
      | refine At.retC ?_
      | refine At.rtThen ?_
      | refine At.rtBlock ?_
      | refine At.yl (Yl.nilCheck rfl) rfl ?_
      | refine At.yl (Yl.addI rfl rfl (by omega) (by omega)) rfl ?_
      | refine At.yl (Yl.subI rfl rfl (by omega) (by omega)) rfl ?_
      | refine At.yl (Yl.mulI rfl rfl (by omega) (by omega)) rfl ?_
      | refine At.yl (Yl.quoI rfl rfl (by omega) (by omega) (by omega)) rfl ?_
      | refine At.yl (Yl.remI rfl rfl (by omega) (by omega)) rfl ?_
      | refine At.yl (Yl.lss rfl rfl) rfl ?_
      | refine At.yl (Yl.gtr rfl rfl) rfl ?_
      | refine At.yl (Yl.leq rfl rfl) rfl ?_
      | refine At.yl (Yl.geq rfl rfl) rfl ?_
      | refine At.yl (Yl.eql rfl rfl) rfl ?_
      | refine At.yl (Yl.neq rfl rfl) rfl ?_
      | refine At.yl (Yl.xorU rfl rfl) rfl ?_
      | refine At.yl (Yl.orU rfl rfl) rfl ?_
      | refine At.yl (Yl.andU rfl rfl) rfl ?_
      | refine At.yl (Yl.notU rfl) rfl ?_
      | refine At.yl (Yl.xorB rfl rfl) rfl ?_
      | refine At.yl (Yl.convBU Tryd.underlying5 Tryd.underlying48 rfl) rfl ?_
      | refine At.yl (Yl.convUB Tryd.underlying48 Tryd.underlying5 rfl) rfl ?_
      | refine At.yl (Yl.lenSl Tryd.underlying28 rfl) rfl ?_)
    exact At.ret1 Tryd.results41 rfl ⟨rfl, rfl⟩
end Go.Proofs.YtbnepbdlhpkiiaaDoor

