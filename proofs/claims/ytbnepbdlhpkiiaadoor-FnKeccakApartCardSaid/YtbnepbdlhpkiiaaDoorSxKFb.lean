/- KeccakF1600's loop body walked, a theorem a round: what each round leaves in the lanes. Written by a program (gen_kf.py). -/
import Derived.Test.YtbnepbdlhpkiiaaDoorSxK
import Derived.Test.YtbnepbdlhpkiiaaDoorSxKFa
namespace Go.Proofs.YtbnepbdlhpkiiaaDoor
open Go.Sx
section
variable {w0 : World} {H : Array Obj} {Q : Exit → Act → World → Prop} {b off : Nat} {pre post : List Value} {T : TypeId} {rcs : Nat → BitVec 64} {T' : TypeId} {fz : Nat × Nat}

set_option maxRecDepth 10000 in
set_option maxHeartbeats 4000000 in
theorem kf_round2 (hb : b < H.size) (hoff : off = pre.length) (hg : H[1]? = some (.cells (arrU 24 rcs) T' fz)) (hne : b ≠ 1) (hQ : QP Q) (i : Nat) (hi : i + 2 < 24) (s : Nat → BitVec 64)
    (k : ∀ s' : Nat → BitVec 64, (∀ j, j < 25 → s' (([0, 11, 22, 8, 19, 15, 1, 12, 23, 9, 5, 16, 2, 13, 24, 20, 6, 17, 3, 14, 10, 21, 7, 18, 4] : List Nat).getD j 0) = rndC (rcs (i + 2)) (colP s) (fun j => s (([0, 16, 7, 23, 14, 20, 11, 2, 18, 9, 15, 6, 22, 13, 4, 10, 1, 17, 8, 24, 5, 21, 12, 3, 19] : List Nat).getD j 0)) j) → At w0 2540 [(0, ptr b off), (15, I i)] (HH H b pre post T s') (Code.wp Tryd.prog (seqTail 252 kfBody) Q)) :
    At w0 2540 [(0, ptr b off), (15, I i)] (HH H b pre post T s) (Code.wp Tryd.prog (seqTail 168 kfBody) Q) := by
  refine At.seq ?_
  refine (At.draws 24 (ordFrom 0 24) rfl (by decide +kernel) (QP.thn hQ) ?_)
  refine At.ordY (Sub.refl _) rfl (Yl.move rfl) rfl ?_
  refine At.ordY (Sub.refl _) rfl (Yl.nilCheck rfl) rfl ?_
  refine At.ordY (Sub.refl _) rfl (Yl.indexArr Tryd.underlying52 info48 bq48 rfl rfl rfl (by decide)) rfl ?_
  refine At.ordY (Sub.refl _) rfl (Yl.lane (v := s 0) Tryd.underlying48 rfl hb rfl hoff rfl rfl) rfl ?_
  refine At.ordY (Sub.refl _) rfl (Yl.move rfl) rfl ?_
  refine At.ordY (Sub.refl _) rfl (Yl.nilCheck rfl) rfl ?_
  refine At.ordY (Sub.refl _) rfl (Yl.indexArr Tryd.underlying52 info48 bq48 rfl rfl rfl (by decide)) rfl ?_
  refine At.ordY (Sub.refl _) rfl (Yl.lane (v := s 5) Tryd.underlying48 rfl hb rfl hoff rfl rfl) rfl ?_
  refine At.ordY (Sub.refl _) rfl (Yl.xorU rfl rfl) rfl ?_
  refine At.ordY (Sub.refl _) rfl (Yl.move rfl) rfl ?_
  refine At.ordY (Sub.refl _) rfl (Yl.nilCheck rfl) rfl ?_
  refine At.ordY (Sub.refl _) rfl (Yl.indexArr Tryd.underlying52 info48 bq48 rfl rfl rfl (by decide)) rfl ?_
  refine At.ordY (Sub.refl _) rfl (Yl.lane (v := s 10) Tryd.underlying48 rfl hb rfl hoff rfl rfl) rfl ?_
  refine At.ordY (Sub.refl _) rfl (Yl.xorU rfl rfl) rfl ?_
  refine At.ordY (Sub.refl _) rfl (Yl.move rfl) rfl ?_
  refine At.ordY (Sub.refl _) rfl (Yl.nilCheck rfl) rfl ?_
  refine At.ordY (Sub.refl _) rfl (Yl.indexArr Tryd.underlying52 info48 bq48 rfl rfl rfl (by decide)) rfl ?_
  refine At.ordY (Sub.refl _) rfl (Yl.lane (v := s 15) Tryd.underlying48 rfl hb rfl hoff rfl rfl) rfl ?_
  refine At.ordY (Sub.refl _) rfl (Yl.xorU rfl rfl) rfl ?_
  refine At.ordY (Sub.refl _) rfl (Yl.move rfl) rfl ?_
  refine At.ordY (Sub.refl _) rfl (Yl.nilCheck rfl) rfl ?_
  refine At.ordY (Sub.refl _) rfl (Yl.indexArr Tryd.underlying52 info48 bq48 rfl rfl rfl (by decide)) rfl ?_
  refine At.ordY (Sub.refl _) rfl (Yl.lane (v := s 20) Tryd.underlying48 rfl hb rfl hoff rfl rfl) rfl ?_
  refine At.ordY (Sub.refl _) rfl (Yl.xorU rfl rfl) rfl ?_
  refine At.ordNil (Sub.refl _) ?_
  refine At.yl (Yl.assign rfl) rfl ?_
  refine At.nil (At.nmThen ?_)
  refine At.weaken (L' := [(0, _), (15, _), (5, _)]) (.cons rfl (.cons rfl (.cons rfl (.nil)))) ?_
  refine At.seq ?_
  refine (At.draws 24 (ordFrom 0 24) rfl (by decide +kernel) (QP.thn hQ) ?_)
  refine At.ordY (Sub.refl _) rfl (Yl.move rfl) rfl ?_
  refine At.ordY (Sub.refl _) rfl (Yl.nilCheck rfl) rfl ?_
  refine At.ordY (Sub.refl _) rfl (Yl.indexArr Tryd.underlying52 info48 bq48 rfl rfl rfl (by decide)) rfl ?_
  refine At.ordY (Sub.refl _) rfl (Yl.lane (v := s 1) Tryd.underlying48 rfl hb rfl hoff rfl rfl) rfl ?_
  refine At.ordY (Sub.refl _) rfl (Yl.move rfl) rfl ?_
  refine At.ordY (Sub.refl _) rfl (Yl.nilCheck rfl) rfl ?_
  refine At.ordY (Sub.refl _) rfl (Yl.indexArr Tryd.underlying52 info48 bq48 rfl rfl rfl (by decide)) rfl ?_
  refine At.ordY (Sub.refl _) rfl (Yl.lane (v := s 6) Tryd.underlying48 rfl hb rfl hoff rfl rfl) rfl ?_
  refine At.ordY (Sub.refl _) rfl (Yl.xorU rfl rfl) rfl ?_
  refine At.ordY (Sub.refl _) rfl (Yl.move rfl) rfl ?_
  refine At.ordY (Sub.refl _) rfl (Yl.nilCheck rfl) rfl ?_
  refine At.ordY (Sub.refl _) rfl (Yl.indexArr Tryd.underlying52 info48 bq48 rfl rfl rfl (by decide)) rfl ?_
  refine At.ordY (Sub.refl _) rfl (Yl.lane (v := s 11) Tryd.underlying48 rfl hb rfl hoff rfl rfl) rfl ?_
  refine At.ordY (Sub.refl _) rfl (Yl.xorU rfl rfl) rfl ?_
  refine At.ordY (Sub.refl _) rfl (Yl.move rfl) rfl ?_
  refine At.ordY (Sub.refl _) rfl (Yl.nilCheck rfl) rfl ?_
  refine At.ordY (Sub.refl _) rfl (Yl.indexArr Tryd.underlying52 info48 bq48 rfl rfl rfl (by decide)) rfl ?_
  refine At.ordY (Sub.refl _) rfl (Yl.lane (v := s 16) Tryd.underlying48 rfl hb rfl hoff rfl rfl) rfl ?_
  refine At.ordY (Sub.refl _) rfl (Yl.xorU rfl rfl) rfl ?_
  refine At.ordY (Sub.refl _) rfl (Yl.move rfl) rfl ?_
  refine At.ordY (Sub.refl _) rfl (Yl.nilCheck rfl) rfl ?_
  refine At.ordY (Sub.refl _) rfl (Yl.indexArr Tryd.underlying52 info48 bq48 rfl rfl rfl (by decide)) rfl ?_
  refine At.ordY (Sub.refl _) rfl (Yl.lane (v := s 21) Tryd.underlying48 rfl hb rfl hoff rfl rfl) rfl ?_
  refine At.ordY (Sub.refl _) rfl (Yl.xorU rfl rfl) rfl ?_
  refine At.ordNil (Sub.refl _) ?_
  refine At.yl (Yl.assign rfl) rfl ?_
  refine At.nil (At.nmThen ?_)
  refine At.weaken (L' := [(0, _), (15, _), (5, _), (6, _)]) (.cons rfl (.cons rfl (.cons rfl (.cons rfl (.nil))))) ?_
  refine At.seq ?_
  refine (At.draws 24 (ordFrom 0 24) rfl (by decide +kernel) (QP.thn hQ) ?_)
  refine At.ordY (Sub.refl _) rfl (Yl.move rfl) rfl ?_
  refine At.ordY (Sub.refl _) rfl (Yl.nilCheck rfl) rfl ?_
  refine At.ordY (Sub.refl _) rfl (Yl.indexArr Tryd.underlying52 info48 bq48 rfl rfl rfl (by decide)) rfl ?_
  refine At.ordY (Sub.refl _) rfl (Yl.lane (v := s 2) Tryd.underlying48 rfl hb rfl hoff rfl rfl) rfl ?_
  refine At.ordY (Sub.refl _) rfl (Yl.move rfl) rfl ?_
  refine At.ordY (Sub.refl _) rfl (Yl.nilCheck rfl) rfl ?_
  refine At.ordY (Sub.refl _) rfl (Yl.indexArr Tryd.underlying52 info48 bq48 rfl rfl rfl (by decide)) rfl ?_
  refine At.ordY (Sub.refl _) rfl (Yl.lane (v := s 7) Tryd.underlying48 rfl hb rfl hoff rfl rfl) rfl ?_
  refine At.ordY (Sub.refl _) rfl (Yl.xorU rfl rfl) rfl ?_
  refine At.ordY (Sub.refl _) rfl (Yl.move rfl) rfl ?_
  refine At.ordY (Sub.refl _) rfl (Yl.nilCheck rfl) rfl ?_
  refine At.ordY (Sub.refl _) rfl (Yl.indexArr Tryd.underlying52 info48 bq48 rfl rfl rfl (by decide)) rfl ?_
  refine At.ordY (Sub.refl _) rfl (Yl.lane (v := s 12) Tryd.underlying48 rfl hb rfl hoff rfl rfl) rfl ?_
  refine At.ordY (Sub.refl _) rfl (Yl.xorU rfl rfl) rfl ?_
  refine At.ordY (Sub.refl _) rfl (Yl.move rfl) rfl ?_
  refine At.ordY (Sub.refl _) rfl (Yl.nilCheck rfl) rfl ?_
  refine At.ordY (Sub.refl _) rfl (Yl.indexArr Tryd.underlying52 info48 bq48 rfl rfl rfl (by decide)) rfl ?_
  refine At.ordY (Sub.refl _) rfl (Yl.lane (v := s 17) Tryd.underlying48 rfl hb rfl hoff rfl rfl) rfl ?_
  refine At.ordY (Sub.refl _) rfl (Yl.xorU rfl rfl) rfl ?_
  refine At.ordY (Sub.refl _) rfl (Yl.move rfl) rfl ?_
  refine At.ordY (Sub.refl _) rfl (Yl.nilCheck rfl) rfl ?_
  refine At.ordY (Sub.refl _) rfl (Yl.indexArr Tryd.underlying52 info48 bq48 rfl rfl rfl (by decide)) rfl ?_
  refine At.ordY (Sub.refl _) rfl (Yl.lane (v := s 22) Tryd.underlying48 rfl hb rfl hoff rfl rfl) rfl ?_
  refine At.ordY (Sub.refl _) rfl (Yl.xorU rfl rfl) rfl ?_
  refine At.ordNil (Sub.refl _) ?_
  refine At.yl (Yl.assign rfl) rfl ?_
  refine At.nil (At.nmThen ?_)
  refine At.weaken (L' := [(0, _), (15, _), (5, _), (6, _), (7, _)]) (.cons rfl (.cons rfl (.cons rfl (.cons rfl (.cons rfl (.nil)))))) ?_
  refine At.seq ?_
  refine (At.draws 24 (ordFrom 0 24) rfl (by decide +kernel) (QP.thn hQ) ?_)
  refine At.ordY (Sub.refl _) rfl (Yl.move rfl) rfl ?_
  refine At.ordY (Sub.refl _) rfl (Yl.nilCheck rfl) rfl ?_
  refine At.ordY (Sub.refl _) rfl (Yl.indexArr Tryd.underlying52 info48 bq48 rfl rfl rfl (by decide)) rfl ?_
  refine At.ordY (Sub.refl _) rfl (Yl.lane (v := s 3) Tryd.underlying48 rfl hb rfl hoff rfl rfl) rfl ?_
  refine At.ordY (Sub.refl _) rfl (Yl.move rfl) rfl ?_
  refine At.ordY (Sub.refl _) rfl (Yl.nilCheck rfl) rfl ?_
  refine At.ordY (Sub.refl _) rfl (Yl.indexArr Tryd.underlying52 info48 bq48 rfl rfl rfl (by decide)) rfl ?_
  refine At.ordY (Sub.refl _) rfl (Yl.lane (v := s 8) Tryd.underlying48 rfl hb rfl hoff rfl rfl) rfl ?_
  refine At.ordY (Sub.refl _) rfl (Yl.xorU rfl rfl) rfl ?_
  refine At.ordY (Sub.refl _) rfl (Yl.move rfl) rfl ?_
  refine At.ordY (Sub.refl _) rfl (Yl.nilCheck rfl) rfl ?_
  refine At.ordY (Sub.refl _) rfl (Yl.indexArr Tryd.underlying52 info48 bq48 rfl rfl rfl (by decide)) rfl ?_
  refine At.ordY (Sub.refl _) rfl (Yl.lane (v := s 13) Tryd.underlying48 rfl hb rfl hoff rfl rfl) rfl ?_
  refine At.ordY (Sub.refl _) rfl (Yl.xorU rfl rfl) rfl ?_
  refine At.ordY (Sub.refl _) rfl (Yl.move rfl) rfl ?_
  refine At.ordY (Sub.refl _) rfl (Yl.nilCheck rfl) rfl ?_
  refine At.ordY (Sub.refl _) rfl (Yl.indexArr Tryd.underlying52 info48 bq48 rfl rfl rfl (by decide)) rfl ?_
  refine At.ordY (Sub.refl _) rfl (Yl.lane (v := s 18) Tryd.underlying48 rfl hb rfl hoff rfl rfl) rfl ?_
  refine At.ordY (Sub.refl _) rfl (Yl.xorU rfl rfl) rfl ?_
  refine At.ordY (Sub.refl _) rfl (Yl.move rfl) rfl ?_
  refine At.ordY (Sub.refl _) rfl (Yl.nilCheck rfl) rfl ?_
  refine At.ordY (Sub.refl _) rfl (Yl.indexArr Tryd.underlying52 info48 bq48 rfl rfl rfl (by decide)) rfl ?_
  refine At.ordY (Sub.refl _) rfl (Yl.lane (v := s 23) Tryd.underlying48 rfl hb rfl hoff rfl rfl) rfl ?_
  refine At.ordY (Sub.refl _) rfl (Yl.xorU rfl rfl) rfl ?_
  refine At.ordNil (Sub.refl _) ?_
  refine At.yl (Yl.assign rfl) rfl ?_
  refine At.nil (At.nmThen ?_)
  refine At.weaken (L' := [(0, _), (15, _), (5, _), (6, _), (7, _), (8, _)]) (.cons rfl (.cons rfl (.cons rfl (.cons rfl (.cons rfl (.cons rfl (.nil))))))) ?_
  refine At.seq ?_
  refine (At.draws 24 (ordFrom 0 24) rfl (by decide +kernel) (QP.thn hQ) ?_)
  refine At.ordY (Sub.refl _) rfl (Yl.move rfl) rfl ?_
  refine At.ordY (Sub.refl _) rfl (Yl.nilCheck rfl) rfl ?_
  refine At.ordY (Sub.refl _) rfl (Yl.indexArr Tryd.underlying52 info48 bq48 rfl rfl rfl (by decide)) rfl ?_
  refine At.ordY (Sub.refl _) rfl (Yl.lane (v := s 4) Tryd.underlying48 rfl hb rfl hoff rfl rfl) rfl ?_
  refine At.ordY (Sub.refl _) rfl (Yl.move rfl) rfl ?_
  refine At.ordY (Sub.refl _) rfl (Yl.nilCheck rfl) rfl ?_
  refine At.ordY (Sub.refl _) rfl (Yl.indexArr Tryd.underlying52 info48 bq48 rfl rfl rfl (by decide)) rfl ?_
  refine At.ordY (Sub.refl _) rfl (Yl.lane (v := s 9) Tryd.underlying48 rfl hb rfl hoff rfl rfl) rfl ?_
  refine At.ordY (Sub.refl _) rfl (Yl.xorU rfl rfl) rfl ?_
  refine At.ordY (Sub.refl _) rfl (Yl.move rfl) rfl ?_
  refine At.ordY (Sub.refl _) rfl (Yl.nilCheck rfl) rfl ?_
  refine At.ordY (Sub.refl _) rfl (Yl.indexArr Tryd.underlying52 info48 bq48 rfl rfl rfl (by decide)) rfl ?_
  refine At.ordY (Sub.refl _) rfl (Yl.lane (v := s 14) Tryd.underlying48 rfl hb rfl hoff rfl rfl) rfl ?_
  refine At.ordY (Sub.refl _) rfl (Yl.xorU rfl rfl) rfl ?_
  refine At.ordY (Sub.refl _) rfl (Yl.move rfl) rfl ?_
  refine At.ordY (Sub.refl _) rfl (Yl.nilCheck rfl) rfl ?_
  refine At.ordY (Sub.refl _) rfl (Yl.indexArr Tryd.underlying52 info48 bq48 rfl rfl rfl (by decide)) rfl ?_
  refine At.ordY (Sub.refl _) rfl (Yl.lane (v := s 19) Tryd.underlying48 rfl hb rfl hoff rfl rfl) rfl ?_
  refine At.ordY (Sub.refl _) rfl (Yl.xorU rfl rfl) rfl ?_
  refine At.ordY (Sub.refl _) rfl (Yl.move rfl) rfl ?_
  refine At.ordY (Sub.refl _) rfl (Yl.nilCheck rfl) rfl ?_
  refine At.ordY (Sub.refl _) rfl (Yl.indexArr Tryd.underlying52 info48 bq48 rfl rfl rfl (by decide)) rfl ?_
  refine At.ordY (Sub.refl _) rfl (Yl.lane (v := s 24) Tryd.underlying48 rfl hb rfl hoff rfl rfl) rfl ?_
  refine At.ordY (Sub.refl _) rfl (Yl.xorU rfl rfl) rfl ?_
  refine At.ordNil (Sub.refl _) ?_
  refine At.yl (Yl.assign rfl) rfl ?_
  refine At.nil (At.nmThen ?_)
  refine At.weaken (L' := [(0, _), (15, _), (5, _), (6, _), (7, _), (8, _), (9, _)]) (.cons rfl (.cons rfl (.cons rfl (.cons rfl (.cons rfl (.cons rfl (.cons rfl (.nil)))))))) ?_
  refine At.seq ?_
  refine (At.region ?_)
  refine At.yl (Yl.move rfl) rfl ?_
  refine At.yl (Yl.move rfl) rfl ?_
  refine At.yl (Yl.shlU (m := 1) rfl rfl rfl) rfl ?_
  refine At.yl (Yl.move rfl) rfl ?_
  refine At.yl (Yl.shrU (m := 63) rfl rfl rfl) rfl ?_
  refine At.yl (Yl.orU rfl rfl) rfl ?_
  refine At.yl (Yl.xorU rfl rfl) rfl ?_
  refine At.yl (Yl.assign rfl) rfl ?_
  refine At.nil (At.nmThen ?_)
  refine At.weaken (L' := [(0, _), (15, _), (5, _), (6, _), (7, _), (8, _), (9, _), (10, _)]) (.cons rfl (.cons rfl (.cons rfl (.cons rfl (.cons rfl (.cons rfl (.cons rfl (.cons rfl (.nil))))))))) ?_
  refine At.seq ?_
  refine (At.region ?_)
  refine At.yl (Yl.move rfl) rfl ?_
  refine At.yl (Yl.move rfl) rfl ?_
  refine At.yl (Yl.shlU (m := 1) rfl rfl rfl) rfl ?_
  refine At.yl (Yl.move rfl) rfl ?_
  refine At.yl (Yl.shrU (m := 63) rfl rfl rfl) rfl ?_
  refine At.yl (Yl.orU rfl rfl) rfl ?_
  refine At.yl (Yl.xorU rfl rfl) rfl ?_
  refine At.yl (Yl.assign rfl) rfl ?_
  refine At.nil (At.nmThen ?_)
  refine At.weaken (L' := [(0, _), (15, _), (5, _), (6, _), (7, _), (8, _), (9, _), (10, _), (11, _)]) (.cons rfl (.cons rfl (.cons rfl (.cons rfl (.cons rfl (.cons rfl (.cons rfl (.cons rfl (.cons rfl (.nil)))))))))) ?_
  refine At.seq ?_
  refine (At.region ?_)
  refine At.yl (Yl.move rfl) rfl ?_
  refine At.yl (Yl.move rfl) rfl ?_
  refine At.yl (Yl.shlU (m := 1) rfl rfl rfl) rfl ?_
  refine At.yl (Yl.move rfl) rfl ?_
  refine At.yl (Yl.shrU (m := 63) rfl rfl rfl) rfl ?_
  refine At.yl (Yl.orU rfl rfl) rfl ?_
  refine At.yl (Yl.xorU rfl rfl) rfl ?_
  refine At.yl (Yl.assign rfl) rfl ?_
  refine At.nil (At.nmThen ?_)
  refine At.weaken (L' := [(0, _), (15, _), (5, _), (6, _), (7, _), (8, _), (9, _), (10, _), (11, _), (12, _)]) (.cons rfl (.cons rfl (.cons rfl (.cons rfl (.cons rfl (.cons rfl (.cons rfl (.cons rfl (.cons rfl (.cons rfl (.nil))))))))))) ?_
  refine At.seq ?_
  refine (At.region ?_)
  refine At.yl (Yl.move rfl) rfl ?_
  refine At.yl (Yl.move rfl) rfl ?_
  refine At.yl (Yl.shlU (m := 1) rfl rfl rfl) rfl ?_
  refine At.yl (Yl.move rfl) rfl ?_
  refine At.yl (Yl.shrU (m := 63) rfl rfl rfl) rfl ?_
  refine At.yl (Yl.orU rfl rfl) rfl ?_
  refine At.yl (Yl.xorU rfl rfl) rfl ?_
  refine At.yl (Yl.assign rfl) rfl ?_
  refine At.nil (At.nmThen ?_)
  refine At.weaken (L' := [(0, _), (15, _), (5, _), (6, _), (7, _), (8, _), (9, _), (10, _), (11, _), (12, _), (13, _)]) (.cons rfl (.cons rfl (.cons rfl (.cons rfl (.cons rfl (.cons rfl (.cons rfl (.cons rfl (.cons rfl (.cons rfl (.cons rfl (.nil)))))))))))) ?_
  refine At.seq ?_
  refine (At.region ?_)
  refine At.yl (Yl.move rfl) rfl ?_
  refine At.yl (Yl.move rfl) rfl ?_
  refine At.yl (Yl.shlU (m := 1) rfl rfl rfl) rfl ?_
  refine At.yl (Yl.move rfl) rfl ?_
  refine At.yl (Yl.shrU (m := 63) rfl rfl rfl) rfl ?_
  refine At.yl (Yl.orU rfl rfl) rfl ?_
  refine At.yl (Yl.xorU rfl rfl) rfl ?_
  refine At.yl (Yl.assign rfl) rfl ?_
  refine At.nil (At.nmThen ?_)
  refine At.weaken (L' := [(0, _), (15, _), (5, _), (6, _), (7, _), (8, _), (9, _), (10, _), (11, _), (12, _), (13, _), (14, _)]) (.cons rfl (.cons rfl (.cons rfl (.cons rfl (.cons rfl (.cons rfl (.cons rfl (.cons rfl (.cons rfl (.cons rfl (.cons rfl (.cons rfl (.nil))))))))))))) ?_
  refine At.seq ?_
  refine (At.region ?_)
  refine At.yl (Yl.move rfl) rfl ?_
  refine At.yl (Yl.nilCheck rfl) rfl ?_
  refine At.yl (Yl.indexArr Tryd.underlying52 info48 bq48 rfl rfl rfl (by decide)) rfl ?_
  refine At.yl (Yl.lane (v := s 0) Tryd.underlying48 rfl hb rfl hoff rfl rfl) rfl ?_
  refine At.yl (Yl.move rfl) rfl ?_
  refine At.yl (Yl.xorU rfl rfl) rfl ?_
  refine At.yl (Yl.assign rfl) rfl ?_
  refine At.nil (At.nmThen ?_)
  refine At.weaken (L' := [(0, _), (15, _), (5, _), (6, _), (7, _), (8, _), (9, _), (10, _), (11, _), (12, _), (13, _), (14, _)]) (.cons rfl (.cons rfl (.cons rfl (.cons rfl (.cons rfl (.cons rfl (.cons rfl (.cons rfl (.cons rfl (.cons rfl (.cons rfl (.cons rfl (.nil))))))))))))) ?_
  refine At.seq ?_
  refine (At.region ?_)
  refine At.yl (Yl.move rfl) rfl ?_
  refine At.yl (Yl.nilCheck rfl) rfl ?_
  refine At.yl (Yl.indexArr Tryd.underlying52 info48 bq48 rfl rfl rfl (by decide)) rfl ?_
  refine At.yl (Yl.lane (v := s 11) Tryd.underlying48 rfl hb rfl hoff rfl rfl) rfl ?_
  refine At.yl (Yl.move rfl) rfl ?_
  refine At.yl (Yl.xorU rfl rfl) rfl ?_
  refine At.yl (Yl.assign rfl) rfl ?_
  refine At.nil (At.nmThen ?_)
  refine At.weaken (L' := [(0, _), (15, _), (4, _), (5, _), (6, _), (7, _), (8, _), (9, _), (10, _), (11, _), (12, _), (13, _), (14, _)]) (.cons rfl (.cons rfl (.cons rfl (.cons rfl (.cons rfl (.cons rfl (.cons rfl (.cons rfl (.cons rfl (.cons rfl (.cons rfl (.cons rfl (.cons rfl (.nil)))))))))))))) ?_
  refine At.seq ?_
  refine (At.region ?_)
  refine At.yl (Yl.move rfl) rfl ?_
  refine At.yl (Yl.shlU (m := 44) rfl rfl rfl) rfl ?_
  refine At.yl (Yl.move rfl) rfl ?_
  refine At.yl (Yl.shrU (m := 20) rfl rfl rfl) rfl ?_
  refine At.yl (Yl.orU rfl rfl) rfl ?_
  refine At.yl (Yl.assign rfl) rfl ?_
  refine At.nil (At.nmThen ?_)
  refine At.weaken (L' := [(0, _), (15, _), (4, _), (5, _), (6, _), (7, _), (8, _), (9, _), (10, _), (11, _), (12, _), (13, _), (14, _)]) (.cons rfl (.cons rfl (.cons rfl (.cons rfl (.cons rfl (.cons rfl (.cons rfl (.cons rfl (.cons rfl (.cons rfl (.cons rfl (.cons rfl (.cons rfl (.nil)))))))))))))) ?_
  refine At.seq ?_
  refine (At.region ?_)
  refine At.yl (Yl.move rfl) rfl ?_
  refine At.yl (Yl.nilCheck rfl) rfl ?_
  refine At.yl (Yl.indexArr Tryd.underlying52 info48 bq48 rfl rfl rfl (by decide)) rfl ?_
  refine At.yl (Yl.lane (v := s 22) Tryd.underlying48 rfl hb rfl hoff rfl rfl) rfl ?_
  refine At.yl (Yl.move rfl) rfl ?_
  refine At.yl (Yl.xorU rfl rfl) rfl ?_
  refine At.yl (Yl.assign rfl) rfl ?_
  refine At.nil (At.nmThen ?_)
  refine At.weaken (L' := [(0, _), (15, _), (4, _), (5, _), (6, _), (7, _), (8, _), (9, _), (10, _), (11, _), (12, _), (13, _), (14, _)]) (.cons rfl (.cons rfl (.cons rfl (.cons rfl (.cons rfl (.cons rfl (.cons rfl (.cons rfl (.cons rfl (.cons rfl (.cons rfl (.cons rfl (.cons rfl (.nil)))))))))))))) ?_
  refine At.seq ?_
  refine (At.region ?_)
  refine At.yl (Yl.move rfl) rfl ?_
  refine At.yl (Yl.shlU (m := 43) rfl rfl rfl) rfl ?_
  refine At.yl (Yl.move rfl) rfl ?_
  refine At.yl (Yl.shrU (m := 21) rfl rfl rfl) rfl ?_
  refine At.yl (Yl.orU rfl rfl) rfl ?_
  refine At.yl (Yl.assign rfl) rfl ?_
  refine At.nil (At.nmThen ?_)
  refine At.weaken (L' := [(0, _), (15, _), (4, _), (5, _), (6, _), (7, _), (8, _), (9, _), (10, _), (11, _), (12, _), (13, _), (14, _)]) (.cons rfl (.cons rfl (.cons rfl (.cons rfl (.cons rfl (.cons rfl (.cons rfl (.cons rfl (.cons rfl (.cons rfl (.cons rfl (.cons rfl (.cons rfl (.nil)))))))))))))) ?_
  refine At.seq ?_
  refine (At.region ?_)
  refine At.yl (Yl.move rfl) rfl ?_
  refine At.yl (Yl.nilCheck rfl) rfl ?_
  refine At.yl (Yl.indexArr Tryd.underlying52 info48 bq48 rfl rfl rfl (by decide)) rfl ?_
  refine At.yl (Yl.lane (v := s 8) Tryd.underlying48 rfl hb rfl hoff rfl rfl) rfl ?_
  refine At.yl (Yl.move rfl) rfl ?_
  refine At.yl (Yl.xorU rfl rfl) rfl ?_
  refine At.yl (Yl.assign rfl) rfl ?_
  refine At.nil (At.nmThen ?_)
  refine At.weaken (L' := [(0, _), (15, _), (4, _), (5, _), (6, _), (7, _), (8, _), (9, _), (10, _), (11, _), (12, _), (13, _), (14, _)]) (.cons rfl (.cons rfl (.cons rfl (.cons rfl (.cons rfl (.cons rfl (.cons rfl (.cons rfl (.cons rfl (.cons rfl (.cons rfl (.cons rfl (.cons rfl (.nil)))))))))))))) ?_
  refine At.seq ?_
  refine (At.region ?_)
  refine At.yl (Yl.move rfl) rfl ?_
  refine At.yl (Yl.shlU (m := 21) rfl rfl rfl) rfl ?_
  refine At.yl (Yl.move rfl) rfl ?_
  refine At.yl (Yl.shrU (m := 43) rfl rfl rfl) rfl ?_
  refine At.yl (Yl.orU rfl rfl) rfl ?_
  refine At.yl (Yl.assign rfl) rfl ?_
  refine At.nil (At.nmThen ?_)
  refine At.weaken (L' := [(0, _), (15, _), (4, _), (5, _), (6, _), (7, _), (8, _), (9, _), (10, _), (11, _), (12, _), (13, _), (14, _)]) (.cons rfl (.cons rfl (.cons rfl (.cons rfl (.cons rfl (.cons rfl (.cons rfl (.cons rfl (.cons rfl (.cons rfl (.cons rfl (.cons rfl (.cons rfl (.nil)))))))))))))) ?_
  refine At.seq ?_
  refine (At.region ?_)
  refine At.yl (Yl.move rfl) rfl ?_
  refine At.yl (Yl.nilCheck rfl) rfl ?_
  refine At.yl (Yl.indexArr Tryd.underlying52 info48 bq48 rfl rfl rfl (by decide)) rfl ?_
  refine At.yl (Yl.lane (v := s 19) Tryd.underlying48 rfl hb rfl hoff rfl rfl) rfl ?_
  refine At.yl (Yl.move rfl) rfl ?_
  refine At.yl (Yl.xorU rfl rfl) rfl ?_
  refine At.yl (Yl.assign rfl) rfl ?_
  refine At.nil (At.nmThen ?_)
  refine At.weaken (L' := [(0, _), (15, _), (4, _), (5, _), (6, _), (7, _), (8, _), (9, _), (10, _), (11, _), (12, _), (13, _), (14, _)]) (.cons rfl (.cons rfl (.cons rfl (.cons rfl (.cons rfl (.cons rfl (.cons rfl (.cons rfl (.cons rfl (.cons rfl (.cons rfl (.cons rfl (.cons rfl (.nil)))))))))))))) ?_
  refine At.seq ?_
  refine (At.region ?_)
  refine At.yl (Yl.move rfl) rfl ?_
  refine At.yl (Yl.shlU (m := 14) rfl rfl rfl) rfl ?_
  refine At.yl (Yl.move rfl) rfl ?_
  refine At.yl (Yl.shrU (m := 50) rfl rfl rfl) rfl ?_
  refine At.yl (Yl.orU rfl rfl) rfl ?_
  refine At.yl (Yl.assign rfl) rfl ?_
  refine At.nil (At.nmThen ?_)
  refine At.weaken (L' := [(0, _), (15, _), (4, _), (5, _), (6, _), (7, _), (8, _), (9, _), (10, _), (11, _), (12, _), (13, _), (14, _)]) (.cons rfl (.cons rfl (.cons rfl (.cons rfl (.cons rfl (.cons rfl (.cons rfl (.cons rfl (.cons rfl (.cons rfl (.cons rfl (.cons rfl (.cons rfl (.nil)))))))))))))) ?_
  refine At.seq ?_
  refine (At.draws 13 (ordFrom 0 13) rfl (by decide +kernel) (QP.thn hQ) ?_)
  refine At.ordY (Sub.refl _) rfl (Yl.move rfl) rfl ?_
  refine At.ordY (Sub.refl _) rfl (Yl.move rfl) rfl ?_
  refine At.ordY (Sub.refl _) rfl (Yl.move rfl) rfl ?_
  refine At.ordY (Sub.refl _) rfl (Yl.move rfl) rfl ?_
  refine At.ordY (Sub.refl _) rfl (Yl.andNotU rfl rfl) rfl ?_
  refine At.ordY (Sub.refl _) rfl (Yl.xorU rfl rfl) rfl ?_
  refine At.ordY (Sub.refl _) rfl (Yl.move rfl) rfl ?_
  refine At.ordY (Sub.refl _) rfl (Yl.addI rfl rfl (by omega) (by omega)) rfl ?_
  refine At.ordY (Sub.refl _) rfl (Yl.indexArr (i := i + 2) Tryd.underlying93 info48 bq48 rfl rfl (by omega) (by omega)) rfl ?_
  refine At.ordY (Sub.refl _) rfl (Yl.rc Tryd.underlying48 rfl hg hne rfl (by omega)) rfl ?_
  refine At.ordY (Sub.refl _) rfl (Yl.xorU rfl rfl) rfl ?_
  refine At.ordY (Sub.refl _) rfl (Yl.nilCheck rfl) rfl ?_
  refine At.ordY (Sub.refl _) rfl (Yl.indexArr Tryd.underlying52 info48 bq48 rfl rfl rfl (by decide)) rfl ?_
  refine At.ordNil (Sub.refl _) ?_
  refine At.efS (Ef.lane info48 bq48 hb rfl hoff rfl rfl) ?_
  refine At.nil (At.nmThen ?_)
  refine At.weaken (L' := [(0, _), (15, _), (4, _), (5, _), (6, _), (7, _), (8, _), (9, _), (10, _), (11, _), (12, _), (13, _), (14, _)]) (.cons rfl (.cons rfl (.cons rfl (.cons rfl (.cons rfl (.cons rfl (.cons rfl (.cons rfl (.cons rfl (.cons rfl (.cons rfl (.cons rfl (.cons rfl (.nil)))))))))))))) ?_
  refine At.seq ?_
  refine (At.region ?_)
  refine At.yl (Yl.move rfl) rfl ?_
  refine At.yl (Yl.move rfl) rfl ?_
  refine At.yl (Yl.move rfl) rfl ?_
  refine At.yl (Yl.move rfl) rfl ?_
  refine At.yl (Yl.andNotU rfl rfl) rfl ?_
  refine At.yl (Yl.xorU rfl rfl) rfl ?_
  refine At.yl (Yl.nilCheck rfl) rfl ?_
  refine At.yl (Yl.indexArr Tryd.underlying52 info48 bq48 rfl rfl rfl (by decide)) rfl ?_
  refine At.efS (Ef.lane info48 bq48 hb rfl hoff rfl rfl) ?_
  refine At.nil (At.nmThen ?_)
  refine At.weaken (L' := [(0, _), (15, _), (4, _), (5, _), (6, _), (7, _), (8, _), (9, _), (10, _), (11, _), (12, _), (13, _), (14, _)]) (.cons rfl (.cons rfl (.cons rfl (.cons rfl (.cons rfl (.cons rfl (.cons rfl (.cons rfl (.cons rfl (.cons rfl (.cons rfl (.cons rfl (.cons rfl (.nil)))))))))))))) ?_
  refine At.seq ?_
  refine (At.region ?_)
  refine At.yl (Yl.move rfl) rfl ?_
  refine At.yl (Yl.move rfl) rfl ?_
  refine At.yl (Yl.move rfl) rfl ?_
  refine At.yl (Yl.move rfl) rfl ?_
  refine At.yl (Yl.andNotU rfl rfl) rfl ?_
  refine At.yl (Yl.xorU rfl rfl) rfl ?_
  refine At.yl (Yl.nilCheck rfl) rfl ?_
  refine At.yl (Yl.indexArr Tryd.underlying52 info48 bq48 rfl rfl rfl (by decide)) rfl ?_
  refine At.efS (Ef.lane info48 bq48 hb rfl hoff rfl rfl) ?_
  refine At.nil (At.nmThen ?_)
  refine At.weaken (L' := [(0, _), (15, _), (4, _), (5, _), (6, _), (7, _), (8, _), (9, _), (10, _), (11, _), (12, _), (13, _), (14, _)]) (.cons rfl (.cons rfl (.cons rfl (.cons rfl (.cons rfl (.cons rfl (.cons rfl (.cons rfl (.cons rfl (.cons rfl (.cons rfl (.cons rfl (.cons rfl (.nil)))))))))))))) ?_
  refine At.seq ?_
  refine (At.region ?_)
  refine At.yl (Yl.move rfl) rfl ?_
  refine At.yl (Yl.move rfl) rfl ?_
  refine At.yl (Yl.move rfl) rfl ?_
  refine At.yl (Yl.move rfl) rfl ?_
  refine At.yl (Yl.andNotU rfl rfl) rfl ?_
  refine At.yl (Yl.xorU rfl rfl) rfl ?_
  refine At.yl (Yl.nilCheck rfl) rfl ?_
  refine At.yl (Yl.indexArr Tryd.underlying52 info48 bq48 rfl rfl rfl (by decide)) rfl ?_
  refine At.efS (Ef.lane info48 bq48 hb rfl hoff rfl rfl) ?_
  refine At.nil (At.nmThen ?_)
  refine At.weaken (L' := [(0, _), (15, _), (4, _), (5, _), (6, _), (7, _), (8, _), (9, _), (10, _), (11, _), (12, _), (13, _), (14, _)]) (.cons rfl (.cons rfl (.cons rfl (.cons rfl (.cons rfl (.cons rfl (.cons rfl (.cons rfl (.cons rfl (.cons rfl (.cons rfl (.cons rfl (.cons rfl (.nil)))))))))))))) ?_
  refine At.seq ?_
  refine (At.region ?_)
  refine At.yl (Yl.move rfl) rfl ?_
  refine At.yl (Yl.move rfl) rfl ?_
  refine At.yl (Yl.move rfl) rfl ?_
  refine At.yl (Yl.move rfl) rfl ?_
  refine At.yl (Yl.andNotU rfl rfl) rfl ?_
  refine At.yl (Yl.xorU rfl rfl) rfl ?_
  refine At.yl (Yl.nilCheck rfl) rfl ?_
  refine At.yl (Yl.indexArr Tryd.underlying52 info48 bq48 rfl rfl rfl (by decide)) rfl ?_
  refine At.efS (Ef.lane info48 bq48 hb rfl hoff rfl rfl) ?_
  refine At.nil (At.nmThen ?_)
  refine At.weaken (L' := [(0, _), (15, _), (4, _), (5, _), (6, _), (7, _), (8, _), (9, _), (10, _), (11, _), (12, _), (13, _), (14, _)]) (.cons rfl (.cons rfl (.cons rfl (.cons rfl (.cons rfl (.cons rfl (.cons rfl (.cons rfl (.cons rfl (.cons rfl (.cons rfl (.cons rfl (.cons rfl (.nil)))))))))))))) ?_
  refine At.seq ?_
  refine (At.region ?_)
  refine At.yl (Yl.move rfl) rfl ?_
  refine At.yl (Yl.nilCheck rfl) rfl ?_
  refine At.yl (Yl.indexArr Tryd.underlying52 info48 bq48 rfl rfl rfl (by decide)) rfl ?_
  refine At.yl (Yl.lane (v := s 15) Tryd.underlying48 rfl hb rfl hoff rfl rfl) rfl ?_
  refine At.yl (Yl.move rfl) rfl ?_
  refine At.yl (Yl.xorU rfl rfl) rfl ?_
  refine At.yl (Yl.assign rfl) rfl ?_
  refine At.nil (At.nmThen ?_)
  refine At.weaken (L' := [(0, _), (15, _), (4, _), (5, _), (6, _), (7, _), (8, _), (9, _), (10, _), (11, _), (12, _), (13, _), (14, _)]) (.cons rfl (.cons rfl (.cons rfl (.cons rfl (.cons rfl (.cons rfl (.cons rfl (.cons rfl (.cons rfl (.cons rfl (.cons rfl (.cons rfl (.cons rfl (.nil)))))))))))))) ?_
  refine At.seq ?_
  refine (At.region ?_)
  refine At.yl (Yl.move rfl) rfl ?_
  refine At.yl (Yl.shlU (m := 3) rfl rfl rfl) rfl ?_
  refine At.yl (Yl.move rfl) rfl ?_
  refine At.yl (Yl.shrU (m := 61) rfl rfl rfl) rfl ?_
  refine At.yl (Yl.orU rfl rfl) rfl ?_
  refine At.yl (Yl.assign rfl) rfl ?_
  refine At.nil (At.nmThen ?_)
  refine At.weaken (L' := [(0, _), (15, _), (4, _), (5, _), (6, _), (7, _), (8, _), (9, _), (10, _), (11, _), (12, _), (13, _), (14, _)]) (.cons rfl (.cons rfl (.cons rfl (.cons rfl (.cons rfl (.cons rfl (.cons rfl (.cons rfl (.cons rfl (.cons rfl (.cons rfl (.cons rfl (.cons rfl (.nil)))))))))))))) ?_
  refine At.seq ?_
  refine (At.region ?_)
  refine At.yl (Yl.move rfl) rfl ?_
  refine At.yl (Yl.nilCheck rfl) rfl ?_
  refine At.yl (Yl.indexArr Tryd.underlying52 info48 bq48 rfl rfl rfl (by decide)) rfl ?_
  refine At.yl (Yl.lane (v := s 1) Tryd.underlying48 rfl hb rfl hoff rfl rfl) rfl ?_
  refine At.yl (Yl.move rfl) rfl ?_
  refine At.yl (Yl.xorU rfl rfl) rfl ?_
  refine At.yl (Yl.assign rfl) rfl ?_
  refine At.nil (At.nmThen ?_)
  refine At.weaken (L' := [(0, _), (15, _), (4, _), (5, _), (6, _), (7, _), (8, _), (9, _), (10, _), (11, _), (12, _), (13, _), (14, _)]) (.cons rfl (.cons rfl (.cons rfl (.cons rfl (.cons rfl (.cons rfl (.cons rfl (.cons rfl (.cons rfl (.cons rfl (.cons rfl (.cons rfl (.cons rfl (.nil)))))))))))))) ?_
  refine At.seq ?_
  refine (At.region ?_)
  refine At.yl (Yl.move rfl) rfl ?_
  refine At.yl (Yl.shlU (m := 45) rfl rfl rfl) rfl ?_
  refine At.yl (Yl.move rfl) rfl ?_
  refine At.yl (Yl.shrU (m := 19) rfl rfl rfl) rfl ?_
  refine At.yl (Yl.orU rfl rfl) rfl ?_
  refine At.yl (Yl.assign rfl) rfl ?_
  refine At.nil (At.nmThen ?_)
  refine At.weaken (L' := [(0, _), (15, _), (4, _), (5, _), (6, _), (7, _), (8, _), (9, _), (10, _), (11, _), (12, _), (13, _), (14, _)]) (.cons rfl (.cons rfl (.cons rfl (.cons rfl (.cons rfl (.cons rfl (.cons rfl (.cons rfl (.cons rfl (.cons rfl (.cons rfl (.cons rfl (.cons rfl (.nil)))))))))))))) ?_
  refine At.seq ?_
  refine (At.region ?_)
  refine At.yl (Yl.move rfl) rfl ?_
  refine At.yl (Yl.nilCheck rfl) rfl ?_
  refine At.yl (Yl.indexArr Tryd.underlying52 info48 bq48 rfl rfl rfl (by decide)) rfl ?_
  refine At.yl (Yl.lane (v := s 12) Tryd.underlying48 rfl hb rfl hoff rfl rfl) rfl ?_
  refine At.yl (Yl.move rfl) rfl ?_
  refine At.yl (Yl.xorU rfl rfl) rfl ?_
  refine At.yl (Yl.assign rfl) rfl ?_
  refine At.nil (At.nmThen ?_)
  refine At.weaken (L' := [(0, _), (15, _), (4, _), (5, _), (6, _), (7, _), (8, _), (9, _), (10, _), (11, _), (12, _), (13, _), (14, _)]) (.cons rfl (.cons rfl (.cons rfl (.cons rfl (.cons rfl (.cons rfl (.cons rfl (.cons rfl (.cons rfl (.cons rfl (.cons rfl (.cons rfl (.cons rfl (.nil)))))))))))))) ?_
  refine At.seq ?_
  refine (At.region ?_)
  refine At.yl (Yl.move rfl) rfl ?_
  refine At.yl (Yl.shlU (m := 61) rfl rfl rfl) rfl ?_
  refine At.yl (Yl.move rfl) rfl ?_
  refine At.yl (Yl.shrU (m := 3) rfl rfl rfl) rfl ?_
  refine At.yl (Yl.orU rfl rfl) rfl ?_
  refine At.yl (Yl.assign rfl) rfl ?_
  refine At.nil (At.nmThen ?_)
  refine At.weaken (L' := [(0, _), (15, _), (4, _), (5, _), (6, _), (7, _), (8, _), (9, _), (10, _), (11, _), (12, _), (13, _), (14, _)]) (.cons rfl (.cons rfl (.cons rfl (.cons rfl (.cons rfl (.cons rfl (.cons rfl (.cons rfl (.cons rfl (.cons rfl (.cons rfl (.cons rfl (.cons rfl (.nil)))))))))))))) ?_
  refine At.seq ?_
  refine (At.region ?_)
  refine At.yl (Yl.move rfl) rfl ?_
  refine At.yl (Yl.nilCheck rfl) rfl ?_
  refine At.yl (Yl.indexArr Tryd.underlying52 info48 bq48 rfl rfl rfl (by decide)) rfl ?_
  refine At.yl (Yl.lane (v := s 23) Tryd.underlying48 rfl hb rfl hoff rfl rfl) rfl ?_
  refine At.yl (Yl.move rfl) rfl ?_
  refine At.yl (Yl.xorU rfl rfl) rfl ?_
  refine At.yl (Yl.assign rfl) rfl ?_
  refine At.nil (At.nmThen ?_)
  refine At.weaken (L' := [(0, _), (15, _), (4, _), (5, _), (6, _), (7, _), (8, _), (9, _), (10, _), (11, _), (12, _), (13, _), (14, _)]) (.cons rfl (.cons rfl (.cons rfl (.cons rfl (.cons rfl (.cons rfl (.cons rfl (.cons rfl (.cons rfl (.cons rfl (.cons rfl (.cons rfl (.cons rfl (.nil)))))))))))))) ?_
  refine At.seq ?_
  refine (At.region ?_)
  refine At.yl (Yl.move rfl) rfl ?_
  refine At.yl (Yl.shlU (m := 28) rfl rfl rfl) rfl ?_
  refine At.yl (Yl.move rfl) rfl ?_
  refine At.yl (Yl.shrU (m := 36) rfl rfl rfl) rfl ?_
  refine At.yl (Yl.orU rfl rfl) rfl ?_
  refine At.yl (Yl.assign rfl) rfl ?_
  refine At.nil (At.nmThen ?_)
  refine At.weaken (L' := [(0, _), (15, _), (4, _), (5, _), (6, _), (7, _), (8, _), (9, _), (10, _), (11, _), (12, _), (13, _), (14, _)]) (.cons rfl (.cons rfl (.cons rfl (.cons rfl (.cons rfl (.cons rfl (.cons rfl (.cons rfl (.cons rfl (.cons rfl (.cons rfl (.cons rfl (.cons rfl (.nil)))))))))))))) ?_
  refine At.seq ?_
  refine (At.region ?_)
  refine At.yl (Yl.move rfl) rfl ?_
  refine At.yl (Yl.nilCheck rfl) rfl ?_
  refine At.yl (Yl.indexArr Tryd.underlying52 info48 bq48 rfl rfl rfl (by decide)) rfl ?_
  refine At.yl (Yl.lane (v := s 9) Tryd.underlying48 rfl hb rfl hoff rfl rfl) rfl ?_
  refine At.yl (Yl.move rfl) rfl ?_
  refine At.yl (Yl.xorU rfl rfl) rfl ?_
  refine At.yl (Yl.assign rfl) rfl ?_
  refine At.nil (At.nmThen ?_)
  refine At.weaken (L' := [(0, _), (15, _), (4, _), (5, _), (6, _), (7, _), (8, _), (9, _), (10, _), (11, _), (12, _), (13, _), (14, _)]) (.cons rfl (.cons rfl (.cons rfl (.cons rfl (.cons rfl (.cons rfl (.cons rfl (.cons rfl (.cons rfl (.cons rfl (.cons rfl (.cons rfl (.cons rfl (.nil)))))))))))))) ?_
  refine At.seq ?_
  refine (At.region ?_)
  refine At.yl (Yl.move rfl) rfl ?_
  refine At.yl (Yl.shlU (m := 20) rfl rfl rfl) rfl ?_
  refine At.yl (Yl.move rfl) rfl ?_
  refine At.yl (Yl.shrU (m := 44) rfl rfl rfl) rfl ?_
  refine At.yl (Yl.orU rfl rfl) rfl ?_
  refine At.yl (Yl.assign rfl) rfl ?_
  refine At.nil (At.nmThen ?_)
  refine At.weaken (L' := [(0, _), (15, _), (4, _), (5, _), (6, _), (7, _), (8, _), (9, _), (10, _), (11, _), (12, _), (13, _), (14, _)]) (.cons rfl (.cons rfl (.cons rfl (.cons rfl (.cons rfl (.cons rfl (.cons rfl (.cons rfl (.cons rfl (.cons rfl (.cons rfl (.cons rfl (.cons rfl (.nil)))))))))))))) ?_
  refine At.seq ?_
  refine (At.region ?_)
  refine At.yl (Yl.move rfl) rfl ?_
  refine At.yl (Yl.move rfl) rfl ?_
  refine At.yl (Yl.move rfl) rfl ?_
  refine At.yl (Yl.move rfl) rfl ?_
  refine At.yl (Yl.andNotU rfl rfl) rfl ?_
  refine At.yl (Yl.xorU rfl rfl) rfl ?_
  refine At.yl (Yl.nilCheck rfl) rfl ?_
  refine At.yl (Yl.indexArr Tryd.underlying52 info48 bq48 rfl rfl rfl (by decide)) rfl ?_
  refine At.efS (Ef.lane info48 bq48 hb rfl hoff rfl rfl) ?_
  refine At.nil (At.nmThen ?_)
  refine At.weaken (L' := [(0, _), (15, _), (4, _), (5, _), (6, _), (7, _), (8, _), (9, _), (10, _), (11, _), (12, _), (13, _), (14, _)]) (.cons rfl (.cons rfl (.cons rfl (.cons rfl (.cons rfl (.cons rfl (.cons rfl (.cons rfl (.cons rfl (.cons rfl (.cons rfl (.cons rfl (.cons rfl (.nil)))))))))))))) ?_
  refine At.seq ?_
  refine (At.region ?_)
  refine At.yl (Yl.move rfl) rfl ?_
  refine At.yl (Yl.move rfl) rfl ?_
  refine At.yl (Yl.move rfl) rfl ?_
  refine At.yl (Yl.move rfl) rfl ?_
  refine At.yl (Yl.andNotU rfl rfl) rfl ?_
  refine At.yl (Yl.xorU rfl rfl) rfl ?_
  refine At.yl (Yl.nilCheck rfl) rfl ?_
  refine At.yl (Yl.indexArr Tryd.underlying52 info48 bq48 rfl rfl rfl (by decide)) rfl ?_
  refine At.efS (Ef.lane info48 bq48 hb rfl hoff rfl rfl) ?_
  refine At.nil (At.nmThen ?_)
  refine At.weaken (L' := [(0, _), (15, _), (4, _), (5, _), (6, _), (7, _), (8, _), (9, _), (10, _), (11, _), (12, _), (13, _), (14, _)]) (.cons rfl (.cons rfl (.cons rfl (.cons rfl (.cons rfl (.cons rfl (.cons rfl (.cons rfl (.cons rfl (.cons rfl (.cons rfl (.cons rfl (.cons rfl (.nil)))))))))))))) ?_
  refine At.seq ?_
  refine (At.region ?_)
  refine At.yl (Yl.move rfl) rfl ?_
  refine At.yl (Yl.move rfl) rfl ?_
  refine At.yl (Yl.move rfl) rfl ?_
  refine At.yl (Yl.move rfl) rfl ?_
  refine At.yl (Yl.andNotU rfl rfl) rfl ?_
  refine At.yl (Yl.xorU rfl rfl) rfl ?_
  refine At.yl (Yl.nilCheck rfl) rfl ?_
  refine At.yl (Yl.indexArr Tryd.underlying52 info48 bq48 rfl rfl rfl (by decide)) rfl ?_
  refine At.efS (Ef.lane info48 bq48 hb rfl hoff rfl rfl) ?_
  refine At.nil (At.nmThen ?_)
  refine At.weaken (L' := [(0, _), (15, _), (4, _), (5, _), (6, _), (7, _), (8, _), (9, _), (10, _), (11, _), (12, _), (13, _), (14, _)]) (.cons rfl (.cons rfl (.cons rfl (.cons rfl (.cons rfl (.cons rfl (.cons rfl (.cons rfl (.cons rfl (.cons rfl (.cons rfl (.cons rfl (.cons rfl (.nil)))))))))))))) ?_
  refine At.seq ?_
  refine (At.region ?_)
  refine At.yl (Yl.move rfl) rfl ?_
  refine At.yl (Yl.move rfl) rfl ?_
  refine At.yl (Yl.move rfl) rfl ?_
  refine At.yl (Yl.move rfl) rfl ?_
  refine At.yl (Yl.andNotU rfl rfl) rfl ?_
  refine At.yl (Yl.xorU rfl rfl) rfl ?_
  refine At.yl (Yl.nilCheck rfl) rfl ?_
  refine At.yl (Yl.indexArr Tryd.underlying52 info48 bq48 rfl rfl rfl (by decide)) rfl ?_
  refine At.efS (Ef.lane info48 bq48 hb rfl hoff rfl rfl) ?_
  refine At.nil (At.nmThen ?_)
  refine At.weaken (L' := [(0, _), (15, _), (4, _), (5, _), (6, _), (7, _), (8, _), (9, _), (10, _), (11, _), (12, _), (13, _), (14, _)]) (.cons rfl (.cons rfl (.cons rfl (.cons rfl (.cons rfl (.cons rfl (.cons rfl (.cons rfl (.cons rfl (.cons rfl (.cons rfl (.cons rfl (.cons rfl (.nil)))))))))))))) ?_
  refine At.seq ?_
  refine (At.region ?_)
  refine At.yl (Yl.move rfl) rfl ?_
  refine At.yl (Yl.move rfl) rfl ?_
  refine At.yl (Yl.move rfl) rfl ?_
  refine At.yl (Yl.move rfl) rfl ?_
  refine At.yl (Yl.andNotU rfl rfl) rfl ?_
  refine At.yl (Yl.xorU rfl rfl) rfl ?_
  refine At.yl (Yl.nilCheck rfl) rfl ?_
  refine At.yl (Yl.indexArr Tryd.underlying52 info48 bq48 rfl rfl rfl (by decide)) rfl ?_
  refine At.efS (Ef.lane info48 bq48 hb rfl hoff rfl rfl) ?_
  refine At.nil (At.nmThen ?_)
  refine At.weaken (L' := [(0, _), (15, _), (4, _), (5, _), (6, _), (7, _), (8, _), (9, _), (10, _), (11, _), (12, _), (13, _), (14, _)]) (.cons rfl (.cons rfl (.cons rfl (.cons rfl (.cons rfl (.cons rfl (.cons rfl (.cons rfl (.cons rfl (.cons rfl (.cons rfl (.cons rfl (.cons rfl (.nil)))))))))))))) ?_
  refine At.seq ?_
  refine (At.region ?_)
  refine At.yl (Yl.move rfl) rfl ?_
  refine At.yl (Yl.nilCheck rfl) rfl ?_
  refine At.yl (Yl.indexArr Tryd.underlying52 info48 bq48 rfl rfl rfl (by decide)) rfl ?_
  refine At.yl (Yl.lane (v := s 5) Tryd.underlying48 rfl hb rfl hoff rfl rfl) rfl ?_
  refine At.yl (Yl.move rfl) rfl ?_
  refine At.yl (Yl.xorU rfl rfl) rfl ?_
  refine At.yl (Yl.assign rfl) rfl ?_
  refine At.nil (At.nmThen ?_)
  refine At.weaken (L' := [(0, _), (15, _), (4, _), (5, _), (6, _), (7, _), (8, _), (9, _), (10, _), (11, _), (12, _), (13, _), (14, _)]) (.cons rfl (.cons rfl (.cons rfl (.cons rfl (.cons rfl (.cons rfl (.cons rfl (.cons rfl (.cons rfl (.cons rfl (.cons rfl (.cons rfl (.cons rfl (.nil)))))))))))))) ?_
  refine At.seq ?_
  refine (At.region ?_)
  refine At.yl (Yl.move rfl) rfl ?_
  refine At.yl (Yl.shlU (m := 18) rfl rfl rfl) rfl ?_
  refine At.yl (Yl.move rfl) rfl ?_
  refine At.yl (Yl.shrU (m := 46) rfl rfl rfl) rfl ?_
  refine At.yl (Yl.orU rfl rfl) rfl ?_
  refine At.yl (Yl.assign rfl) rfl ?_
  refine At.nil (At.nmThen ?_)
  refine At.weaken (L' := [(0, _), (15, _), (4, _), (5, _), (6, _), (7, _), (8, _), (9, _), (10, _), (11, _), (12, _), (13, _), (14, _)]) (.cons rfl (.cons rfl (.cons rfl (.cons rfl (.cons rfl (.cons rfl (.cons rfl (.cons rfl (.cons rfl (.cons rfl (.cons rfl (.cons rfl (.cons rfl (.nil)))))))))))))) ?_
  refine At.seq ?_
  refine (At.region ?_)
  refine At.yl (Yl.move rfl) rfl ?_
  refine At.yl (Yl.nilCheck rfl) rfl ?_
  refine At.yl (Yl.indexArr Tryd.underlying52 info48 bq48 rfl rfl rfl (by decide)) rfl ?_
  refine At.yl (Yl.lane (v := s 16) Tryd.underlying48 rfl hb rfl hoff rfl rfl) rfl ?_
  refine At.yl (Yl.move rfl) rfl ?_
  refine At.yl (Yl.xorU rfl rfl) rfl ?_
  refine At.yl (Yl.assign rfl) rfl ?_
  refine At.nil (At.nmThen ?_)
  refine At.weaken (L' := [(0, _), (15, _), (4, _), (5, _), (6, _), (7, _), (8, _), (9, _), (10, _), (11, _), (12, _), (13, _), (14, _)]) (.cons rfl (.cons rfl (.cons rfl (.cons rfl (.cons rfl (.cons rfl (.cons rfl (.cons rfl (.cons rfl (.cons rfl (.cons rfl (.cons rfl (.cons rfl (.nil)))))))))))))) ?_
  refine At.seq ?_
  refine (At.region ?_)
  refine At.yl (Yl.move rfl) rfl ?_
  refine At.yl (Yl.shlU (m := 1) rfl rfl rfl) rfl ?_
  refine At.yl (Yl.move rfl) rfl ?_
  refine At.yl (Yl.shrU (m := 63) rfl rfl rfl) rfl ?_
  refine At.yl (Yl.orU rfl rfl) rfl ?_
  refine At.yl (Yl.assign rfl) rfl ?_
  refine At.nil (At.nmThen ?_)
  refine At.weaken (L' := [(0, _), (15, _), (4, _), (5, _), (6, _), (7, _), (8, _), (9, _), (10, _), (11, _), (12, _), (13, _), (14, _)]) (.cons rfl (.cons rfl (.cons rfl (.cons rfl (.cons rfl (.cons rfl (.cons rfl (.cons rfl (.cons rfl (.cons rfl (.cons rfl (.cons rfl (.cons rfl (.nil)))))))))))))) ?_
  refine At.seq ?_
  refine (At.region ?_)
  refine At.yl (Yl.move rfl) rfl ?_
  refine At.yl (Yl.nilCheck rfl) rfl ?_
  refine At.yl (Yl.indexArr Tryd.underlying52 info48 bq48 rfl rfl rfl (by decide)) rfl ?_
  refine At.yl (Yl.lane (v := s 2) Tryd.underlying48 rfl hb rfl hoff rfl rfl) rfl ?_
  refine At.yl (Yl.move rfl) rfl ?_
  refine At.yl (Yl.xorU rfl rfl) rfl ?_
  refine At.yl (Yl.assign rfl) rfl ?_
  refine At.nil (At.nmThen ?_)
  refine At.weaken (L' := [(0, _), (15, _), (4, _), (5, _), (6, _), (7, _), (8, _), (9, _), (10, _), (11, _), (12, _), (13, _), (14, _)]) (.cons rfl (.cons rfl (.cons rfl (.cons rfl (.cons rfl (.cons rfl (.cons rfl (.cons rfl (.cons rfl (.cons rfl (.cons rfl (.cons rfl (.cons rfl (.nil)))))))))))))) ?_
  refine At.seq ?_
  refine (At.region ?_)
  refine At.yl (Yl.move rfl) rfl ?_
  refine At.yl (Yl.shlU (m := 6) rfl rfl rfl) rfl ?_
  refine At.yl (Yl.move rfl) rfl ?_
  refine At.yl (Yl.shrU (m := 58) rfl rfl rfl) rfl ?_
  refine At.yl (Yl.orU rfl rfl) rfl ?_
  refine At.yl (Yl.assign rfl) rfl ?_
  refine At.nil (At.nmThen ?_)
  refine At.weaken (L' := [(0, _), (15, _), (4, _), (5, _), (6, _), (7, _), (8, _), (9, _), (10, _), (11, _), (12, _), (13, _), (14, _)]) (.cons rfl (.cons rfl (.cons rfl (.cons rfl (.cons rfl (.cons rfl (.cons rfl (.cons rfl (.cons rfl (.cons rfl (.cons rfl (.cons rfl (.cons rfl (.nil)))))))))))))) ?_
  refine At.seq ?_
  refine (At.region ?_)
  refine At.yl (Yl.move rfl) rfl ?_
  refine At.yl (Yl.nilCheck rfl) rfl ?_
  refine At.yl (Yl.indexArr Tryd.underlying52 info48 bq48 rfl rfl rfl (by decide)) rfl ?_
  refine At.yl (Yl.lane (v := s 13) Tryd.underlying48 rfl hb rfl hoff rfl rfl) rfl ?_
  refine At.yl (Yl.move rfl) rfl ?_
  refine At.yl (Yl.xorU rfl rfl) rfl ?_
  refine At.yl (Yl.assign rfl) rfl ?_
  refine At.nil (At.nmThen ?_)
  refine At.weaken (L' := [(0, _), (15, _), (4, _), (5, _), (6, _), (7, _), (8, _), (9, _), (10, _), (11, _), (12, _), (13, _), (14, _)]) (.cons rfl (.cons rfl (.cons rfl (.cons rfl (.cons rfl (.cons rfl (.cons rfl (.cons rfl (.cons rfl (.cons rfl (.cons rfl (.cons rfl (.cons rfl (.nil)))))))))))))) ?_
  refine At.seq ?_
  refine (At.region ?_)
  refine At.yl (Yl.move rfl) rfl ?_
  refine At.yl (Yl.shlU (m := 25) rfl rfl rfl) rfl ?_
  refine At.yl (Yl.move rfl) rfl ?_
  refine At.yl (Yl.shrU (m := 39) rfl rfl rfl) rfl ?_
  refine At.yl (Yl.orU rfl rfl) rfl ?_
  refine At.yl (Yl.assign rfl) rfl ?_
  refine At.nil (At.nmThen ?_)
  refine At.weaken (L' := [(0, _), (15, _), (4, _), (5, _), (6, _), (7, _), (8, _), (9, _), (10, _), (11, _), (12, _), (13, _), (14, _)]) (.cons rfl (.cons rfl (.cons rfl (.cons rfl (.cons rfl (.cons rfl (.cons rfl (.cons rfl (.cons rfl (.cons rfl (.cons rfl (.cons rfl (.cons rfl (.nil)))))))))))))) ?_
  refine At.seq ?_
  refine (At.region ?_)
  refine At.yl (Yl.move rfl) rfl ?_
  refine At.yl (Yl.nilCheck rfl) rfl ?_
  refine At.yl (Yl.indexArr Tryd.underlying52 info48 bq48 rfl rfl rfl (by decide)) rfl ?_
  refine At.yl (Yl.lane (v := s 24) Tryd.underlying48 rfl hb rfl hoff rfl rfl) rfl ?_
  refine At.yl (Yl.move rfl) rfl ?_
  refine At.yl (Yl.xorU rfl rfl) rfl ?_
  refine At.yl (Yl.assign rfl) rfl ?_
  refine At.nil (At.nmThen ?_)
  refine At.weaken (L' := [(0, _), (15, _), (4, _), (5, _), (6, _), (7, _), (8, _), (9, _), (10, _), (11, _), (12, _), (13, _), (14, _)]) (.cons rfl (.cons rfl (.cons rfl (.cons rfl (.cons rfl (.cons rfl (.cons rfl (.cons rfl (.cons rfl (.cons rfl (.cons rfl (.cons rfl (.cons rfl (.nil)))))))))))))) ?_
  refine At.seq ?_
  refine (At.region ?_)
  refine At.yl (Yl.move rfl) rfl ?_
  refine At.yl (Yl.shlU (m := 8) rfl rfl rfl) rfl ?_
  refine At.yl (Yl.move rfl) rfl ?_
  refine At.yl (Yl.shrU (m := 56) rfl rfl rfl) rfl ?_
  refine At.yl (Yl.orU rfl rfl) rfl ?_
  refine At.yl (Yl.assign rfl) rfl ?_
  refine At.nil (At.nmThen ?_)
  refine At.weaken (L' := [(0, _), (15, _), (4, _), (5, _), (6, _), (7, _), (8, _), (9, _), (10, _), (11, _), (12, _), (13, _), (14, _)]) (.cons rfl (.cons rfl (.cons rfl (.cons rfl (.cons rfl (.cons rfl (.cons rfl (.cons rfl (.cons rfl (.cons rfl (.cons rfl (.cons rfl (.cons rfl (.nil)))))))))))))) ?_
  refine At.seq ?_
  refine (At.region ?_)
  refine At.yl (Yl.move rfl) rfl ?_
  refine At.yl (Yl.move rfl) rfl ?_
  refine At.yl (Yl.move rfl) rfl ?_
  refine At.yl (Yl.move rfl) rfl ?_
  refine At.yl (Yl.andNotU rfl rfl) rfl ?_
  refine At.yl (Yl.xorU rfl rfl) rfl ?_
  refine At.yl (Yl.nilCheck rfl) rfl ?_
  refine At.yl (Yl.indexArr Tryd.underlying52 info48 bq48 rfl rfl rfl (by decide)) rfl ?_
  refine At.efS (Ef.lane info48 bq48 hb rfl hoff rfl rfl) ?_
  refine At.nil (At.nmThen ?_)
  refine At.weaken (L' := [(0, _), (15, _), (4, _), (5, _), (6, _), (7, _), (8, _), (9, _), (10, _), (11, _), (12, _), (13, _), (14, _)]) (.cons rfl (.cons rfl (.cons rfl (.cons rfl (.cons rfl (.cons rfl (.cons rfl (.cons rfl (.cons rfl (.cons rfl (.cons rfl (.cons rfl (.cons rfl (.nil)))))))))))))) ?_
  refine At.seq ?_
  refine (At.region ?_)
  refine At.yl (Yl.move rfl) rfl ?_
  refine At.yl (Yl.move rfl) rfl ?_
  refine At.yl (Yl.move rfl) rfl ?_
  refine At.yl (Yl.move rfl) rfl ?_
  refine At.yl (Yl.andNotU rfl rfl) rfl ?_
  refine At.yl (Yl.xorU rfl rfl) rfl ?_
  refine At.yl (Yl.nilCheck rfl) rfl ?_
  refine At.yl (Yl.indexArr Tryd.underlying52 info48 bq48 rfl rfl rfl (by decide)) rfl ?_
  refine At.efS (Ef.lane info48 bq48 hb rfl hoff rfl rfl) ?_
  refine At.nil (At.nmThen ?_)
  refine At.weaken (L' := [(0, _), (15, _), (4, _), (5, _), (6, _), (7, _), (8, _), (9, _), (10, _), (11, _), (12, _), (13, _), (14, _)]) (.cons rfl (.cons rfl (.cons rfl (.cons rfl (.cons rfl (.cons rfl (.cons rfl (.cons rfl (.cons rfl (.cons rfl (.cons rfl (.cons rfl (.cons rfl (.nil)))))))))))))) ?_
  refine At.seq ?_
  refine (At.region ?_)
  refine At.yl (Yl.move rfl) rfl ?_
  refine At.yl (Yl.move rfl) rfl ?_
  refine At.yl (Yl.move rfl) rfl ?_
  refine At.yl (Yl.move rfl) rfl ?_
  refine At.yl (Yl.andNotU rfl rfl) rfl ?_
  refine At.yl (Yl.xorU rfl rfl) rfl ?_
  refine At.yl (Yl.nilCheck rfl) rfl ?_
  refine At.yl (Yl.indexArr Tryd.underlying52 info48 bq48 rfl rfl rfl (by decide)) rfl ?_
  refine At.efS (Ef.lane info48 bq48 hb rfl hoff rfl rfl) ?_
  refine At.nil (At.nmThen ?_)
  refine At.weaken (L' := [(0, _), (15, _), (4, _), (5, _), (6, _), (7, _), (8, _), (9, _), (10, _), (11, _), (12, _), (13, _), (14, _)]) (.cons rfl (.cons rfl (.cons rfl (.cons rfl (.cons rfl (.cons rfl (.cons rfl (.cons rfl (.cons rfl (.cons rfl (.cons rfl (.cons rfl (.cons rfl (.nil)))))))))))))) ?_
  refine At.seq ?_
  refine (At.region ?_)
  refine At.yl (Yl.move rfl) rfl ?_
  refine At.yl (Yl.move rfl) rfl ?_
  refine At.yl (Yl.move rfl) rfl ?_
  refine At.yl (Yl.move rfl) rfl ?_
  refine At.yl (Yl.andNotU rfl rfl) rfl ?_
  refine At.yl (Yl.xorU rfl rfl) rfl ?_
  refine At.yl (Yl.nilCheck rfl) rfl ?_
  refine At.yl (Yl.indexArr Tryd.underlying52 info48 bq48 rfl rfl rfl (by decide)) rfl ?_
  refine At.efS (Ef.lane info48 bq48 hb rfl hoff rfl rfl) ?_
  refine At.nil (At.nmThen ?_)
  refine At.weaken (L' := [(0, _), (15, _), (4, _), (5, _), (6, _), (7, _), (8, _), (9, _), (10, _), (11, _), (12, _), (13, _), (14, _)]) (.cons rfl (.cons rfl (.cons rfl (.cons rfl (.cons rfl (.cons rfl (.cons rfl (.cons rfl (.cons rfl (.cons rfl (.cons rfl (.cons rfl (.cons rfl (.nil)))))))))))))) ?_
  refine At.seq ?_
  refine (At.region ?_)
  refine At.yl (Yl.move rfl) rfl ?_
  refine At.yl (Yl.move rfl) rfl ?_
  refine At.yl (Yl.move rfl) rfl ?_
  refine At.yl (Yl.move rfl) rfl ?_
  refine At.yl (Yl.andNotU rfl rfl) rfl ?_
  refine At.yl (Yl.xorU rfl rfl) rfl ?_
  refine At.yl (Yl.nilCheck rfl) rfl ?_
  refine At.yl (Yl.indexArr Tryd.underlying52 info48 bq48 rfl rfl rfl (by decide)) rfl ?_
  refine At.efS (Ef.lane info48 bq48 hb rfl hoff rfl rfl) ?_
  refine At.nil (At.nmThen ?_)
  refine At.weaken (L' := [(0, _), (15, _), (4, _), (5, _), (6, _), (7, _), (8, _), (9, _), (10, _), (11, _), (12, _), (13, _), (14, _)]) (.cons rfl (.cons rfl (.cons rfl (.cons rfl (.cons rfl (.cons rfl (.cons rfl (.cons rfl (.cons rfl (.cons rfl (.cons rfl (.cons rfl (.cons rfl (.nil)))))))))))))) ?_
  refine At.seq ?_
  refine (At.region ?_)
  refine At.yl (Yl.move rfl) rfl ?_
  refine At.yl (Yl.nilCheck rfl) rfl ?_
  refine At.yl (Yl.indexArr Tryd.underlying52 info48 bq48 rfl rfl rfl (by decide)) rfl ?_
  refine At.yl (Yl.lane (v := s 20) Tryd.underlying48 rfl hb rfl hoff rfl rfl) rfl ?_
  refine At.yl (Yl.move rfl) rfl ?_
  refine At.yl (Yl.xorU rfl rfl) rfl ?_
  refine At.yl (Yl.assign rfl) rfl ?_
  refine At.nil (At.nmThen ?_)
  refine At.weaken (L' := [(0, _), (15, _), (4, _), (5, _), (6, _), (7, _), (8, _), (9, _), (10, _), (11, _), (12, _), (13, _), (14, _)]) (.cons rfl (.cons rfl (.cons rfl (.cons rfl (.cons rfl (.cons rfl (.cons rfl (.cons rfl (.cons rfl (.cons rfl (.cons rfl (.cons rfl (.cons rfl (.nil)))))))))))))) ?_
  refine At.seq ?_
  refine (At.region ?_)
  refine At.yl (Yl.move rfl) rfl ?_
  refine At.yl (Yl.shlU (m := 36) rfl rfl rfl) rfl ?_
  refine At.yl (Yl.move rfl) rfl ?_
  refine At.yl (Yl.shrU (m := 28) rfl rfl rfl) rfl ?_
  refine At.yl (Yl.orU rfl rfl) rfl ?_
  refine At.yl (Yl.assign rfl) rfl ?_
  refine At.nil (At.nmThen ?_)
  refine At.weaken (L' := [(0, _), (15, _), (4, _), (5, _), (6, _), (7, _), (8, _), (9, _), (10, _), (11, _), (12, _), (13, _), (14, _)]) (.cons rfl (.cons rfl (.cons rfl (.cons rfl (.cons rfl (.cons rfl (.cons rfl (.cons rfl (.cons rfl (.cons rfl (.cons rfl (.cons rfl (.cons rfl (.nil)))))))))))))) ?_
  refine At.seq ?_
  refine (At.region ?_)
  refine At.yl (Yl.move rfl) rfl ?_
  refine At.yl (Yl.nilCheck rfl) rfl ?_
  refine At.yl (Yl.indexArr Tryd.underlying52 info48 bq48 rfl rfl rfl (by decide)) rfl ?_
  refine At.yl (Yl.lane (v := s 6) Tryd.underlying48 rfl hb rfl hoff rfl rfl) rfl ?_
  refine At.yl (Yl.move rfl) rfl ?_
  refine At.yl (Yl.xorU rfl rfl) rfl ?_
  refine At.yl (Yl.assign rfl) rfl ?_
  refine At.nil (At.nmThen ?_)
  refine At.weaken (L' := [(0, _), (15, _), (4, _), (5, _), (6, _), (7, _), (8, _), (9, _), (10, _), (11, _), (12, _), (13, _), (14, _)]) (.cons rfl (.cons rfl (.cons rfl (.cons rfl (.cons rfl (.cons rfl (.cons rfl (.cons rfl (.cons rfl (.cons rfl (.cons rfl (.cons rfl (.cons rfl (.nil)))))))))))))) ?_
  refine At.seq ?_
  refine (At.region ?_)
  refine At.yl (Yl.move rfl) rfl ?_
  refine At.yl (Yl.shlU (m := 10) rfl rfl rfl) rfl ?_
  refine At.yl (Yl.move rfl) rfl ?_
  refine At.yl (Yl.shrU (m := 54) rfl rfl rfl) rfl ?_
  refine At.yl (Yl.orU rfl rfl) rfl ?_
  refine At.yl (Yl.assign rfl) rfl ?_
  refine At.nil (At.nmThen ?_)
  refine At.weaken (L' := [(0, _), (15, _), (4, _), (5, _), (6, _), (7, _), (8, _), (9, _), (10, _), (11, _), (12, _), (13, _), (14, _)]) (.cons rfl (.cons rfl (.cons rfl (.cons rfl (.cons rfl (.cons rfl (.cons rfl (.cons rfl (.cons rfl (.cons rfl (.cons rfl (.cons rfl (.cons rfl (.nil)))))))))))))) ?_
  refine At.seq ?_
  refine (At.region ?_)
  refine At.yl (Yl.move rfl) rfl ?_
  refine At.yl (Yl.nilCheck rfl) rfl ?_
  refine At.yl (Yl.indexArr Tryd.underlying52 info48 bq48 rfl rfl rfl (by decide)) rfl ?_
  refine At.yl (Yl.lane (v := s 17) Tryd.underlying48 rfl hb rfl hoff rfl rfl) rfl ?_
  refine At.yl (Yl.move rfl) rfl ?_
  refine At.yl (Yl.xorU rfl rfl) rfl ?_
  refine At.yl (Yl.assign rfl) rfl ?_
  refine At.nil (At.nmThen ?_)
  refine At.weaken (L' := [(0, _), (15, _), (4, _), (5, _), (6, _), (7, _), (8, _), (9, _), (10, _), (11, _), (12, _), (13, _), (14, _)]) (.cons rfl (.cons rfl (.cons rfl (.cons rfl (.cons rfl (.cons rfl (.cons rfl (.cons rfl (.cons rfl (.cons rfl (.cons rfl (.cons rfl (.cons rfl (.nil)))))))))))))) ?_
  refine At.seq ?_
  refine (At.region ?_)
  refine At.yl (Yl.move rfl) rfl ?_
  refine At.yl (Yl.shlU (m := 15) rfl rfl rfl) rfl ?_
  refine At.yl (Yl.move rfl) rfl ?_
  refine At.yl (Yl.shrU (m := 49) rfl rfl rfl) rfl ?_
  refine At.yl (Yl.orU rfl rfl) rfl ?_
  refine At.yl (Yl.assign rfl) rfl ?_
  refine At.nil (At.nmThen ?_)
  refine At.weaken (L' := [(0, _), (15, _), (4, _), (5, _), (6, _), (7, _), (8, _), (9, _), (10, _), (11, _), (12, _), (13, _), (14, _)]) (.cons rfl (.cons rfl (.cons rfl (.cons rfl (.cons rfl (.cons rfl (.cons rfl (.cons rfl (.cons rfl (.cons rfl (.cons rfl (.cons rfl (.cons rfl (.nil)))))))))))))) ?_
  refine At.seq ?_
  refine (At.region ?_)
  refine At.yl (Yl.move rfl) rfl ?_
  refine At.yl (Yl.nilCheck rfl) rfl ?_
  refine At.yl (Yl.indexArr Tryd.underlying52 info48 bq48 rfl rfl rfl (by decide)) rfl ?_
  refine At.yl (Yl.lane (v := s 3) Tryd.underlying48 rfl hb rfl hoff rfl rfl) rfl ?_
  refine At.yl (Yl.move rfl) rfl ?_
  refine At.yl (Yl.xorU rfl rfl) rfl ?_
  refine At.yl (Yl.assign rfl) rfl ?_
  refine At.nil (At.nmThen ?_)
  refine At.weaken (L' := [(0, _), (15, _), (4, _), (5, _), (6, _), (7, _), (8, _), (9, _), (10, _), (11, _), (12, _), (13, _), (14, _)]) (.cons rfl (.cons rfl (.cons rfl (.cons rfl (.cons rfl (.cons rfl (.cons rfl (.cons rfl (.cons rfl (.cons rfl (.cons rfl (.cons rfl (.cons rfl (.nil)))))))))))))) ?_
  refine At.seq ?_
  refine (At.region ?_)
  refine At.yl (Yl.move rfl) rfl ?_
  refine At.yl (Yl.shlU (m := 56) rfl rfl rfl) rfl ?_
  refine At.yl (Yl.move rfl) rfl ?_
  refine At.yl (Yl.shrU (m := 8) rfl rfl rfl) rfl ?_
  refine At.yl (Yl.orU rfl rfl) rfl ?_
  refine At.yl (Yl.assign rfl) rfl ?_
  refine At.nil (At.nmThen ?_)
  refine At.weaken (L' := [(0, _), (15, _), (4, _), (5, _), (6, _), (7, _), (8, _), (9, _), (10, _), (11, _), (12, _), (13, _), (14, _)]) (.cons rfl (.cons rfl (.cons rfl (.cons rfl (.cons rfl (.cons rfl (.cons rfl (.cons rfl (.cons rfl (.cons rfl (.cons rfl (.cons rfl (.cons rfl (.nil)))))))))))))) ?_
  refine At.seq ?_
  refine (At.region ?_)
  refine At.yl (Yl.move rfl) rfl ?_
  refine At.yl (Yl.nilCheck rfl) rfl ?_
  refine At.yl (Yl.indexArr Tryd.underlying52 info48 bq48 rfl rfl rfl (by decide)) rfl ?_
  refine At.yl (Yl.lane (v := s 14) Tryd.underlying48 rfl hb rfl hoff rfl rfl) rfl ?_
  refine At.yl (Yl.move rfl) rfl ?_
  refine At.yl (Yl.xorU rfl rfl) rfl ?_
  refine At.yl (Yl.assign rfl) rfl ?_
  refine At.nil (At.nmThen ?_)
  refine At.weaken (L' := [(0, _), (15, _), (4, _), (5, _), (6, _), (7, _), (8, _), (9, _), (10, _), (11, _), (12, _), (13, _), (14, _)]) (.cons rfl (.cons rfl (.cons rfl (.cons rfl (.cons rfl (.cons rfl (.cons rfl (.cons rfl (.cons rfl (.cons rfl (.cons rfl (.cons rfl (.cons rfl (.nil)))))))))))))) ?_
  refine At.seq ?_
  refine (At.region ?_)
  refine At.yl (Yl.move rfl) rfl ?_
  refine At.yl (Yl.shlU (m := 27) rfl rfl rfl) rfl ?_
  refine At.yl (Yl.move rfl) rfl ?_
  refine At.yl (Yl.shrU (m := 37) rfl rfl rfl) rfl ?_
  refine At.yl (Yl.orU rfl rfl) rfl ?_
  refine At.yl (Yl.assign rfl) rfl ?_
  refine At.nil (At.nmThen ?_)
  refine At.weaken (L' := [(0, _), (15, _), (4, _), (5, _), (6, _), (7, _), (8, _), (9, _), (10, _), (11, _), (12, _), (13, _), (14, _)]) (.cons rfl (.cons rfl (.cons rfl (.cons rfl (.cons rfl (.cons rfl (.cons rfl (.cons rfl (.cons rfl (.cons rfl (.cons rfl (.cons rfl (.cons rfl (.nil)))))))))))))) ?_
  refine At.seq ?_
  refine (At.region ?_)
  refine At.yl (Yl.move rfl) rfl ?_
  refine At.yl (Yl.move rfl) rfl ?_
  refine At.yl (Yl.move rfl) rfl ?_
  refine At.yl (Yl.move rfl) rfl ?_
  refine At.yl (Yl.andNotU rfl rfl) rfl ?_
  refine At.yl (Yl.xorU rfl rfl) rfl ?_
  refine At.yl (Yl.nilCheck rfl) rfl ?_
  refine At.yl (Yl.indexArr Tryd.underlying52 info48 bq48 rfl rfl rfl (by decide)) rfl ?_
  refine At.efS (Ef.lane info48 bq48 hb rfl hoff rfl rfl) ?_
  refine At.nil (At.nmThen ?_)
  refine At.weaken (L' := [(0, _), (15, _), (4, _), (5, _), (6, _), (7, _), (8, _), (9, _), (10, _), (11, _), (12, _), (13, _), (14, _)]) (.cons rfl (.cons rfl (.cons rfl (.cons rfl (.cons rfl (.cons rfl (.cons rfl (.cons rfl (.cons rfl (.cons rfl (.cons rfl (.cons rfl (.cons rfl (.nil)))))))))))))) ?_
  refine At.seq ?_
  refine (At.region ?_)
  refine At.yl (Yl.move rfl) rfl ?_
  refine At.yl (Yl.move rfl) rfl ?_
  refine At.yl (Yl.move rfl) rfl ?_
  refine At.yl (Yl.move rfl) rfl ?_
  refine At.yl (Yl.andNotU rfl rfl) rfl ?_
  refine At.yl (Yl.xorU rfl rfl) rfl ?_
  refine At.yl (Yl.nilCheck rfl) rfl ?_
  refine At.yl (Yl.indexArr Tryd.underlying52 info48 bq48 rfl rfl rfl (by decide)) rfl ?_
  refine At.efS (Ef.lane info48 bq48 hb rfl hoff rfl rfl) ?_
  refine At.nil (At.nmThen ?_)
  refine At.weaken (L' := [(0, _), (15, _), (4, _), (5, _), (6, _), (7, _), (8, _), (9, _), (10, _), (11, _), (12, _), (13, _), (14, _)]) (.cons rfl (.cons rfl (.cons rfl (.cons rfl (.cons rfl (.cons rfl (.cons rfl (.cons rfl (.cons rfl (.cons rfl (.cons rfl (.cons rfl (.cons rfl (.nil)))))))))))))) ?_
  refine At.seq ?_
  refine (At.region ?_)
  refine At.yl (Yl.move rfl) rfl ?_
  refine At.yl (Yl.move rfl) rfl ?_
  refine At.yl (Yl.move rfl) rfl ?_
  refine At.yl (Yl.move rfl) rfl ?_
  refine At.yl (Yl.andNotU rfl rfl) rfl ?_
  refine At.yl (Yl.xorU rfl rfl) rfl ?_
  refine At.yl (Yl.nilCheck rfl) rfl ?_
  refine At.yl (Yl.indexArr Tryd.underlying52 info48 bq48 rfl rfl rfl (by decide)) rfl ?_
  refine At.efS (Ef.lane info48 bq48 hb rfl hoff rfl rfl) ?_
  refine At.nil (At.nmThen ?_)
  refine At.weaken (L' := [(0, _), (15, _), (4, _), (5, _), (6, _), (7, _), (8, _), (9, _), (10, _), (11, _), (12, _), (13, _), (14, _)]) (.cons rfl (.cons rfl (.cons rfl (.cons rfl (.cons rfl (.cons rfl (.cons rfl (.cons rfl (.cons rfl (.cons rfl (.cons rfl (.cons rfl (.cons rfl (.nil)))))))))))))) ?_
  refine At.seq ?_
  refine (At.region ?_)
  refine At.yl (Yl.move rfl) rfl ?_
  refine At.yl (Yl.move rfl) rfl ?_
  refine At.yl (Yl.move rfl) rfl ?_
  refine At.yl (Yl.move rfl) rfl ?_
  refine At.yl (Yl.andNotU rfl rfl) rfl ?_
  refine At.yl (Yl.xorU rfl rfl) rfl ?_
  refine At.yl (Yl.nilCheck rfl) rfl ?_
  refine At.yl (Yl.indexArr Tryd.underlying52 info48 bq48 rfl rfl rfl (by decide)) rfl ?_
  refine At.efS (Ef.lane info48 bq48 hb rfl hoff rfl rfl) ?_
  refine At.nil (At.nmThen ?_)
  refine At.weaken (L' := [(0, _), (15, _), (4, _), (5, _), (6, _), (7, _), (8, _), (9, _), (10, _), (11, _), (12, _), (13, _), (14, _)]) (.cons rfl (.cons rfl (.cons rfl (.cons rfl (.cons rfl (.cons rfl (.cons rfl (.cons rfl (.cons rfl (.cons rfl (.cons rfl (.cons rfl (.cons rfl (.nil)))))))))))))) ?_
  refine At.seq ?_
  refine (At.region ?_)
  refine At.yl (Yl.move rfl) rfl ?_
  refine At.yl (Yl.move rfl) rfl ?_
  refine At.yl (Yl.move rfl) rfl ?_
  refine At.yl (Yl.move rfl) rfl ?_
  refine At.yl (Yl.andNotU rfl rfl) rfl ?_
  refine At.yl (Yl.xorU rfl rfl) rfl ?_
  refine At.yl (Yl.nilCheck rfl) rfl ?_
  refine At.yl (Yl.indexArr Tryd.underlying52 info48 bq48 rfl rfl rfl (by decide)) rfl ?_
  refine At.efS (Ef.lane info48 bq48 hb rfl hoff rfl rfl) ?_
  refine At.nil (At.nmThen ?_)
  refine At.weaken (L' := [(0, _), (15, _), (4, _), (5, _), (6, _), (7, _), (8, _), (9, _), (10, _), (11, _), (12, _), (13, _), (14, _)]) (.cons rfl (.cons rfl (.cons rfl (.cons rfl (.cons rfl (.cons rfl (.cons rfl (.cons rfl (.cons rfl (.cons rfl (.cons rfl (.cons rfl (.cons rfl (.nil)))))))))))))) ?_
  refine At.seq ?_
  refine (At.region ?_)
  refine At.yl (Yl.move rfl) rfl ?_
  refine At.yl (Yl.nilCheck rfl) rfl ?_
  refine At.yl (Yl.indexArr Tryd.underlying52 info48 bq48 rfl rfl rfl (by decide)) rfl ?_
  refine At.yl (Yl.lane (v := s 10) Tryd.underlying48 rfl hb rfl hoff rfl rfl) rfl ?_
  refine At.yl (Yl.move rfl) rfl ?_
  refine At.yl (Yl.xorU rfl rfl) rfl ?_
  refine At.yl (Yl.assign rfl) rfl ?_
  refine At.nil (At.nmThen ?_)
  refine At.weaken (L' := [(0, _), (15, _), (4, _), (5, _), (6, _), (7, _), (8, _), (9, _), (10, _), (11, _), (12, _), (13, _), (14, _)]) (.cons rfl (.cons rfl (.cons rfl (.cons rfl (.cons rfl (.cons rfl (.cons rfl (.cons rfl (.cons rfl (.cons rfl (.cons rfl (.cons rfl (.cons rfl (.nil)))))))))))))) ?_
  refine At.seq ?_
  refine (At.region ?_)
  refine At.yl (Yl.move rfl) rfl ?_
  refine At.yl (Yl.shlU (m := 41) rfl rfl rfl) rfl ?_
  refine At.yl (Yl.move rfl) rfl ?_
  refine At.yl (Yl.shrU (m := 23) rfl rfl rfl) rfl ?_
  refine At.yl (Yl.orU rfl rfl) rfl ?_
  refine At.yl (Yl.assign rfl) rfl ?_
  refine At.nil (At.nmThen ?_)
  refine At.weaken (L' := [(0, _), (15, _), (4, _), (5, _), (6, _), (7, _), (8, _), (9, _), (10, _), (11, _), (12, _), (13, _), (14, _)]) (.cons rfl (.cons rfl (.cons rfl (.cons rfl (.cons rfl (.cons rfl (.cons rfl (.cons rfl (.cons rfl (.cons rfl (.cons rfl (.cons rfl (.cons rfl (.nil)))))))))))))) ?_
  refine At.seq ?_
  refine (At.region ?_)
  refine At.yl (Yl.move rfl) rfl ?_
  refine At.yl (Yl.nilCheck rfl) rfl ?_
  refine At.yl (Yl.indexArr Tryd.underlying52 info48 bq48 rfl rfl rfl (by decide)) rfl ?_
  refine At.yl (Yl.lane (v := s 21) Tryd.underlying48 rfl hb rfl hoff rfl rfl) rfl ?_
  refine At.yl (Yl.move rfl) rfl ?_
  refine At.yl (Yl.xorU rfl rfl) rfl ?_
  refine At.yl (Yl.assign rfl) rfl ?_
  refine At.nil (At.nmThen ?_)
  refine At.weaken (L' := [(0, _), (15, _), (4, _), (5, _), (6, _), (7, _), (8, _), (9, _), (10, _), (11, _), (12, _), (13, _), (14, _)]) (.cons rfl (.cons rfl (.cons rfl (.cons rfl (.cons rfl (.cons rfl (.cons rfl (.cons rfl (.cons rfl (.cons rfl (.cons rfl (.cons rfl (.cons rfl (.nil)))))))))))))) ?_
  refine At.seq ?_
  refine (At.region ?_)
  refine At.yl (Yl.move rfl) rfl ?_
  refine At.yl (Yl.shlU (m := 2) rfl rfl rfl) rfl ?_
  refine At.yl (Yl.move rfl) rfl ?_
  refine At.yl (Yl.shrU (m := 62) rfl rfl rfl) rfl ?_
  refine At.yl (Yl.orU rfl rfl) rfl ?_
  refine At.yl (Yl.assign rfl) rfl ?_
  refine At.nil (At.nmThen ?_)
  refine At.weaken (L' := [(0, _), (15, _), (4, _), (5, _), (6, _), (7, _), (8, _), (9, _), (10, _), (11, _), (12, _), (13, _), (14, _)]) (.cons rfl (.cons rfl (.cons rfl (.cons rfl (.cons rfl (.cons rfl (.cons rfl (.cons rfl (.cons rfl (.cons rfl (.cons rfl (.cons rfl (.cons rfl (.nil)))))))))))))) ?_
  refine At.seq ?_
  refine (At.region ?_)
  refine At.yl (Yl.move rfl) rfl ?_
  refine At.yl (Yl.nilCheck rfl) rfl ?_
  refine At.yl (Yl.indexArr Tryd.underlying52 info48 bq48 rfl rfl rfl (by decide)) rfl ?_
  refine At.yl (Yl.lane (v := s 7) Tryd.underlying48 rfl hb rfl hoff rfl rfl) rfl ?_
  refine At.yl (Yl.move rfl) rfl ?_
  refine At.yl (Yl.xorU rfl rfl) rfl ?_
  refine At.yl (Yl.assign rfl) rfl ?_
  refine At.nil (At.nmThen ?_)
  refine At.weaken (L' := [(0, _), (15, _), (4, _), (5, _), (6, _), (7, _), (8, _), (9, _), (10, _), (11, _), (12, _), (13, _), (14, _)]) (.cons rfl (.cons rfl (.cons rfl (.cons rfl (.cons rfl (.cons rfl (.cons rfl (.cons rfl (.cons rfl (.cons rfl (.cons rfl (.cons rfl (.cons rfl (.nil)))))))))))))) ?_
  refine At.seq ?_
  refine (At.region ?_)
  refine At.yl (Yl.move rfl) rfl ?_
  refine At.yl (Yl.shlU (m := 62) rfl rfl rfl) rfl ?_
  refine At.yl (Yl.move rfl) rfl ?_
  refine At.yl (Yl.shrU (m := 2) rfl rfl rfl) rfl ?_
  refine At.yl (Yl.orU rfl rfl) rfl ?_
  refine At.yl (Yl.assign rfl) rfl ?_
  refine At.nil (At.nmThen ?_)
  refine At.weaken (L' := [(0, _), (15, _), (4, _), (5, _), (6, _), (7, _), (8, _), (9, _), (10, _), (11, _), (12, _), (13, _), (14, _)]) (.cons rfl (.cons rfl (.cons rfl (.cons rfl (.cons rfl (.cons rfl (.cons rfl (.cons rfl (.cons rfl (.cons rfl (.cons rfl (.cons rfl (.cons rfl (.nil)))))))))))))) ?_
  refine At.seq ?_
  refine (At.region ?_)
  refine At.yl (Yl.move rfl) rfl ?_
  refine At.yl (Yl.nilCheck rfl) rfl ?_
  refine At.yl (Yl.indexArr Tryd.underlying52 info48 bq48 rfl rfl rfl (by decide)) rfl ?_
  refine At.yl (Yl.lane (v := s 18) Tryd.underlying48 rfl hb rfl hoff rfl rfl) rfl ?_
  refine At.yl (Yl.move rfl) rfl ?_
  refine At.yl (Yl.xorU rfl rfl) rfl ?_
  refine At.yl (Yl.assign rfl) rfl ?_
  refine At.nil (At.nmThen ?_)
  refine At.weaken (L' := [(0, _), (15, _), (4, _), (5, _), (6, _), (7, _), (8, _), (9, _), (10, _), (11, _), (12, _), (13, _), (14, _)]) (.cons rfl (.cons rfl (.cons rfl (.cons rfl (.cons rfl (.cons rfl (.cons rfl (.cons rfl (.cons rfl (.cons rfl (.cons rfl (.cons rfl (.cons rfl (.nil)))))))))))))) ?_
  refine At.seq ?_
  refine (At.region ?_)
  refine At.yl (Yl.move rfl) rfl ?_
  refine At.yl (Yl.shlU (m := 55) rfl rfl rfl) rfl ?_
  refine At.yl (Yl.move rfl) rfl ?_
  refine At.yl (Yl.shrU (m := 9) rfl rfl rfl) rfl ?_
  refine At.yl (Yl.orU rfl rfl) rfl ?_
  refine At.yl (Yl.assign rfl) rfl ?_
  refine At.nil (At.nmThen ?_)
  refine At.weaken (L' := [(0, _), (15, _), (4, _), (5, _), (6, _), (7, _), (8, _), (9, _), (10, _), (11, _), (12, _), (13, _), (14, _)]) (.cons rfl (.cons rfl (.cons rfl (.cons rfl (.cons rfl (.cons rfl (.cons rfl (.cons rfl (.cons rfl (.cons rfl (.cons rfl (.cons rfl (.cons rfl (.nil)))))))))))))) ?_
  refine At.seq ?_
  refine (At.region ?_)
  refine At.yl (Yl.move rfl) rfl ?_
  refine At.yl (Yl.nilCheck rfl) rfl ?_
  refine At.yl (Yl.indexArr Tryd.underlying52 info48 bq48 rfl rfl rfl (by decide)) rfl ?_
  refine At.yl (Yl.lane (v := s 4) Tryd.underlying48 rfl hb rfl hoff rfl rfl) rfl ?_
  refine At.yl (Yl.move rfl) rfl ?_
  refine At.yl (Yl.xorU rfl rfl) rfl ?_
  refine At.yl (Yl.assign rfl) rfl ?_
  refine At.nil (At.nmThen ?_)
  refine At.weaken (L' := [(0, _), (15, _), (4, _), (5, _), (6, _), (7, _), (8, _), (9, _), (10, _), (11, _), (12, _), (13, _), (14, _)]) (.cons rfl (.cons rfl (.cons rfl (.cons rfl (.cons rfl (.cons rfl (.cons rfl (.cons rfl (.cons rfl (.cons rfl (.cons rfl (.cons rfl (.cons rfl (.nil)))))))))))))) ?_
  refine At.seq ?_
  refine (At.region ?_)
  refine At.yl (Yl.move rfl) rfl ?_
  refine At.yl (Yl.shlU (m := 39) rfl rfl rfl) rfl ?_
  refine At.yl (Yl.move rfl) rfl ?_
  refine At.yl (Yl.shrU (m := 25) rfl rfl rfl) rfl ?_
  refine At.yl (Yl.orU rfl rfl) rfl ?_
  refine At.yl (Yl.assign rfl) rfl ?_
  refine At.nil (At.nmThen ?_)
  refine At.weaken (L' := [(0, _), (15, _), (4, _), (5, _), (6, _), (7, _), (8, _), (9, _), (10, _), (11, _), (12, _), (13, _), (14, _)]) (.cons rfl (.cons rfl (.cons rfl (.cons rfl (.cons rfl (.cons rfl (.cons rfl (.cons rfl (.cons rfl (.cons rfl (.cons rfl (.cons rfl (.cons rfl (.nil)))))))))))))) ?_
  refine At.seq ?_
  refine (At.region ?_)
  refine At.yl (Yl.move rfl) rfl ?_
  refine At.yl (Yl.move rfl) rfl ?_
  refine At.yl (Yl.move rfl) rfl ?_
  refine At.yl (Yl.move rfl) rfl ?_
  refine At.yl (Yl.andNotU rfl rfl) rfl ?_
  refine At.yl (Yl.xorU rfl rfl) rfl ?_
  refine At.yl (Yl.nilCheck rfl) rfl ?_
  refine At.yl (Yl.indexArr Tryd.underlying52 info48 bq48 rfl rfl rfl (by decide)) rfl ?_
  refine At.efS (Ef.lane info48 bq48 hb rfl hoff rfl rfl) ?_
  refine At.nil (At.nmThen ?_)
  refine At.weaken (L' := [(0, _), (15, _), (4, _), (5, _), (6, _), (7, _), (8, _), (9, _), (10, _), (11, _), (12, _), (13, _), (14, _)]) (.cons rfl (.cons rfl (.cons rfl (.cons rfl (.cons rfl (.cons rfl (.cons rfl (.cons rfl (.cons rfl (.cons rfl (.cons rfl (.cons rfl (.cons rfl (.nil)))))))))))))) ?_
  refine At.seq ?_
  refine (At.region ?_)
  refine At.yl (Yl.move rfl) rfl ?_
  refine At.yl (Yl.move rfl) rfl ?_
  refine At.yl (Yl.move rfl) rfl ?_
  refine At.yl (Yl.move rfl) rfl ?_
  refine At.yl (Yl.andNotU rfl rfl) rfl ?_
  refine At.yl (Yl.xorU rfl rfl) rfl ?_
  refine At.yl (Yl.nilCheck rfl) rfl ?_
  refine At.yl (Yl.indexArr Tryd.underlying52 info48 bq48 rfl rfl rfl (by decide)) rfl ?_
  refine At.efS (Ef.lane info48 bq48 hb rfl hoff rfl rfl) ?_
  refine At.nil (At.nmThen ?_)
  refine At.weaken (L' := [(0, _), (15, _), (4, _), (5, _), (6, _), (7, _), (8, _), (9, _), (10, _), (11, _), (12, _), (13, _), (14, _)]) (.cons rfl (.cons rfl (.cons rfl (.cons rfl (.cons rfl (.cons rfl (.cons rfl (.cons rfl (.cons rfl (.cons rfl (.cons rfl (.cons rfl (.cons rfl (.nil)))))))))))))) ?_
  refine At.seq ?_
  refine (At.region ?_)
  refine At.yl (Yl.move rfl) rfl ?_
  refine At.yl (Yl.move rfl) rfl ?_
  refine At.yl (Yl.move rfl) rfl ?_
  refine At.yl (Yl.move rfl) rfl ?_
  refine At.yl (Yl.andNotU rfl rfl) rfl ?_
  refine At.yl (Yl.xorU rfl rfl) rfl ?_
  refine At.yl (Yl.nilCheck rfl) rfl ?_
  refine At.yl (Yl.indexArr Tryd.underlying52 info48 bq48 rfl rfl rfl (by decide)) rfl ?_
  refine At.efS (Ef.lane info48 bq48 hb rfl hoff rfl rfl) ?_
  refine At.nil (At.nmThen ?_)
  refine At.weaken (L' := [(0, _), (15, _), (4, _), (5, _), (6, _), (7, _), (8, _), (9, _), (10, _), (11, _), (12, _), (13, _), (14, _)]) (.cons rfl (.cons rfl (.cons rfl (.cons rfl (.cons rfl (.cons rfl (.cons rfl (.cons rfl (.cons rfl (.cons rfl (.cons rfl (.cons rfl (.cons rfl (.nil)))))))))))))) ?_
  refine At.seq ?_
  refine (At.region ?_)
  refine At.yl (Yl.move rfl) rfl ?_
  refine At.yl (Yl.move rfl) rfl ?_
  refine At.yl (Yl.move rfl) rfl ?_
  refine At.yl (Yl.move rfl) rfl ?_
  refine At.yl (Yl.andNotU rfl rfl) rfl ?_
  refine At.yl (Yl.xorU rfl rfl) rfl ?_
  refine At.yl (Yl.nilCheck rfl) rfl ?_
  refine At.yl (Yl.indexArr Tryd.underlying52 info48 bq48 rfl rfl rfl (by decide)) rfl ?_
  refine At.efS (Ef.lane info48 bq48 hb rfl hoff rfl rfl) ?_
  refine At.nil (At.nmThen ?_)
  refine At.weaken (L' := [(0, _), (15, _), (4, _), (5, _), (6, _), (7, _), (8, _), (9, _), (10, _), (11, _), (12, _), (13, _), (14, _)]) (.cons rfl (.cons rfl (.cons rfl (.cons rfl (.cons rfl (.cons rfl (.cons rfl (.cons rfl (.cons rfl (.cons rfl (.cons rfl (.cons rfl (.cons rfl (.nil)))))))))))))) ?_
  refine At.seq ?_
  refine (At.region ?_)
  refine At.yl (Yl.move rfl) rfl ?_
  refine At.yl (Yl.move rfl) rfl ?_
  refine At.yl (Yl.move rfl) rfl ?_
  refine At.yl (Yl.move rfl) rfl ?_
  refine At.yl (Yl.andNotU rfl rfl) rfl ?_
  refine At.yl (Yl.xorU rfl rfl) rfl ?_
  refine At.yl (Yl.nilCheck rfl) rfl ?_
  refine At.yl (Yl.indexArr Tryd.underlying52 info48 bq48 rfl rfl rfl (by decide)) rfl ?_
  refine At.efS (Ef.lane info48 bq48 hb rfl hoff rfl rfl) ?_
  refine At.nil (At.nmThen ?_)
  refine At.weaken (L' := [(0, _), (15, _)]) (.cons rfl (.cons rfl (.nil))) ?_
  refine k _ (fun j hj => ?_)
  match j, hj with
  | 0, _ => rfl
  | 1, _ => rfl
  | 2, _ => rfl
  | 3, _ => rfl
  | 4, _ => rfl
  | 5, _ => rfl
  | 6, _ => rfl
  | 7, _ => rfl
  | 8, _ => rfl
  | 9, _ => rfl
  | 10, _ => rfl
  | 11, _ => rfl
  | 12, _ => rfl
  | 13, _ => rfl
  | 14, _ => rfl
  | 15, _ => rfl
  | 16, _ => rfl
  | 17, _ => rfl
  | 18, _ => rfl
  | 19, _ => rfl
  | 20, _ => rfl
  | 21, _ => rfl
  | 22, _ => rfl
  | 23, _ => rfl
  | 24, _ => rfl
  | j + 25, h => exact absurd h (by omega)

set_option maxRecDepth 10000 in
set_option maxHeartbeats 4000000 in
theorem kf_round3 (hb : b < H.size) (hoff : off = pre.length) (hg : H[1]? = some (.cells (arrU 24 rcs) T' fz)) (hne : b ≠ 1) (hQ : QP Q) (i : Nat) (hi : i + 3 < 24) (s : Nat → BitVec 64)
    (k : ∀ s' : Nat → BitVec 64, (∀ j, j < 25 → s' (([0, 1, 2, 3, 4, 5, 6, 7, 8, 9, 10, 11, 12, 13, 14, 15, 16, 17, 18, 19, 20, 21, 22, 23, 24] : List Nat).getD j 0) = rndC (rcs (i + 3)) (colP s) (fun j => s (([0, 11, 22, 8, 19, 15, 1, 12, 23, 9, 5, 16, 2, 13, 24, 20, 6, 17, 3, 14, 10, 21, 7, 18, 4] : List Nat).getD j 0)) j) → At w0 2540 [(0, ptr b off), (15, I i)] (HH H b pre post T s') (Q .normal)) :
    At w0 2540 [(0, ptr b off), (15, I i)] (HH H b pre post T s) (Code.wp Tryd.prog (seqTail 252 kfBody) Q) := by
  refine At.seq ?_
  refine (At.draws 24 (ordFrom 0 24) rfl (by decide +kernel) (QP.thn hQ) ?_)
  refine At.ordY (Sub.refl _) rfl (Yl.move rfl) rfl ?_
  refine At.ordY (Sub.refl _) rfl (Yl.nilCheck rfl) rfl ?_
  refine At.ordY (Sub.refl _) rfl (Yl.indexArr Tryd.underlying52 info48 bq48 rfl rfl rfl (by decide)) rfl ?_
  refine At.ordY (Sub.refl _) rfl (Yl.lane (v := s 0) Tryd.underlying48 rfl hb rfl hoff rfl rfl) rfl ?_
  refine At.ordY (Sub.refl _) rfl (Yl.move rfl) rfl ?_
  refine At.ordY (Sub.refl _) rfl (Yl.nilCheck rfl) rfl ?_
  refine At.ordY (Sub.refl _) rfl (Yl.indexArr Tryd.underlying52 info48 bq48 rfl rfl rfl (by decide)) rfl ?_
  refine At.ordY (Sub.refl _) rfl (Yl.lane (v := s 5) Tryd.underlying48 rfl hb rfl hoff rfl rfl) rfl ?_
  refine At.ordY (Sub.refl _) rfl (Yl.xorU rfl rfl) rfl ?_
  refine At.ordY (Sub.refl _) rfl (Yl.move rfl) rfl ?_
  refine At.ordY (Sub.refl _) rfl (Yl.nilCheck rfl) rfl ?_
  refine At.ordY (Sub.refl _) rfl (Yl.indexArr Tryd.underlying52 info48 bq48 rfl rfl rfl (by decide)) rfl ?_
  refine At.ordY (Sub.refl _) rfl (Yl.lane (v := s 10) Tryd.underlying48 rfl hb rfl hoff rfl rfl) rfl ?_
  refine At.ordY (Sub.refl _) rfl (Yl.xorU rfl rfl) rfl ?_
  refine At.ordY (Sub.refl _) rfl (Yl.move rfl) rfl ?_
  refine At.ordY (Sub.refl _) rfl (Yl.nilCheck rfl) rfl ?_
  refine At.ordY (Sub.refl _) rfl (Yl.indexArr Tryd.underlying52 info48 bq48 rfl rfl rfl (by decide)) rfl ?_
  refine At.ordY (Sub.refl _) rfl (Yl.lane (v := s 15) Tryd.underlying48 rfl hb rfl hoff rfl rfl) rfl ?_
  refine At.ordY (Sub.refl _) rfl (Yl.xorU rfl rfl) rfl ?_
  refine At.ordY (Sub.refl _) rfl (Yl.move rfl) rfl ?_
  refine At.ordY (Sub.refl _) rfl (Yl.nilCheck rfl) rfl ?_
  refine At.ordY (Sub.refl _) rfl (Yl.indexArr Tryd.underlying52 info48 bq48 rfl rfl rfl (by decide)) rfl ?_
  refine At.ordY (Sub.refl _) rfl (Yl.lane (v := s 20) Tryd.underlying48 rfl hb rfl hoff rfl rfl) rfl ?_
  refine At.ordY (Sub.refl _) rfl (Yl.xorU rfl rfl) rfl ?_
  refine At.ordNil (Sub.refl _) ?_
  refine At.yl (Yl.assign rfl) rfl ?_
  refine At.nil (At.nmThen ?_)
  refine At.weaken (L' := [(0, _), (15, _), (5, _)]) (.cons rfl (.cons rfl (.cons rfl (.nil)))) ?_
  refine At.seq ?_
  refine (At.draws 24 (ordFrom 0 24) rfl (by decide +kernel) (QP.thn hQ) ?_)
  refine At.ordY (Sub.refl _) rfl (Yl.move rfl) rfl ?_
  refine At.ordY (Sub.refl _) rfl (Yl.nilCheck rfl) rfl ?_
  refine At.ordY (Sub.refl _) rfl (Yl.indexArr Tryd.underlying52 info48 bq48 rfl rfl rfl (by decide)) rfl ?_
  refine At.ordY (Sub.refl _) rfl (Yl.lane (v := s 1) Tryd.underlying48 rfl hb rfl hoff rfl rfl) rfl ?_
  refine At.ordY (Sub.refl _) rfl (Yl.move rfl) rfl ?_
  refine At.ordY (Sub.refl _) rfl (Yl.nilCheck rfl) rfl ?_
  refine At.ordY (Sub.refl _) rfl (Yl.indexArr Tryd.underlying52 info48 bq48 rfl rfl rfl (by decide)) rfl ?_
  refine At.ordY (Sub.refl _) rfl (Yl.lane (v := s 6) Tryd.underlying48 rfl hb rfl hoff rfl rfl) rfl ?_
  refine At.ordY (Sub.refl _) rfl (Yl.xorU rfl rfl) rfl ?_
  refine At.ordY (Sub.refl _) rfl (Yl.move rfl) rfl ?_
  refine At.ordY (Sub.refl _) rfl (Yl.nilCheck rfl) rfl ?_
  refine At.ordY (Sub.refl _) rfl (Yl.indexArr Tryd.underlying52 info48 bq48 rfl rfl rfl (by decide)) rfl ?_
  refine At.ordY (Sub.refl _) rfl (Yl.lane (v := s 11) Tryd.underlying48 rfl hb rfl hoff rfl rfl) rfl ?_
  refine At.ordY (Sub.refl _) rfl (Yl.xorU rfl rfl) rfl ?_
  refine At.ordY (Sub.refl _) rfl (Yl.move rfl) rfl ?_
  refine At.ordY (Sub.refl _) rfl (Yl.nilCheck rfl) rfl ?_
  refine At.ordY (Sub.refl _) rfl (Yl.indexArr Tryd.underlying52 info48 bq48 rfl rfl rfl (by decide)) rfl ?_
  refine At.ordY (Sub.refl _) rfl (Yl.lane (v := s 16) Tryd.underlying48 rfl hb rfl hoff rfl rfl) rfl ?_
  refine At.ordY (Sub.refl _) rfl (Yl.xorU rfl rfl) rfl ?_
  refine At.ordY (Sub.refl _) rfl (Yl.move rfl) rfl ?_
  refine At.ordY (Sub.refl _) rfl (Yl.nilCheck rfl) rfl ?_
  refine At.ordY (Sub.refl _) rfl (Yl.indexArr Tryd.underlying52 info48 bq48 rfl rfl rfl (by decide)) rfl ?_
  refine At.ordY (Sub.refl _) rfl (Yl.lane (v := s 21) Tryd.underlying48 rfl hb rfl hoff rfl rfl) rfl ?_
  refine At.ordY (Sub.refl _) rfl (Yl.xorU rfl rfl) rfl ?_
  refine At.ordNil (Sub.refl _) ?_
  refine At.yl (Yl.assign rfl) rfl ?_
  refine At.nil (At.nmThen ?_)
  refine At.weaken (L' := [(0, _), (15, _), (5, _), (6, _)]) (.cons rfl (.cons rfl (.cons rfl (.cons rfl (.nil))))) ?_
  refine At.seq ?_
  refine (At.draws 24 (ordFrom 0 24) rfl (by decide +kernel) (QP.thn hQ) ?_)
  refine At.ordY (Sub.refl _) rfl (Yl.move rfl) rfl ?_
  refine At.ordY (Sub.refl _) rfl (Yl.nilCheck rfl) rfl ?_
  refine At.ordY (Sub.refl _) rfl (Yl.indexArr Tryd.underlying52 info48 bq48 rfl rfl rfl (by decide)) rfl ?_
  refine At.ordY (Sub.refl _) rfl (Yl.lane (v := s 2) Tryd.underlying48 rfl hb rfl hoff rfl rfl) rfl ?_
  refine At.ordY (Sub.refl _) rfl (Yl.move rfl) rfl ?_
  refine At.ordY (Sub.refl _) rfl (Yl.nilCheck rfl) rfl ?_
  refine At.ordY (Sub.refl _) rfl (Yl.indexArr Tryd.underlying52 info48 bq48 rfl rfl rfl (by decide)) rfl ?_
  refine At.ordY (Sub.refl _) rfl (Yl.lane (v := s 7) Tryd.underlying48 rfl hb rfl hoff rfl rfl) rfl ?_
  refine At.ordY (Sub.refl _) rfl (Yl.xorU rfl rfl) rfl ?_
  refine At.ordY (Sub.refl _) rfl (Yl.move rfl) rfl ?_
  refine At.ordY (Sub.refl _) rfl (Yl.nilCheck rfl) rfl ?_
  refine At.ordY (Sub.refl _) rfl (Yl.indexArr Tryd.underlying52 info48 bq48 rfl rfl rfl (by decide)) rfl ?_
  refine At.ordY (Sub.refl _) rfl (Yl.lane (v := s 12) Tryd.underlying48 rfl hb rfl hoff rfl rfl) rfl ?_
  refine At.ordY (Sub.refl _) rfl (Yl.xorU rfl rfl) rfl ?_
  refine At.ordY (Sub.refl _) rfl (Yl.move rfl) rfl ?_
  refine At.ordY (Sub.refl _) rfl (Yl.nilCheck rfl) rfl ?_
  refine At.ordY (Sub.refl _) rfl (Yl.indexArr Tryd.underlying52 info48 bq48 rfl rfl rfl (by decide)) rfl ?_
  refine At.ordY (Sub.refl _) rfl (Yl.lane (v := s 17) Tryd.underlying48 rfl hb rfl hoff rfl rfl) rfl ?_
  refine At.ordY (Sub.refl _) rfl (Yl.xorU rfl rfl) rfl ?_
  refine At.ordY (Sub.refl _) rfl (Yl.move rfl) rfl ?_
  refine At.ordY (Sub.refl _) rfl (Yl.nilCheck rfl) rfl ?_
  refine At.ordY (Sub.refl _) rfl (Yl.indexArr Tryd.underlying52 info48 bq48 rfl rfl rfl (by decide)) rfl ?_
  refine At.ordY (Sub.refl _) rfl (Yl.lane (v := s 22) Tryd.underlying48 rfl hb rfl hoff rfl rfl) rfl ?_
  refine At.ordY (Sub.refl _) rfl (Yl.xorU rfl rfl) rfl ?_
  refine At.ordNil (Sub.refl _) ?_
  refine At.yl (Yl.assign rfl) rfl ?_
  refine At.nil (At.nmThen ?_)
  refine At.weaken (L' := [(0, _), (15, _), (5, _), (6, _), (7, _)]) (.cons rfl (.cons rfl (.cons rfl (.cons rfl (.cons rfl (.nil)))))) ?_
  refine At.seq ?_
  refine (At.draws 24 (ordFrom 0 24) rfl (by decide +kernel) (QP.thn hQ) ?_)
  refine At.ordY (Sub.refl _) rfl (Yl.move rfl) rfl ?_
  refine At.ordY (Sub.refl _) rfl (Yl.nilCheck rfl) rfl ?_
  refine At.ordY (Sub.refl _) rfl (Yl.indexArr Tryd.underlying52 info48 bq48 rfl rfl rfl (by decide)) rfl ?_
  refine At.ordY (Sub.refl _) rfl (Yl.lane (v := s 3) Tryd.underlying48 rfl hb rfl hoff rfl rfl) rfl ?_
  refine At.ordY (Sub.refl _) rfl (Yl.move rfl) rfl ?_
  refine At.ordY (Sub.refl _) rfl (Yl.nilCheck rfl) rfl ?_
  refine At.ordY (Sub.refl _) rfl (Yl.indexArr Tryd.underlying52 info48 bq48 rfl rfl rfl (by decide)) rfl ?_
  refine At.ordY (Sub.refl _) rfl (Yl.lane (v := s 8) Tryd.underlying48 rfl hb rfl hoff rfl rfl) rfl ?_
  refine At.ordY (Sub.refl _) rfl (Yl.xorU rfl rfl) rfl ?_
  refine At.ordY (Sub.refl _) rfl (Yl.move rfl) rfl ?_
  refine At.ordY (Sub.refl _) rfl (Yl.nilCheck rfl) rfl ?_
  refine At.ordY (Sub.refl _) rfl (Yl.indexArr Tryd.underlying52 info48 bq48 rfl rfl rfl (by decide)) rfl ?_
  refine At.ordY (Sub.refl _) rfl (Yl.lane (v := s 13) Tryd.underlying48 rfl hb rfl hoff rfl rfl) rfl ?_
  refine At.ordY (Sub.refl _) rfl (Yl.xorU rfl rfl) rfl ?_
  refine At.ordY (Sub.refl _) rfl (Yl.move rfl) rfl ?_
  refine At.ordY (Sub.refl _) rfl (Yl.nilCheck rfl) rfl ?_
  refine At.ordY (Sub.refl _) rfl (Yl.indexArr Tryd.underlying52 info48 bq48 rfl rfl rfl (by decide)) rfl ?_
  refine At.ordY (Sub.refl _) rfl (Yl.lane (v := s 18) Tryd.underlying48 rfl hb rfl hoff rfl rfl) rfl ?_
  refine At.ordY (Sub.refl _) rfl (Yl.xorU rfl rfl) rfl ?_
  refine At.ordY (Sub.refl _) rfl (Yl.move rfl) rfl ?_
  refine At.ordY (Sub.refl _) rfl (Yl.nilCheck rfl) rfl ?_
  refine At.ordY (Sub.refl _) rfl (Yl.indexArr Tryd.underlying52 info48 bq48 rfl rfl rfl (by decide)) rfl ?_
  refine At.ordY (Sub.refl _) rfl (Yl.lane (v := s 23) Tryd.underlying48 rfl hb rfl hoff rfl rfl) rfl ?_
  refine At.ordY (Sub.refl _) rfl (Yl.xorU rfl rfl) rfl ?_
  refine At.ordNil (Sub.refl _) ?_
  refine At.yl (Yl.assign rfl) rfl ?_
  refine At.nil (At.nmThen ?_)
  refine At.weaken (L' := [(0, _), (15, _), (5, _), (6, _), (7, _), (8, _)]) (.cons rfl (.cons rfl (.cons rfl (.cons rfl (.cons rfl (.cons rfl (.nil))))))) ?_
  refine At.seq ?_
  refine (At.draws 24 (ordFrom 0 24) rfl (by decide +kernel) (QP.thn hQ) ?_)
  refine At.ordY (Sub.refl _) rfl (Yl.move rfl) rfl ?_
  refine At.ordY (Sub.refl _) rfl (Yl.nilCheck rfl) rfl ?_
  refine At.ordY (Sub.refl _) rfl (Yl.indexArr Tryd.underlying52 info48 bq48 rfl rfl rfl (by decide)) rfl ?_
  refine At.ordY (Sub.refl _) rfl (Yl.lane (v := s 4) Tryd.underlying48 rfl hb rfl hoff rfl rfl) rfl ?_
  refine At.ordY (Sub.refl _) rfl (Yl.move rfl) rfl ?_
  refine At.ordY (Sub.refl _) rfl (Yl.nilCheck rfl) rfl ?_
  refine At.ordY (Sub.refl _) rfl (Yl.indexArr Tryd.underlying52 info48 bq48 rfl rfl rfl (by decide)) rfl ?_
  refine At.ordY (Sub.refl _) rfl (Yl.lane (v := s 9) Tryd.underlying48 rfl hb rfl hoff rfl rfl) rfl ?_
  refine At.ordY (Sub.refl _) rfl (Yl.xorU rfl rfl) rfl ?_
  refine At.ordY (Sub.refl _) rfl (Yl.move rfl) rfl ?_
  refine At.ordY (Sub.refl _) rfl (Yl.nilCheck rfl) rfl ?_
  refine At.ordY (Sub.refl _) rfl (Yl.indexArr Tryd.underlying52 info48 bq48 rfl rfl rfl (by decide)) rfl ?_
  refine At.ordY (Sub.refl _) rfl (Yl.lane (v := s 14) Tryd.underlying48 rfl hb rfl hoff rfl rfl) rfl ?_
  refine At.ordY (Sub.refl _) rfl (Yl.xorU rfl rfl) rfl ?_
  refine At.ordY (Sub.refl _) rfl (Yl.move rfl) rfl ?_
  refine At.ordY (Sub.refl _) rfl (Yl.nilCheck rfl) rfl ?_
  refine At.ordY (Sub.refl _) rfl (Yl.indexArr Tryd.underlying52 info48 bq48 rfl rfl rfl (by decide)) rfl ?_
  refine At.ordY (Sub.refl _) rfl (Yl.lane (v := s 19) Tryd.underlying48 rfl hb rfl hoff rfl rfl) rfl ?_
  refine At.ordY (Sub.refl _) rfl (Yl.xorU rfl rfl) rfl ?_
  refine At.ordY (Sub.refl _) rfl (Yl.move rfl) rfl ?_
  refine At.ordY (Sub.refl _) rfl (Yl.nilCheck rfl) rfl ?_
  refine At.ordY (Sub.refl _) rfl (Yl.indexArr Tryd.underlying52 info48 bq48 rfl rfl rfl (by decide)) rfl ?_
  refine At.ordY (Sub.refl _) rfl (Yl.lane (v := s 24) Tryd.underlying48 rfl hb rfl hoff rfl rfl) rfl ?_
  refine At.ordY (Sub.refl _) rfl (Yl.xorU rfl rfl) rfl ?_
  refine At.ordNil (Sub.refl _) ?_
  refine At.yl (Yl.assign rfl) rfl ?_
  refine At.nil (At.nmThen ?_)
  refine At.weaken (L' := [(0, _), (15, _), (5, _), (6, _), (7, _), (8, _), (9, _)]) (.cons rfl (.cons rfl (.cons rfl (.cons rfl (.cons rfl (.cons rfl (.cons rfl (.nil)))))))) ?_
  refine At.seq ?_
  refine (At.region ?_)
  refine At.yl (Yl.move rfl) rfl ?_
  refine At.yl (Yl.move rfl) rfl ?_
  refine At.yl (Yl.shlU (m := 1) rfl rfl rfl) rfl ?_
  refine At.yl (Yl.move rfl) rfl ?_
  refine At.yl (Yl.shrU (m := 63) rfl rfl rfl) rfl ?_
  refine At.yl (Yl.orU rfl rfl) rfl ?_
  refine At.yl (Yl.xorU rfl rfl) rfl ?_
  refine At.yl (Yl.assign rfl) rfl ?_
  refine At.nil (At.nmThen ?_)
  refine At.weaken (L' := [(0, _), (15, _), (5, _), (6, _), (7, _), (8, _), (9, _), (10, _)]) (.cons rfl (.cons rfl (.cons rfl (.cons rfl (.cons rfl (.cons rfl (.cons rfl (.cons rfl (.nil))))))))) ?_
  refine At.seq ?_
  refine (At.region ?_)
  refine At.yl (Yl.move rfl) rfl ?_
  refine At.yl (Yl.move rfl) rfl ?_
  refine At.yl (Yl.shlU (m := 1) rfl rfl rfl) rfl ?_
  refine At.yl (Yl.move rfl) rfl ?_
  refine At.yl (Yl.shrU (m := 63) rfl rfl rfl) rfl ?_
  refine At.yl (Yl.orU rfl rfl) rfl ?_
  refine At.yl (Yl.xorU rfl rfl) rfl ?_
  refine At.yl (Yl.assign rfl) rfl ?_
  refine At.nil (At.nmThen ?_)
  refine At.weaken (L' := [(0, _), (15, _), (5, _), (6, _), (7, _), (8, _), (9, _), (10, _), (11, _)]) (.cons rfl (.cons rfl (.cons rfl (.cons rfl (.cons rfl (.cons rfl (.cons rfl (.cons rfl (.cons rfl (.nil)))))))))) ?_
  refine At.seq ?_
  refine (At.region ?_)
  refine At.yl (Yl.move rfl) rfl ?_
  refine At.yl (Yl.move rfl) rfl ?_
  refine At.yl (Yl.shlU (m := 1) rfl rfl rfl) rfl ?_
  refine At.yl (Yl.move rfl) rfl ?_
  refine At.yl (Yl.shrU (m := 63) rfl rfl rfl) rfl ?_
  refine At.yl (Yl.orU rfl rfl) rfl ?_
  refine At.yl (Yl.xorU rfl rfl) rfl ?_
  refine At.yl (Yl.assign rfl) rfl ?_
  refine At.nil (At.nmThen ?_)
  refine At.weaken (L' := [(0, _), (15, _), (5, _), (6, _), (7, _), (8, _), (9, _), (10, _), (11, _), (12, _)]) (.cons rfl (.cons rfl (.cons rfl (.cons rfl (.cons rfl (.cons rfl (.cons rfl (.cons rfl (.cons rfl (.cons rfl (.nil))))))))))) ?_
  refine At.seq ?_
  refine (At.region ?_)
  refine At.yl (Yl.move rfl) rfl ?_
  refine At.yl (Yl.move rfl) rfl ?_
  refine At.yl (Yl.shlU (m := 1) rfl rfl rfl) rfl ?_
  refine At.yl (Yl.move rfl) rfl ?_
  refine At.yl (Yl.shrU (m := 63) rfl rfl rfl) rfl ?_
  refine At.yl (Yl.orU rfl rfl) rfl ?_
  refine At.yl (Yl.xorU rfl rfl) rfl ?_
  refine At.yl (Yl.assign rfl) rfl ?_
  refine At.nil (At.nmThen ?_)
  refine At.weaken (L' := [(0, _), (15, _), (5, _), (6, _), (7, _), (8, _), (9, _), (10, _), (11, _), (12, _), (13, _)]) (.cons rfl (.cons rfl (.cons rfl (.cons rfl (.cons rfl (.cons rfl (.cons rfl (.cons rfl (.cons rfl (.cons rfl (.cons rfl (.nil)))))))))))) ?_
  refine At.seq ?_
  refine (At.region ?_)
  refine At.yl (Yl.move rfl) rfl ?_
  refine At.yl (Yl.move rfl) rfl ?_
  refine At.yl (Yl.shlU (m := 1) rfl rfl rfl) rfl ?_
  refine At.yl (Yl.move rfl) rfl ?_
  refine At.yl (Yl.shrU (m := 63) rfl rfl rfl) rfl ?_
  refine At.yl (Yl.orU rfl rfl) rfl ?_
  refine At.yl (Yl.xorU rfl rfl) rfl ?_
  refine At.yl (Yl.assign rfl) rfl ?_
  refine At.nil (At.nmThen ?_)
  refine At.weaken (L' := [(0, _), (15, _), (5, _), (6, _), (7, _), (8, _), (9, _), (10, _), (11, _), (12, _), (13, _), (14, _)]) (.cons rfl (.cons rfl (.cons rfl (.cons rfl (.cons rfl (.cons rfl (.cons rfl (.cons rfl (.cons rfl (.cons rfl (.cons rfl (.cons rfl (.nil))))))))))))) ?_
  refine At.seq ?_
  refine (At.region ?_)
  refine At.yl (Yl.move rfl) rfl ?_
  refine At.yl (Yl.nilCheck rfl) rfl ?_
  refine At.yl (Yl.indexArr Tryd.underlying52 info48 bq48 rfl rfl rfl (by decide)) rfl ?_
  refine At.yl (Yl.lane (v := s 0) Tryd.underlying48 rfl hb rfl hoff rfl rfl) rfl ?_
  refine At.yl (Yl.move rfl) rfl ?_
  refine At.yl (Yl.xorU rfl rfl) rfl ?_
  refine At.yl (Yl.assign rfl) rfl ?_
  refine At.nil (At.nmThen ?_)
  refine At.weaken (L' := [(0, _), (15, _), (5, _), (6, _), (7, _), (8, _), (9, _), (10, _), (11, _), (12, _), (13, _), (14, _)]) (.cons rfl (.cons rfl (.cons rfl (.cons rfl (.cons rfl (.cons rfl (.cons rfl (.cons rfl (.cons rfl (.cons rfl (.cons rfl (.cons rfl (.nil))))))))))))) ?_
  refine At.seq ?_
  refine (At.region ?_)
  refine At.yl (Yl.move rfl) rfl ?_
  refine At.yl (Yl.nilCheck rfl) rfl ?_
  refine At.yl (Yl.indexArr Tryd.underlying52 info48 bq48 rfl rfl rfl (by decide)) rfl ?_
  refine At.yl (Yl.lane (v := s 1) Tryd.underlying48 rfl hb rfl hoff rfl rfl) rfl ?_
  refine At.yl (Yl.move rfl) rfl ?_
  refine At.yl (Yl.xorU rfl rfl) rfl ?_
  refine At.yl (Yl.assign rfl) rfl ?_
  refine At.nil (At.nmThen ?_)
  refine At.weaken (L' := [(0, _), (15, _), (4, _), (5, _), (6, _), (7, _), (8, _), (9, _), (10, _), (11, _), (12, _), (13, _), (14, _)]) (.cons rfl (.cons rfl (.cons rfl (.cons rfl (.cons rfl (.cons rfl (.cons rfl (.cons rfl (.cons rfl (.cons rfl (.cons rfl (.cons rfl (.cons rfl (.nil)))))))))))))) ?_
  refine At.seq ?_
  refine (At.region ?_)
  refine At.yl (Yl.move rfl) rfl ?_
  refine At.yl (Yl.shlU (m := 44) rfl rfl rfl) rfl ?_
  refine At.yl (Yl.move rfl) rfl ?_
  refine At.yl (Yl.shrU (m := 20) rfl rfl rfl) rfl ?_
  refine At.yl (Yl.orU rfl rfl) rfl ?_
  refine At.yl (Yl.assign rfl) rfl ?_
  refine At.nil (At.nmThen ?_)
  refine At.weaken (L' := [(0, _), (15, _), (4, _), (5, _), (6, _), (7, _), (8, _), (9, _), (10, _), (11, _), (12, _), (13, _), (14, _)]) (.cons rfl (.cons rfl (.cons rfl (.cons rfl (.cons rfl (.cons rfl (.cons rfl (.cons rfl (.cons rfl (.cons rfl (.cons rfl (.cons rfl (.cons rfl (.nil)))))))))))))) ?_
  refine At.seq ?_
  refine (At.region ?_)
  refine At.yl (Yl.move rfl) rfl ?_
  refine At.yl (Yl.nilCheck rfl) rfl ?_
  refine At.yl (Yl.indexArr Tryd.underlying52 info48 bq48 rfl rfl rfl (by decide)) rfl ?_
  refine At.yl (Yl.lane (v := s 2) Tryd.underlying48 rfl hb rfl hoff rfl rfl) rfl ?_
  refine At.yl (Yl.move rfl) rfl ?_
  refine At.yl (Yl.xorU rfl rfl) rfl ?_
  refine At.yl (Yl.assign rfl) rfl ?_
  refine At.nil (At.nmThen ?_)
  refine At.weaken (L' := [(0, _), (15, _), (4, _), (5, _), (6, _), (7, _), (8, _), (9, _), (10, _), (11, _), (12, _), (13, _), (14, _)]) (.cons rfl (.cons rfl (.cons rfl (.cons rfl (.cons rfl (.cons rfl (.cons rfl (.cons rfl (.cons rfl (.cons rfl (.cons rfl (.cons rfl (.cons rfl (.nil)))))))))))))) ?_
  refine At.seq ?_
  refine (At.region ?_)
  refine At.yl (Yl.move rfl) rfl ?_
  refine At.yl (Yl.shlU (m := 43) rfl rfl rfl) rfl ?_
  refine At.yl (Yl.move rfl) rfl ?_
  refine At.yl (Yl.shrU (m := 21) rfl rfl rfl) rfl ?_
  refine At.yl (Yl.orU rfl rfl) rfl ?_
  refine At.yl (Yl.assign rfl) rfl ?_
  refine At.nil (At.nmThen ?_)
  refine At.weaken (L' := [(0, _), (15, _), (4, _), (5, _), (6, _), (7, _), (8, _), (9, _), (10, _), (11, _), (12, _), (13, _), (14, _)]) (.cons rfl (.cons rfl (.cons rfl (.cons rfl (.cons rfl (.cons rfl (.cons rfl (.cons rfl (.cons rfl (.cons rfl (.cons rfl (.cons rfl (.cons rfl (.nil)))))))))))))) ?_
  refine At.seq ?_
  refine (At.region ?_)
  refine At.yl (Yl.move rfl) rfl ?_
  refine At.yl (Yl.nilCheck rfl) rfl ?_
  refine At.yl (Yl.indexArr Tryd.underlying52 info48 bq48 rfl rfl rfl (by decide)) rfl ?_
  refine At.yl (Yl.lane (v := s 3) Tryd.underlying48 rfl hb rfl hoff rfl rfl) rfl ?_
  refine At.yl (Yl.move rfl) rfl ?_
  refine At.yl (Yl.xorU rfl rfl) rfl ?_
  refine At.yl (Yl.assign rfl) rfl ?_
  refine At.nil (At.nmThen ?_)
  refine At.weaken (L' := [(0, _), (15, _), (4, _), (5, _), (6, _), (7, _), (8, _), (9, _), (10, _), (11, _), (12, _), (13, _), (14, _)]) (.cons rfl (.cons rfl (.cons rfl (.cons rfl (.cons rfl (.cons rfl (.cons rfl (.cons rfl (.cons rfl (.cons rfl (.cons rfl (.cons rfl (.cons rfl (.nil)))))))))))))) ?_
  refine At.seq ?_
  refine (At.region ?_)
  refine At.yl (Yl.move rfl) rfl ?_
  refine At.yl (Yl.shlU (m := 21) rfl rfl rfl) rfl ?_
  refine At.yl (Yl.move rfl) rfl ?_
  refine At.yl (Yl.shrU (m := 43) rfl rfl rfl) rfl ?_
  refine At.yl (Yl.orU rfl rfl) rfl ?_
  refine At.yl (Yl.assign rfl) rfl ?_
  refine At.nil (At.nmThen ?_)
  refine At.weaken (L' := [(0, _), (15, _), (4, _), (5, _), (6, _), (7, _), (8, _), (9, _), (10, _), (11, _), (12, _), (13, _), (14, _)]) (.cons rfl (.cons rfl (.cons rfl (.cons rfl (.cons rfl (.cons rfl (.cons rfl (.cons rfl (.cons rfl (.cons rfl (.cons rfl (.cons rfl (.cons rfl (.nil)))))))))))))) ?_
  refine At.seq ?_
  refine (At.region ?_)
  refine At.yl (Yl.move rfl) rfl ?_
  refine At.yl (Yl.nilCheck rfl) rfl ?_
  refine At.yl (Yl.indexArr Tryd.underlying52 info48 bq48 rfl rfl rfl (by decide)) rfl ?_
  refine At.yl (Yl.lane (v := s 4) Tryd.underlying48 rfl hb rfl hoff rfl rfl) rfl ?_
  refine At.yl (Yl.move rfl) rfl ?_
  refine At.yl (Yl.xorU rfl rfl) rfl ?_
  refine At.yl (Yl.assign rfl) rfl ?_
  refine At.nil (At.nmThen ?_)
  refine At.weaken (L' := [(0, _), (15, _), (4, _), (5, _), (6, _), (7, _), (8, _), (9, _), (10, _), (11, _), (12, _), (13, _), (14, _)]) (.cons rfl (.cons rfl (.cons rfl (.cons rfl (.cons rfl (.cons rfl (.cons rfl (.cons rfl (.cons rfl (.cons rfl (.cons rfl (.cons rfl (.cons rfl (.nil)))))))))))))) ?_
  refine At.seq ?_
  refine (At.region ?_)
  refine At.yl (Yl.move rfl) rfl ?_
  refine At.yl (Yl.shlU (m := 14) rfl rfl rfl) rfl ?_
  refine At.yl (Yl.move rfl) rfl ?_
  refine At.yl (Yl.shrU (m := 50) rfl rfl rfl) rfl ?_
  refine At.yl (Yl.orU rfl rfl) rfl ?_
  refine At.yl (Yl.assign rfl) rfl ?_
  refine At.nil (At.nmThen ?_)
  refine At.weaken (L' := [(0, _), (15, _), (4, _), (5, _), (6, _), (7, _), (8, _), (9, _), (10, _), (11, _), (12, _), (13, _), (14, _)]) (.cons rfl (.cons rfl (.cons rfl (.cons rfl (.cons rfl (.cons rfl (.cons rfl (.cons rfl (.cons rfl (.cons rfl (.cons rfl (.cons rfl (.cons rfl (.nil)))))))))))))) ?_
  refine At.seq ?_
  refine (At.draws 13 (ordFrom 0 13) rfl (by decide +kernel) (QP.thn hQ) ?_)
  refine At.ordY (Sub.refl _) rfl (Yl.move rfl) rfl ?_
  refine At.ordY (Sub.refl _) rfl (Yl.move rfl) rfl ?_
  refine At.ordY (Sub.refl _) rfl (Yl.move rfl) rfl ?_
  refine At.ordY (Sub.refl _) rfl (Yl.move rfl) rfl ?_
  refine At.ordY (Sub.refl _) rfl (Yl.andNotU rfl rfl) rfl ?_
  refine At.ordY (Sub.refl _) rfl (Yl.xorU rfl rfl) rfl ?_
  refine At.ordY (Sub.refl _) rfl (Yl.move rfl) rfl ?_
  refine At.ordY (Sub.refl _) rfl (Yl.addI rfl rfl (by omega) (by omega)) rfl ?_
  refine At.ordY (Sub.refl _) rfl (Yl.indexArr (i := i + 3) Tryd.underlying93 info48 bq48 rfl rfl (by omega) (by omega)) rfl ?_
  refine At.ordY (Sub.refl _) rfl (Yl.rc Tryd.underlying48 rfl hg hne rfl (by omega)) rfl ?_
  refine At.ordY (Sub.refl _) rfl (Yl.xorU rfl rfl) rfl ?_
  refine At.ordY (Sub.refl _) rfl (Yl.nilCheck rfl) rfl ?_
  refine At.ordY (Sub.refl _) rfl (Yl.indexArr Tryd.underlying52 info48 bq48 rfl rfl rfl (by decide)) rfl ?_
  refine At.ordNil (Sub.refl _) ?_
  refine At.efS (Ef.lane info48 bq48 hb rfl hoff rfl rfl) ?_
  refine At.nil (At.nmThen ?_)
  refine At.weaken (L' := [(0, _), (15, _), (4, _), (5, _), (6, _), (7, _), (8, _), (9, _), (10, _), (11, _), (12, _), (13, _), (14, _)]) (.cons rfl (.cons rfl (.cons rfl (.cons rfl (.cons rfl (.cons rfl (.cons rfl (.cons rfl (.cons rfl (.cons rfl (.cons rfl (.cons rfl (.cons rfl (.nil)))))))))))))) ?_
  refine At.seq ?_
  refine (At.region ?_)
  refine At.yl (Yl.move rfl) rfl ?_
  refine At.yl (Yl.move rfl) rfl ?_
  refine At.yl (Yl.move rfl) rfl ?_
  refine At.yl (Yl.move rfl) rfl ?_
  refine At.yl (Yl.andNotU rfl rfl) rfl ?_
  refine At.yl (Yl.xorU rfl rfl) rfl ?_
  refine At.yl (Yl.nilCheck rfl) rfl ?_
  refine At.yl (Yl.indexArr Tryd.underlying52 info48 bq48 rfl rfl rfl (by decide)) rfl ?_
  refine At.efS (Ef.lane info48 bq48 hb rfl hoff rfl rfl) ?_
  refine At.nil (At.nmThen ?_)
  refine At.weaken (L' := [(0, _), (15, _), (4, _), (5, _), (6, _), (7, _), (8, _), (9, _), (10, _), (11, _), (12, _), (13, _), (14, _)]) (.cons rfl (.cons rfl (.cons rfl (.cons rfl (.cons rfl (.cons rfl (.cons rfl (.cons rfl (.cons rfl (.cons rfl (.cons rfl (.cons rfl (.cons rfl (.nil)))))))))))))) ?_
  refine At.seq ?_
  refine (At.region ?_)
  refine At.yl (Yl.move rfl) rfl ?_
  refine At.yl (Yl.move rfl) rfl ?_
  refine At.yl (Yl.move rfl) rfl ?_
  refine At.yl (Yl.move rfl) rfl ?_
  refine At.yl (Yl.andNotU rfl rfl) rfl ?_
  refine At.yl (Yl.xorU rfl rfl) rfl ?_
  refine At.yl (Yl.nilCheck rfl) rfl ?_
  refine At.yl (Yl.indexArr Tryd.underlying52 info48 bq48 rfl rfl rfl (by decide)) rfl ?_
  refine At.efS (Ef.lane info48 bq48 hb rfl hoff rfl rfl) ?_
  refine At.nil (At.nmThen ?_)
  refine At.weaken (L' := [(0, _), (15, _), (4, _), (5, _), (6, _), (7, _), (8, _), (9, _), (10, _), (11, _), (12, _), (13, _), (14, _)]) (.cons rfl (.cons rfl (.cons rfl (.cons rfl (.cons rfl (.cons rfl (.cons rfl (.cons rfl (.cons rfl (.cons rfl (.cons rfl (.cons rfl (.cons rfl (.nil)))))))))))))) ?_
  refine At.seq ?_
  refine (At.region ?_)
  refine At.yl (Yl.move rfl) rfl ?_
  refine At.yl (Yl.move rfl) rfl ?_
  refine At.yl (Yl.move rfl) rfl ?_
  refine At.yl (Yl.move rfl) rfl ?_
  refine At.yl (Yl.andNotU rfl rfl) rfl ?_
  refine At.yl (Yl.xorU rfl rfl) rfl ?_
  refine At.yl (Yl.nilCheck rfl) rfl ?_
  refine At.yl (Yl.indexArr Tryd.underlying52 info48 bq48 rfl rfl rfl (by decide)) rfl ?_
  refine At.efS (Ef.lane info48 bq48 hb rfl hoff rfl rfl) ?_
  refine At.nil (At.nmThen ?_)
  refine At.weaken (L' := [(0, _), (15, _), (4, _), (5, _), (6, _), (7, _), (8, _), (9, _), (10, _), (11, _), (12, _), (13, _), (14, _)]) (.cons rfl (.cons rfl (.cons rfl (.cons rfl (.cons rfl (.cons rfl (.cons rfl (.cons rfl (.cons rfl (.cons rfl (.cons rfl (.cons rfl (.cons rfl (.nil)))))))))))))) ?_
  refine At.seq ?_
  refine (At.region ?_)
  refine At.yl (Yl.move rfl) rfl ?_
  refine At.yl (Yl.move rfl) rfl ?_
  refine At.yl (Yl.move rfl) rfl ?_
  refine At.yl (Yl.move rfl) rfl ?_
  refine At.yl (Yl.andNotU rfl rfl) rfl ?_
  refine At.yl (Yl.xorU rfl rfl) rfl ?_
  refine At.yl (Yl.nilCheck rfl) rfl ?_
  refine At.yl (Yl.indexArr Tryd.underlying52 info48 bq48 rfl rfl rfl (by decide)) rfl ?_
  refine At.efS (Ef.lane info48 bq48 hb rfl hoff rfl rfl) ?_
  refine At.nil (At.nmThen ?_)
  refine At.weaken (L' := [(0, _), (15, _), (4, _), (5, _), (6, _), (7, _), (8, _), (9, _), (10, _), (11, _), (12, _), (13, _), (14, _)]) (.cons rfl (.cons rfl (.cons rfl (.cons rfl (.cons rfl (.cons rfl (.cons rfl (.cons rfl (.cons rfl (.cons rfl (.cons rfl (.cons rfl (.cons rfl (.nil)))))))))))))) ?_
  refine At.seq ?_
  refine (At.region ?_)
  refine At.yl (Yl.move rfl) rfl ?_
  refine At.yl (Yl.nilCheck rfl) rfl ?_
  refine At.yl (Yl.indexArr Tryd.underlying52 info48 bq48 rfl rfl rfl (by decide)) rfl ?_
  refine At.yl (Yl.lane (v := s 5) Tryd.underlying48 rfl hb rfl hoff rfl rfl) rfl ?_
  refine At.yl (Yl.move rfl) rfl ?_
  refine At.yl (Yl.xorU rfl rfl) rfl ?_
  refine At.yl (Yl.assign rfl) rfl ?_
  refine At.nil (At.nmThen ?_)
  refine At.weaken (L' := [(0, _), (15, _), (4, _), (5, _), (6, _), (7, _), (8, _), (9, _), (10, _), (11, _), (12, _), (13, _), (14, _)]) (.cons rfl (.cons rfl (.cons rfl (.cons rfl (.cons rfl (.cons rfl (.cons rfl (.cons rfl (.cons rfl (.cons rfl (.cons rfl (.cons rfl (.cons rfl (.nil)))))))))))))) ?_
  refine At.seq ?_
  refine (At.region ?_)
  refine At.yl (Yl.move rfl) rfl ?_
  refine At.yl (Yl.shlU (m := 3) rfl rfl rfl) rfl ?_
  refine At.yl (Yl.move rfl) rfl ?_
  refine At.yl (Yl.shrU (m := 61) rfl rfl rfl) rfl ?_
  refine At.yl (Yl.orU rfl rfl) rfl ?_
  refine At.yl (Yl.assign rfl) rfl ?_
  refine At.nil (At.nmThen ?_)
  refine At.weaken (L' := [(0, _), (15, _), (4, _), (5, _), (6, _), (7, _), (8, _), (9, _), (10, _), (11, _), (12, _), (13, _), (14, _)]) (.cons rfl (.cons rfl (.cons rfl (.cons rfl (.cons rfl (.cons rfl (.cons rfl (.cons rfl (.cons rfl (.cons rfl (.cons rfl (.cons rfl (.cons rfl (.nil)))))))))))))) ?_
  refine At.seq ?_
  refine (At.region ?_)
  refine At.yl (Yl.move rfl) rfl ?_
  refine At.yl (Yl.nilCheck rfl) rfl ?_
  refine At.yl (Yl.indexArr Tryd.underlying52 info48 bq48 rfl rfl rfl (by decide)) rfl ?_
  refine At.yl (Yl.lane (v := s 6) Tryd.underlying48 rfl hb rfl hoff rfl rfl) rfl ?_
  refine At.yl (Yl.move rfl) rfl ?_
  refine At.yl (Yl.xorU rfl rfl) rfl ?_
  refine At.yl (Yl.assign rfl) rfl ?_
  refine At.nil (At.nmThen ?_)
  refine At.weaken (L' := [(0, _), (15, _), (4, _), (5, _), (6, _), (7, _), (8, _), (9, _), (10, _), (11, _), (12, _), (13, _), (14, _)]) (.cons rfl (.cons rfl (.cons rfl (.cons rfl (.cons rfl (.cons rfl (.cons rfl (.cons rfl (.cons rfl (.cons rfl (.cons rfl (.cons rfl (.cons rfl (.nil)))))))))))))) ?_
  refine At.seq ?_
  refine (At.region ?_)
  refine At.yl (Yl.move rfl) rfl ?_
  refine At.yl (Yl.shlU (m := 45) rfl rfl rfl) rfl ?_
  refine At.yl (Yl.move rfl) rfl ?_
  refine At.yl (Yl.shrU (m := 19) rfl rfl rfl) rfl ?_
  refine At.yl (Yl.orU rfl rfl) rfl ?_
  refine At.yl (Yl.assign rfl) rfl ?_
  refine At.nil (At.nmThen ?_)
  refine At.weaken (L' := [(0, _), (15, _), (4, _), (5, _), (6, _), (7, _), (8, _), (9, _), (10, _), (11, _), (12, _), (13, _), (14, _)]) (.cons rfl (.cons rfl (.cons rfl (.cons rfl (.cons rfl (.cons rfl (.cons rfl (.cons rfl (.cons rfl (.cons rfl (.cons rfl (.cons rfl (.cons rfl (.nil)))))))))))))) ?_
  refine At.seq ?_
  refine (At.region ?_)
  refine At.yl (Yl.move rfl) rfl ?_
  refine At.yl (Yl.nilCheck rfl) rfl ?_
  refine At.yl (Yl.indexArr Tryd.underlying52 info48 bq48 rfl rfl rfl (by decide)) rfl ?_
  refine At.yl (Yl.lane (v := s 7) Tryd.underlying48 rfl hb rfl hoff rfl rfl) rfl ?_
  refine At.yl (Yl.move rfl) rfl ?_
  refine At.yl (Yl.xorU rfl rfl) rfl ?_
  refine At.yl (Yl.assign rfl) rfl ?_
  refine At.nil (At.nmThen ?_)
  refine At.weaken (L' := [(0, _), (15, _), (4, _), (5, _), (6, _), (7, _), (8, _), (9, _), (10, _), (11, _), (12, _), (13, _), (14, _)]) (.cons rfl (.cons rfl (.cons rfl (.cons rfl (.cons rfl (.cons rfl (.cons rfl (.cons rfl (.cons rfl (.cons rfl (.cons rfl (.cons rfl (.cons rfl (.nil)))))))))))))) ?_
  refine At.seq ?_
  refine (At.region ?_)
  refine At.yl (Yl.move rfl) rfl ?_
  refine At.yl (Yl.shlU (m := 61) rfl rfl rfl) rfl ?_
  refine At.yl (Yl.move rfl) rfl ?_
  refine At.yl (Yl.shrU (m := 3) rfl rfl rfl) rfl ?_
  refine At.yl (Yl.orU rfl rfl) rfl ?_
  refine At.yl (Yl.assign rfl) rfl ?_
  refine At.nil (At.nmThen ?_)
  refine At.weaken (L' := [(0, _), (15, _), (4, _), (5, _), (6, _), (7, _), (8, _), (9, _), (10, _), (11, _), (12, _), (13, _), (14, _)]) (.cons rfl (.cons rfl (.cons rfl (.cons rfl (.cons rfl (.cons rfl (.cons rfl (.cons rfl (.cons rfl (.cons rfl (.cons rfl (.cons rfl (.cons rfl (.nil)))))))))))))) ?_
  refine At.seq ?_
  refine (At.region ?_)
  refine At.yl (Yl.move rfl) rfl ?_
  refine At.yl (Yl.nilCheck rfl) rfl ?_
  refine At.yl (Yl.indexArr Tryd.underlying52 info48 bq48 rfl rfl rfl (by decide)) rfl ?_
  refine At.yl (Yl.lane (v := s 8) Tryd.underlying48 rfl hb rfl hoff rfl rfl) rfl ?_
  refine At.yl (Yl.move rfl) rfl ?_
  refine At.yl (Yl.xorU rfl rfl) rfl ?_
  refine At.yl (Yl.assign rfl) rfl ?_
  refine At.nil (At.nmThen ?_)
  refine At.weaken (L' := [(0, _), (15, _), (4, _), (5, _), (6, _), (7, _), (8, _), (9, _), (10, _), (11, _), (12, _), (13, _), (14, _)]) (.cons rfl (.cons rfl (.cons rfl (.cons rfl (.cons rfl (.cons rfl (.cons rfl (.cons rfl (.cons rfl (.cons rfl (.cons rfl (.cons rfl (.cons rfl (.nil)))))))))))))) ?_
  refine At.seq ?_
  refine (At.region ?_)
  refine At.yl (Yl.move rfl) rfl ?_
  refine At.yl (Yl.shlU (m := 28) rfl rfl rfl) rfl ?_
  refine At.yl (Yl.move rfl) rfl ?_
  refine At.yl (Yl.shrU (m := 36) rfl rfl rfl) rfl ?_
  refine At.yl (Yl.orU rfl rfl) rfl ?_
  refine At.yl (Yl.assign rfl) rfl ?_
  refine At.nil (At.nmThen ?_)
  refine At.weaken (L' := [(0, _), (15, _), (4, _), (5, _), (6, _), (7, _), (8, _), (9, _), (10, _), (11, _), (12, _), (13, _), (14, _)]) (.cons rfl (.cons rfl (.cons rfl (.cons rfl (.cons rfl (.cons rfl (.cons rfl (.cons rfl (.cons rfl (.cons rfl (.cons rfl (.cons rfl (.cons rfl (.nil)))))))))))))) ?_
  refine At.seq ?_
  refine (At.region ?_)
  refine At.yl (Yl.move rfl) rfl ?_
  refine At.yl (Yl.nilCheck rfl) rfl ?_
  refine At.yl (Yl.indexArr Tryd.underlying52 info48 bq48 rfl rfl rfl (by decide)) rfl ?_
  refine At.yl (Yl.lane (v := s 9) Tryd.underlying48 rfl hb rfl hoff rfl rfl) rfl ?_
  refine At.yl (Yl.move rfl) rfl ?_
  refine At.yl (Yl.xorU rfl rfl) rfl ?_
  refine At.yl (Yl.assign rfl) rfl ?_
  refine At.nil (At.nmThen ?_)
  refine At.weaken (L' := [(0, _), (15, _), (4, _), (5, _), (6, _), (7, _), (8, _), (9, _), (10, _), (11, _), (12, _), (13, _), (14, _)]) (.cons rfl (.cons rfl (.cons rfl (.cons rfl (.cons rfl (.cons rfl (.cons rfl (.cons rfl (.cons rfl (.cons rfl (.cons rfl (.cons rfl (.cons rfl (.nil)))))))))))))) ?_
  refine At.seq ?_
  refine (At.region ?_)
  refine At.yl (Yl.move rfl) rfl ?_
  refine At.yl (Yl.shlU (m := 20) rfl rfl rfl) rfl ?_
  refine At.yl (Yl.move rfl) rfl ?_
  refine At.yl (Yl.shrU (m := 44) rfl rfl rfl) rfl ?_
  refine At.yl (Yl.orU rfl rfl) rfl ?_
  refine At.yl (Yl.assign rfl) rfl ?_
  refine At.nil (At.nmThen ?_)
  refine At.weaken (L' := [(0, _), (15, _), (4, _), (5, _), (6, _), (7, _), (8, _), (9, _), (10, _), (11, _), (12, _), (13, _), (14, _)]) (.cons rfl (.cons rfl (.cons rfl (.cons rfl (.cons rfl (.cons rfl (.cons rfl (.cons rfl (.cons rfl (.cons rfl (.cons rfl (.cons rfl (.cons rfl (.nil)))))))))))))) ?_
  refine At.seq ?_
  refine (At.region ?_)
  refine At.yl (Yl.move rfl) rfl ?_
  refine At.yl (Yl.move rfl) rfl ?_
  refine At.yl (Yl.move rfl) rfl ?_
  refine At.yl (Yl.move rfl) rfl ?_
  refine At.yl (Yl.andNotU rfl rfl) rfl ?_
  refine At.yl (Yl.xorU rfl rfl) rfl ?_
  refine At.yl (Yl.nilCheck rfl) rfl ?_
  refine At.yl (Yl.indexArr Tryd.underlying52 info48 bq48 rfl rfl rfl (by decide)) rfl ?_
  refine At.efS (Ef.lane info48 bq48 hb rfl hoff rfl rfl) ?_
  refine At.nil (At.nmThen ?_)
  refine At.weaken (L' := [(0, _), (15, _), (4, _), (5, _), (6, _), (7, _), (8, _), (9, _), (10, _), (11, _), (12, _), (13, _), (14, _)]) (.cons rfl (.cons rfl (.cons rfl (.cons rfl (.cons rfl (.cons rfl (.cons rfl (.cons rfl (.cons rfl (.cons rfl (.cons rfl (.cons rfl (.cons rfl (.nil)))))))))))))) ?_
  refine At.seq ?_
  refine (At.region ?_)
  refine At.yl (Yl.move rfl) rfl ?_
  refine At.yl (Yl.move rfl) rfl ?_
  refine At.yl (Yl.move rfl) rfl ?_
  refine At.yl (Yl.move rfl) rfl ?_
  refine At.yl (Yl.andNotU rfl rfl) rfl ?_
  refine At.yl (Yl.xorU rfl rfl) rfl ?_
  refine At.yl (Yl.nilCheck rfl) rfl ?_
  refine At.yl (Yl.indexArr Tryd.underlying52 info48 bq48 rfl rfl rfl (by decide)) rfl ?_
  refine At.efS (Ef.lane info48 bq48 hb rfl hoff rfl rfl) ?_
  refine At.nil (At.nmThen ?_)
  refine At.weaken (L' := [(0, _), (15, _), (4, _), (5, _), (6, _), (7, _), (8, _), (9, _), (10, _), (11, _), (12, _), (13, _), (14, _)]) (.cons rfl (.cons rfl (.cons rfl (.cons rfl (.cons rfl (.cons rfl (.cons rfl (.cons rfl (.cons rfl (.cons rfl (.cons rfl (.cons rfl (.cons rfl (.nil)))))))))))))) ?_
  refine At.seq ?_
  refine (At.region ?_)
  refine At.yl (Yl.move rfl) rfl ?_
  refine At.yl (Yl.move rfl) rfl ?_
  refine At.yl (Yl.move rfl) rfl ?_
  refine At.yl (Yl.move rfl) rfl ?_
  refine At.yl (Yl.andNotU rfl rfl) rfl ?_
  refine At.yl (Yl.xorU rfl rfl) rfl ?_
  refine At.yl (Yl.nilCheck rfl) rfl ?_
  refine At.yl (Yl.indexArr Tryd.underlying52 info48 bq48 rfl rfl rfl (by decide)) rfl ?_
  refine At.efS (Ef.lane info48 bq48 hb rfl hoff rfl rfl) ?_
  refine At.nil (At.nmThen ?_)
  refine At.weaken (L' := [(0, _), (15, _), (4, _), (5, _), (6, _), (7, _), (8, _), (9, _), (10, _), (11, _), (12, _), (13, _), (14, _)]) (.cons rfl (.cons rfl (.cons rfl (.cons rfl (.cons rfl (.cons rfl (.cons rfl (.cons rfl (.cons rfl (.cons rfl (.cons rfl (.cons rfl (.cons rfl (.nil)))))))))))))) ?_
  refine At.seq ?_
  refine (At.region ?_)
  refine At.yl (Yl.move rfl) rfl ?_
  refine At.yl (Yl.move rfl) rfl ?_
  refine At.yl (Yl.move rfl) rfl ?_
  refine At.yl (Yl.move rfl) rfl ?_
  refine At.yl (Yl.andNotU rfl rfl) rfl ?_
  refine At.yl (Yl.xorU rfl rfl) rfl ?_
  refine At.yl (Yl.nilCheck rfl) rfl ?_
  refine At.yl (Yl.indexArr Tryd.underlying52 info48 bq48 rfl rfl rfl (by decide)) rfl ?_
  refine At.efS (Ef.lane info48 bq48 hb rfl hoff rfl rfl) ?_
  refine At.nil (At.nmThen ?_)
  refine At.weaken (L' := [(0, _), (15, _), (4, _), (5, _), (6, _), (7, _), (8, _), (9, _), (10, _), (11, _), (12, _), (13, _), (14, _)]) (.cons rfl (.cons rfl (.cons rfl (.cons rfl (.cons rfl (.cons rfl (.cons rfl (.cons rfl (.cons rfl (.cons rfl (.cons rfl (.cons rfl (.cons rfl (.nil)))))))))))))) ?_
  refine At.seq ?_
  refine (At.region ?_)
  refine At.yl (Yl.move rfl) rfl ?_
  refine At.yl (Yl.move rfl) rfl ?_
  refine At.yl (Yl.move rfl) rfl ?_
  refine At.yl (Yl.move rfl) rfl ?_
  refine At.yl (Yl.andNotU rfl rfl) rfl ?_
  refine At.yl (Yl.xorU rfl rfl) rfl ?_
  refine At.yl (Yl.nilCheck rfl) rfl ?_
  refine At.yl (Yl.indexArr Tryd.underlying52 info48 bq48 rfl rfl rfl (by decide)) rfl ?_
  refine At.efS (Ef.lane info48 bq48 hb rfl hoff rfl rfl) ?_
  refine At.nil (At.nmThen ?_)
  refine At.weaken (L' := [(0, _), (15, _), (4, _), (5, _), (6, _), (7, _), (8, _), (9, _), (10, _), (11, _), (12, _), (13, _), (14, _)]) (.cons rfl (.cons rfl (.cons rfl (.cons rfl (.cons rfl (.cons rfl (.cons rfl (.cons rfl (.cons rfl (.cons rfl (.cons rfl (.cons rfl (.cons rfl (.nil)))))))))))))) ?_
  refine At.seq ?_
  refine (At.region ?_)
  refine At.yl (Yl.move rfl) rfl ?_
  refine At.yl (Yl.nilCheck rfl) rfl ?_
  refine At.yl (Yl.indexArr Tryd.underlying52 info48 bq48 rfl rfl rfl (by decide)) rfl ?_
  refine At.yl (Yl.lane (v := s 10) Tryd.underlying48 rfl hb rfl hoff rfl rfl) rfl ?_
  refine At.yl (Yl.move rfl) rfl ?_
  refine At.yl (Yl.xorU rfl rfl) rfl ?_
  refine At.yl (Yl.assign rfl) rfl ?_
  refine At.nil (At.nmThen ?_)
  refine At.weaken (L' := [(0, _), (15, _), (4, _), (5, _), (6, _), (7, _), (8, _), (9, _), (10, _), (11, _), (12, _), (13, _), (14, _)]) (.cons rfl (.cons rfl (.cons rfl (.cons rfl (.cons rfl (.cons rfl (.cons rfl (.cons rfl (.cons rfl (.cons rfl (.cons rfl (.cons rfl (.cons rfl (.nil)))))))))))))) ?_
  refine At.seq ?_
  refine (At.region ?_)
  refine At.yl (Yl.move rfl) rfl ?_
  refine At.yl (Yl.shlU (m := 18) rfl rfl rfl) rfl ?_
  refine At.yl (Yl.move rfl) rfl ?_
  refine At.yl (Yl.shrU (m := 46) rfl rfl rfl) rfl ?_
  refine At.yl (Yl.orU rfl rfl) rfl ?_
  refine At.yl (Yl.assign rfl) rfl ?_
  refine At.nil (At.nmThen ?_)
  refine At.weaken (L' := [(0, _), (15, _), (4, _), (5, _), (6, _), (7, _), (8, _), (9, _), (10, _), (11, _), (12, _), (13, _), (14, _)]) (.cons rfl (.cons rfl (.cons rfl (.cons rfl (.cons rfl (.cons rfl (.cons rfl (.cons rfl (.cons rfl (.cons rfl (.cons rfl (.cons rfl (.cons rfl (.nil)))))))))))))) ?_
  refine At.seq ?_
  refine (At.region ?_)
  refine At.yl (Yl.move rfl) rfl ?_
  refine At.yl (Yl.nilCheck rfl) rfl ?_
  refine At.yl (Yl.indexArr Tryd.underlying52 info48 bq48 rfl rfl rfl (by decide)) rfl ?_
  refine At.yl (Yl.lane (v := s 11) Tryd.underlying48 rfl hb rfl hoff rfl rfl) rfl ?_
  refine At.yl (Yl.move rfl) rfl ?_
  refine At.yl (Yl.xorU rfl rfl) rfl ?_
  refine At.yl (Yl.assign rfl) rfl ?_
  refine At.nil (At.nmThen ?_)
  refine At.weaken (L' := [(0, _), (15, _), (4, _), (5, _), (6, _), (7, _), (8, _), (9, _), (10, _), (11, _), (12, _), (13, _), (14, _)]) (.cons rfl (.cons rfl (.cons rfl (.cons rfl (.cons rfl (.cons rfl (.cons rfl (.cons rfl (.cons rfl (.cons rfl (.cons rfl (.cons rfl (.cons rfl (.nil)))))))))))))) ?_
  refine At.seq ?_
  refine (At.region ?_)
  refine At.yl (Yl.move rfl) rfl ?_
  refine At.yl (Yl.shlU (m := 1) rfl rfl rfl) rfl ?_
  refine At.yl (Yl.move rfl) rfl ?_
  refine At.yl (Yl.shrU (m := 63) rfl rfl rfl) rfl ?_
  refine At.yl (Yl.orU rfl rfl) rfl ?_
  refine At.yl (Yl.assign rfl) rfl ?_
  refine At.nil (At.nmThen ?_)
  refine At.weaken (L' := [(0, _), (15, _), (4, _), (5, _), (6, _), (7, _), (8, _), (9, _), (10, _), (11, _), (12, _), (13, _), (14, _)]) (.cons rfl (.cons rfl (.cons rfl (.cons rfl (.cons rfl (.cons rfl (.cons rfl (.cons rfl (.cons rfl (.cons rfl (.cons rfl (.cons rfl (.cons rfl (.nil)))))))))))))) ?_
  refine At.seq ?_
  refine (At.region ?_)
  refine At.yl (Yl.move rfl) rfl ?_
  refine At.yl (Yl.nilCheck rfl) rfl ?_
  refine At.yl (Yl.indexArr Tryd.underlying52 info48 bq48 rfl rfl rfl (by decide)) rfl ?_
  refine At.yl (Yl.lane (v := s 12) Tryd.underlying48 rfl hb rfl hoff rfl rfl) rfl ?_
  refine At.yl (Yl.move rfl) rfl ?_
  refine At.yl (Yl.xorU rfl rfl) rfl ?_
  refine At.yl (Yl.assign rfl) rfl ?_
  refine At.nil (At.nmThen ?_)
  refine At.weaken (L' := [(0, _), (15, _), (4, _), (5, _), (6, _), (7, _), (8, _), (9, _), (10, _), (11, _), (12, _), (13, _), (14, _)]) (.cons rfl (.cons rfl (.cons rfl (.cons rfl (.cons rfl (.cons rfl (.cons rfl (.cons rfl (.cons rfl (.cons rfl (.cons rfl (.cons rfl (.cons rfl (.nil)))))))))))))) ?_
  refine At.seq ?_
  refine (At.region ?_)
  refine At.yl (Yl.move rfl) rfl ?_
  refine At.yl (Yl.shlU (m := 6) rfl rfl rfl) rfl ?_
  refine At.yl (Yl.move rfl) rfl ?_
  refine At.yl (Yl.shrU (m := 58) rfl rfl rfl) rfl ?_
  refine At.yl (Yl.orU rfl rfl) rfl ?_
  refine At.yl (Yl.assign rfl) rfl ?_
  refine At.nil (At.nmThen ?_)
  refine At.weaken (L' := [(0, _), (15, _), (4, _), (5, _), (6, _), (7, _), (8, _), (9, _), (10, _), (11, _), (12, _), (13, _), (14, _)]) (.cons rfl (.cons rfl (.cons rfl (.cons rfl (.cons rfl (.cons rfl (.cons rfl (.cons rfl (.cons rfl (.cons rfl (.cons rfl (.cons rfl (.cons rfl (.nil)))))))))))))) ?_
  refine At.seq ?_
  refine (At.region ?_)
  refine At.yl (Yl.move rfl) rfl ?_
  refine At.yl (Yl.nilCheck rfl) rfl ?_
  refine At.yl (Yl.indexArr Tryd.underlying52 info48 bq48 rfl rfl rfl (by decide)) rfl ?_
  refine At.yl (Yl.lane (v := s 13) Tryd.underlying48 rfl hb rfl hoff rfl rfl) rfl ?_
  refine At.yl (Yl.move rfl) rfl ?_
  refine At.yl (Yl.xorU rfl rfl) rfl ?_
  refine At.yl (Yl.assign rfl) rfl ?_
  refine At.nil (At.nmThen ?_)
  refine At.weaken (L' := [(0, _), (15, _), (4, _), (5, _), (6, _), (7, _), (8, _), (9, _), (10, _), (11, _), (12, _), (13, _), (14, _)]) (.cons rfl (.cons rfl (.cons rfl (.cons rfl (.cons rfl (.cons rfl (.cons rfl (.cons rfl (.cons rfl (.cons rfl (.cons rfl (.cons rfl (.cons rfl (.nil)))))))))))))) ?_
  refine At.seq ?_
  refine (At.region ?_)
  refine At.yl (Yl.move rfl) rfl ?_
  refine At.yl (Yl.shlU (m := 25) rfl rfl rfl) rfl ?_
  refine At.yl (Yl.move rfl) rfl ?_
  refine At.yl (Yl.shrU (m := 39) rfl rfl rfl) rfl ?_
  refine At.yl (Yl.orU rfl rfl) rfl ?_
  refine At.yl (Yl.assign rfl) rfl ?_
  refine At.nil (At.nmThen ?_)
  refine At.weaken (L' := [(0, _), (15, _), (4, _), (5, _), (6, _), (7, _), (8, _), (9, _), (10, _), (11, _), (12, _), (13, _), (14, _)]) (.cons rfl (.cons rfl (.cons rfl (.cons rfl (.cons rfl (.cons rfl (.cons rfl (.cons rfl (.cons rfl (.cons rfl (.cons rfl (.cons rfl (.cons rfl (.nil)))))))))))))) ?_
  refine At.seq ?_
  refine (At.region ?_)
  refine At.yl (Yl.move rfl) rfl ?_
  refine At.yl (Yl.nilCheck rfl) rfl ?_
  refine At.yl (Yl.indexArr Tryd.underlying52 info48 bq48 rfl rfl rfl (by decide)) rfl ?_
  refine At.yl (Yl.lane (v := s 14) Tryd.underlying48 rfl hb rfl hoff rfl rfl) rfl ?_
  refine At.yl (Yl.move rfl) rfl ?_
  refine At.yl (Yl.xorU rfl rfl) rfl ?_
  refine At.yl (Yl.assign rfl) rfl ?_
  refine At.nil (At.nmThen ?_)
  refine At.weaken (L' := [(0, _), (15, _), (4, _), (5, _), (6, _), (7, _), (8, _), (9, _), (10, _), (11, _), (12, _), (13, _), (14, _)]) (.cons rfl (.cons rfl (.cons rfl (.cons rfl (.cons rfl (.cons rfl (.cons rfl (.cons rfl (.cons rfl (.cons rfl (.cons rfl (.cons rfl (.cons rfl (.nil)))))))))))))) ?_
  refine At.seq ?_
  refine (At.region ?_)
  refine At.yl (Yl.move rfl) rfl ?_
  refine At.yl (Yl.shlU (m := 8) rfl rfl rfl) rfl ?_
  refine At.yl (Yl.move rfl) rfl ?_
  refine At.yl (Yl.shrU (m := 56) rfl rfl rfl) rfl ?_
  refine At.yl (Yl.orU rfl rfl) rfl ?_
  refine At.yl (Yl.assign rfl) rfl ?_
  refine At.nil (At.nmThen ?_)
  refine At.weaken (L' := [(0, _), (15, _), (4, _), (5, _), (6, _), (7, _), (8, _), (9, _), (10, _), (11, _), (12, _), (13, _), (14, _)]) (.cons rfl (.cons rfl (.cons rfl (.cons rfl (.cons rfl (.cons rfl (.cons rfl (.cons rfl (.cons rfl (.cons rfl (.cons rfl (.cons rfl (.cons rfl (.nil)))))))))))))) ?_
  refine At.seq ?_
  refine (At.region ?_)
  refine At.yl (Yl.move rfl) rfl ?_
  refine At.yl (Yl.move rfl) rfl ?_
  refine At.yl (Yl.move rfl) rfl ?_
  refine At.yl (Yl.move rfl) rfl ?_
  refine At.yl (Yl.andNotU rfl rfl) rfl ?_
  refine At.yl (Yl.xorU rfl rfl) rfl ?_
  refine At.yl (Yl.nilCheck rfl) rfl ?_
  refine At.yl (Yl.indexArr Tryd.underlying52 info48 bq48 rfl rfl rfl (by decide)) rfl ?_
  refine At.efS (Ef.lane info48 bq48 hb rfl hoff rfl rfl) ?_
  refine At.nil (At.nmThen ?_)
  refine At.weaken (L' := [(0, _), (15, _), (4, _), (5, _), (6, _), (7, _), (8, _), (9, _), (10, _), (11, _), (12, _), (13, _), (14, _)]) (.cons rfl (.cons rfl (.cons rfl (.cons rfl (.cons rfl (.cons rfl (.cons rfl (.cons rfl (.cons rfl (.cons rfl (.cons rfl (.cons rfl (.cons rfl (.nil)))))))))))))) ?_
  refine At.seq ?_
  refine (At.region ?_)
  refine At.yl (Yl.move rfl) rfl ?_
  refine At.yl (Yl.move rfl) rfl ?_
  refine At.yl (Yl.move rfl) rfl ?_
  refine At.yl (Yl.move rfl) rfl ?_
  refine At.yl (Yl.andNotU rfl rfl) rfl ?_
  refine At.yl (Yl.xorU rfl rfl) rfl ?_
  refine At.yl (Yl.nilCheck rfl) rfl ?_
  refine At.yl (Yl.indexArr Tryd.underlying52 info48 bq48 rfl rfl rfl (by decide)) rfl ?_
  refine At.efS (Ef.lane info48 bq48 hb rfl hoff rfl rfl) ?_
  refine At.nil (At.nmThen ?_)
  refine At.weaken (L' := [(0, _), (15, _), (4, _), (5, _), (6, _), (7, _), (8, _), (9, _), (10, _), (11, _), (12, _), (13, _), (14, _)]) (.cons rfl (.cons rfl (.cons rfl (.cons rfl (.cons rfl (.cons rfl (.cons rfl (.cons rfl (.cons rfl (.cons rfl (.cons rfl (.cons rfl (.cons rfl (.nil)))))))))))))) ?_
  refine At.seq ?_
  refine (At.region ?_)
  refine At.yl (Yl.move rfl) rfl ?_
  refine At.yl (Yl.move rfl) rfl ?_
  refine At.yl (Yl.move rfl) rfl ?_
  refine At.yl (Yl.move rfl) rfl ?_
  refine At.yl (Yl.andNotU rfl rfl) rfl ?_
  refine At.yl (Yl.xorU rfl rfl) rfl ?_
  refine At.yl (Yl.nilCheck rfl) rfl ?_
  refine At.yl (Yl.indexArr Tryd.underlying52 info48 bq48 rfl rfl rfl (by decide)) rfl ?_
  refine At.efS (Ef.lane info48 bq48 hb rfl hoff rfl rfl) ?_
  refine At.nil (At.nmThen ?_)
  refine At.weaken (L' := [(0, _), (15, _), (4, _), (5, _), (6, _), (7, _), (8, _), (9, _), (10, _), (11, _), (12, _), (13, _), (14, _)]) (.cons rfl (.cons rfl (.cons rfl (.cons rfl (.cons rfl (.cons rfl (.cons rfl (.cons rfl (.cons rfl (.cons rfl (.cons rfl (.cons rfl (.cons rfl (.nil)))))))))))))) ?_
  refine At.seq ?_
  refine (At.region ?_)
  refine At.yl (Yl.move rfl) rfl ?_
  refine At.yl (Yl.move rfl) rfl ?_
  refine At.yl (Yl.move rfl) rfl ?_
  refine At.yl (Yl.move rfl) rfl ?_
  refine At.yl (Yl.andNotU rfl rfl) rfl ?_
  refine At.yl (Yl.xorU rfl rfl) rfl ?_
  refine At.yl (Yl.nilCheck rfl) rfl ?_
  refine At.yl (Yl.indexArr Tryd.underlying52 info48 bq48 rfl rfl rfl (by decide)) rfl ?_
  refine At.efS (Ef.lane info48 bq48 hb rfl hoff rfl rfl) ?_
  refine At.nil (At.nmThen ?_)
  refine At.weaken (L' := [(0, _), (15, _), (4, _), (5, _), (6, _), (7, _), (8, _), (9, _), (10, _), (11, _), (12, _), (13, _), (14, _)]) (.cons rfl (.cons rfl (.cons rfl (.cons rfl (.cons rfl (.cons rfl (.cons rfl (.cons rfl (.cons rfl (.cons rfl (.cons rfl (.cons rfl (.cons rfl (.nil)))))))))))))) ?_
  refine At.seq ?_
  refine (At.region ?_)
  refine At.yl (Yl.move rfl) rfl ?_
  refine At.yl (Yl.move rfl) rfl ?_
  refine At.yl (Yl.move rfl) rfl ?_
  refine At.yl (Yl.move rfl) rfl ?_
  refine At.yl (Yl.andNotU rfl rfl) rfl ?_
  refine At.yl (Yl.xorU rfl rfl) rfl ?_
  refine At.yl (Yl.nilCheck rfl) rfl ?_
  refine At.yl (Yl.indexArr Tryd.underlying52 info48 bq48 rfl rfl rfl (by decide)) rfl ?_
  refine At.efS (Ef.lane info48 bq48 hb rfl hoff rfl rfl) ?_
  refine At.nil (At.nmThen ?_)
  refine At.weaken (L' := [(0, _), (15, _), (4, _), (5, _), (6, _), (7, _), (8, _), (9, _), (10, _), (11, _), (12, _), (13, _), (14, _)]) (.cons rfl (.cons rfl (.cons rfl (.cons rfl (.cons rfl (.cons rfl (.cons rfl (.cons rfl (.cons rfl (.cons rfl (.cons rfl (.cons rfl (.cons rfl (.nil)))))))))))))) ?_
  refine At.seq ?_
  refine (At.region ?_)
  refine At.yl (Yl.move rfl) rfl ?_
  refine At.yl (Yl.nilCheck rfl) rfl ?_
  refine At.yl (Yl.indexArr Tryd.underlying52 info48 bq48 rfl rfl rfl (by decide)) rfl ?_
  refine At.yl (Yl.lane (v := s 15) Tryd.underlying48 rfl hb rfl hoff rfl rfl) rfl ?_
  refine At.yl (Yl.move rfl) rfl ?_
  refine At.yl (Yl.xorU rfl rfl) rfl ?_
  refine At.yl (Yl.assign rfl) rfl ?_
  refine At.nil (At.nmThen ?_)
  refine At.weaken (L' := [(0, _), (15, _), (4, _), (5, _), (6, _), (7, _), (8, _), (9, _), (10, _), (11, _), (12, _), (13, _), (14, _)]) (.cons rfl (.cons rfl (.cons rfl (.cons rfl (.cons rfl (.cons rfl (.cons rfl (.cons rfl (.cons rfl (.cons rfl (.cons rfl (.cons rfl (.cons rfl (.nil)))))))))))))) ?_
  refine At.seq ?_
  refine (At.region ?_)
  refine At.yl (Yl.move rfl) rfl ?_
  refine At.yl (Yl.shlU (m := 36) rfl rfl rfl) rfl ?_
  refine At.yl (Yl.move rfl) rfl ?_
  refine At.yl (Yl.shrU (m := 28) rfl rfl rfl) rfl ?_
  refine At.yl (Yl.orU rfl rfl) rfl ?_
  refine At.yl (Yl.assign rfl) rfl ?_
  refine At.nil (At.nmThen ?_)
  refine At.weaken (L' := [(0, _), (15, _), (4, _), (5, _), (6, _), (7, _), (8, _), (9, _), (10, _), (11, _), (12, _), (13, _), (14, _)]) (.cons rfl (.cons rfl (.cons rfl (.cons rfl (.cons rfl (.cons rfl (.cons rfl (.cons rfl (.cons rfl (.cons rfl (.cons rfl (.cons rfl (.cons rfl (.nil)))))))))))))) ?_
  refine At.seq ?_
  refine (At.region ?_)
  refine At.yl (Yl.move rfl) rfl ?_
  refine At.yl (Yl.nilCheck rfl) rfl ?_
  refine At.yl (Yl.indexArr Tryd.underlying52 info48 bq48 rfl rfl rfl (by decide)) rfl ?_
  refine At.yl (Yl.lane (v := s 16) Tryd.underlying48 rfl hb rfl hoff rfl rfl) rfl ?_
  refine At.yl (Yl.move rfl) rfl ?_
  refine At.yl (Yl.xorU rfl rfl) rfl ?_
  refine At.yl (Yl.assign rfl) rfl ?_
  refine At.nil (At.nmThen ?_)
  refine At.weaken (L' := [(0, _), (15, _), (4, _), (5, _), (6, _), (7, _), (8, _), (9, _), (10, _), (11, _), (12, _), (13, _), (14, _)]) (.cons rfl (.cons rfl (.cons rfl (.cons rfl (.cons rfl (.cons rfl (.cons rfl (.cons rfl (.cons rfl (.cons rfl (.cons rfl (.cons rfl (.cons rfl (.nil)))))))))))))) ?_
  refine At.seq ?_
  refine (At.region ?_)
  refine At.yl (Yl.move rfl) rfl ?_
  refine At.yl (Yl.shlU (m := 10) rfl rfl rfl) rfl ?_
  refine At.yl (Yl.move rfl) rfl ?_
  refine At.yl (Yl.shrU (m := 54) rfl rfl rfl) rfl ?_
  refine At.yl (Yl.orU rfl rfl) rfl ?_
  refine At.yl (Yl.assign rfl) rfl ?_
  refine At.nil (At.nmThen ?_)
  refine At.weaken (L' := [(0, _), (15, _), (4, _), (5, _), (6, _), (7, _), (8, _), (9, _), (10, _), (11, _), (12, _), (13, _), (14, _)]) (.cons rfl (.cons rfl (.cons rfl (.cons rfl (.cons rfl (.cons rfl (.cons rfl (.cons rfl (.cons rfl (.cons rfl (.cons rfl (.cons rfl (.cons rfl (.nil)))))))))))))) ?_
  refine At.seq ?_
  refine (At.region ?_)
  refine At.yl (Yl.move rfl) rfl ?_
  refine At.yl (Yl.nilCheck rfl) rfl ?_
  refine At.yl (Yl.indexArr Tryd.underlying52 info48 bq48 rfl rfl rfl (by decide)) rfl ?_
  refine At.yl (Yl.lane (v := s 17) Tryd.underlying48 rfl hb rfl hoff rfl rfl) rfl ?_
  refine At.yl (Yl.move rfl) rfl ?_
  refine At.yl (Yl.xorU rfl rfl) rfl ?_
  refine At.yl (Yl.assign rfl) rfl ?_
  refine At.nil (At.nmThen ?_)
  refine At.weaken (L' := [(0, _), (15, _), (4, _), (5, _), (6, _), (7, _), (8, _), (9, _), (10, _), (11, _), (12, _), (13, _), (14, _)]) (.cons rfl (.cons rfl (.cons rfl (.cons rfl (.cons rfl (.cons rfl (.cons rfl (.cons rfl (.cons rfl (.cons rfl (.cons rfl (.cons rfl (.cons rfl (.nil)))))))))))))) ?_
  refine At.seq ?_
  refine (At.region ?_)
  refine At.yl (Yl.move rfl) rfl ?_
  refine At.yl (Yl.shlU (m := 15) rfl rfl rfl) rfl ?_
  refine At.yl (Yl.move rfl) rfl ?_
  refine At.yl (Yl.shrU (m := 49) rfl rfl rfl) rfl ?_
  refine At.yl (Yl.orU rfl rfl) rfl ?_
  refine At.yl (Yl.assign rfl) rfl ?_
  refine At.nil (At.nmThen ?_)
  refine At.weaken (L' := [(0, _), (15, _), (4, _), (5, _), (6, _), (7, _), (8, _), (9, _), (10, _), (11, _), (12, _), (13, _), (14, _)]) (.cons rfl (.cons rfl (.cons rfl (.cons rfl (.cons rfl (.cons rfl (.cons rfl (.cons rfl (.cons rfl (.cons rfl (.cons rfl (.cons rfl (.cons rfl (.nil)))))))))))))) ?_
  refine At.seq ?_
  refine (At.region ?_)
  refine At.yl (Yl.move rfl) rfl ?_
  refine At.yl (Yl.nilCheck rfl) rfl ?_
  refine At.yl (Yl.indexArr Tryd.underlying52 info48 bq48 rfl rfl rfl (by decide)) rfl ?_
  refine At.yl (Yl.lane (v := s 18) Tryd.underlying48 rfl hb rfl hoff rfl rfl) rfl ?_
  refine At.yl (Yl.move rfl) rfl ?_
  refine At.yl (Yl.xorU rfl rfl) rfl ?_
  refine At.yl (Yl.assign rfl) rfl ?_
  refine At.nil (At.nmThen ?_)
  refine At.weaken (L' := [(0, _), (15, _), (4, _), (5, _), (6, _), (7, _), (8, _), (9, _), (10, _), (11, _), (12, _), (13, _), (14, _)]) (.cons rfl (.cons rfl (.cons rfl (.cons rfl (.cons rfl (.cons rfl (.cons rfl (.cons rfl (.cons rfl (.cons rfl (.cons rfl (.cons rfl (.cons rfl (.nil)))))))))))))) ?_
  refine At.seq ?_
  refine (At.region ?_)
  refine At.yl (Yl.move rfl) rfl ?_
  refine At.yl (Yl.shlU (m := 56) rfl rfl rfl) rfl ?_
  refine At.yl (Yl.move rfl) rfl ?_
  refine At.yl (Yl.shrU (m := 8) rfl rfl rfl) rfl ?_
  refine At.yl (Yl.orU rfl rfl) rfl ?_
  refine At.yl (Yl.assign rfl) rfl ?_
  refine At.nil (At.nmThen ?_)
  refine At.weaken (L' := [(0, _), (15, _), (4, _), (5, _), (6, _), (7, _), (8, _), (9, _), (10, _), (11, _), (12, _), (13, _), (14, _)]) (.cons rfl (.cons rfl (.cons rfl (.cons rfl (.cons rfl (.cons rfl (.cons rfl (.cons rfl (.cons rfl (.cons rfl (.cons rfl (.cons rfl (.cons rfl (.nil)))))))))))))) ?_
  refine At.seq ?_
  refine (At.region ?_)
  refine At.yl (Yl.move rfl) rfl ?_
  refine At.yl (Yl.nilCheck rfl) rfl ?_
  refine At.yl (Yl.indexArr Tryd.underlying52 info48 bq48 rfl rfl rfl (by decide)) rfl ?_
  refine At.yl (Yl.lane (v := s 19) Tryd.underlying48 rfl hb rfl hoff rfl rfl) rfl ?_
  refine At.yl (Yl.move rfl) rfl ?_
  refine At.yl (Yl.xorU rfl rfl) rfl ?_
  refine At.yl (Yl.assign rfl) rfl ?_
  refine At.nil (At.nmThen ?_)
  refine At.weaken (L' := [(0, _), (15, _), (4, _), (5, _), (6, _), (7, _), (8, _), (9, _), (10, _), (11, _), (12, _), (13, _), (14, _)]) (.cons rfl (.cons rfl (.cons rfl (.cons rfl (.cons rfl (.cons rfl (.cons rfl (.cons rfl (.cons rfl (.cons rfl (.cons rfl (.cons rfl (.cons rfl (.nil)))))))))))))) ?_
  refine At.seq ?_
  refine (At.region ?_)
  refine At.yl (Yl.move rfl) rfl ?_
  refine At.yl (Yl.shlU (m := 27) rfl rfl rfl) rfl ?_
  refine At.yl (Yl.move rfl) rfl ?_
  refine At.yl (Yl.shrU (m := 37) rfl rfl rfl) rfl ?_
  refine At.yl (Yl.orU rfl rfl) rfl ?_
  refine At.yl (Yl.assign rfl) rfl ?_
  refine At.nil (At.nmThen ?_)
  refine At.weaken (L' := [(0, _), (15, _), (4, _), (5, _), (6, _), (7, _), (8, _), (9, _), (10, _), (11, _), (12, _), (13, _), (14, _)]) (.cons rfl (.cons rfl (.cons rfl (.cons rfl (.cons rfl (.cons rfl (.cons rfl (.cons rfl (.cons rfl (.cons rfl (.cons rfl (.cons rfl (.cons rfl (.nil)))))))))))))) ?_
  refine At.seq ?_
  refine (At.region ?_)
  refine At.yl (Yl.move rfl) rfl ?_
  refine At.yl (Yl.move rfl) rfl ?_
  refine At.yl (Yl.move rfl) rfl ?_
  refine At.yl (Yl.move rfl) rfl ?_
  refine At.yl (Yl.andNotU rfl rfl) rfl ?_
  refine At.yl (Yl.xorU rfl rfl) rfl ?_
  refine At.yl (Yl.nilCheck rfl) rfl ?_
  refine At.yl (Yl.indexArr Tryd.underlying52 info48 bq48 rfl rfl rfl (by decide)) rfl ?_
  refine At.efS (Ef.lane info48 bq48 hb rfl hoff rfl rfl) ?_
  refine At.nil (At.nmThen ?_)
  refine At.weaken (L' := [(0, _), (15, _), (4, _), (5, _), (6, _), (7, _), (8, _), (9, _), (10, _), (11, _), (12, _), (13, _), (14, _)]) (.cons rfl (.cons rfl (.cons rfl (.cons rfl (.cons rfl (.cons rfl (.cons rfl (.cons rfl (.cons rfl (.cons rfl (.cons rfl (.cons rfl (.cons rfl (.nil)))))))))))))) ?_
  refine At.seq ?_
  refine (At.region ?_)
  refine At.yl (Yl.move rfl) rfl ?_
  refine At.yl (Yl.move rfl) rfl ?_
  refine At.yl (Yl.move rfl) rfl ?_
  refine At.yl (Yl.move rfl) rfl ?_
  refine At.yl (Yl.andNotU rfl rfl) rfl ?_
  refine At.yl (Yl.xorU rfl rfl) rfl ?_
  refine At.yl (Yl.nilCheck rfl) rfl ?_
  refine At.yl (Yl.indexArr Tryd.underlying52 info48 bq48 rfl rfl rfl (by decide)) rfl ?_
  refine At.efS (Ef.lane info48 bq48 hb rfl hoff rfl rfl) ?_
  refine At.nil (At.nmThen ?_)
  refine At.weaken (L' := [(0, _), (15, _), (4, _), (5, _), (6, _), (7, _), (8, _), (9, _), (10, _), (11, _), (12, _), (13, _), (14, _)]) (.cons rfl (.cons rfl (.cons rfl (.cons rfl (.cons rfl (.cons rfl (.cons rfl (.cons rfl (.cons rfl (.cons rfl (.cons rfl (.cons rfl (.cons rfl (.nil)))))))))))))) ?_
  refine At.seq ?_
  refine (At.region ?_)
  refine At.yl (Yl.move rfl) rfl ?_
  refine At.yl (Yl.move rfl) rfl ?_
  refine At.yl (Yl.move rfl) rfl ?_
  refine At.yl (Yl.move rfl) rfl ?_
  refine At.yl (Yl.andNotU rfl rfl) rfl ?_
  refine At.yl (Yl.xorU rfl rfl) rfl ?_
  refine At.yl (Yl.nilCheck rfl) rfl ?_
  refine At.yl (Yl.indexArr Tryd.underlying52 info48 bq48 rfl rfl rfl (by decide)) rfl ?_
  refine At.efS (Ef.lane info48 bq48 hb rfl hoff rfl rfl) ?_
  refine At.nil (At.nmThen ?_)
  refine At.weaken (L' := [(0, _), (15, _), (4, _), (5, _), (6, _), (7, _), (8, _), (9, _), (10, _), (11, _), (12, _), (13, _), (14, _)]) (.cons rfl (.cons rfl (.cons rfl (.cons rfl (.cons rfl (.cons rfl (.cons rfl (.cons rfl (.cons rfl (.cons rfl (.cons rfl (.cons rfl (.cons rfl (.nil)))))))))))))) ?_
  refine At.seq ?_
  refine (At.region ?_)
  refine At.yl (Yl.move rfl) rfl ?_
  refine At.yl (Yl.move rfl) rfl ?_
  refine At.yl (Yl.move rfl) rfl ?_
  refine At.yl (Yl.move rfl) rfl ?_
  refine At.yl (Yl.andNotU rfl rfl) rfl ?_
  refine At.yl (Yl.xorU rfl rfl) rfl ?_
  refine At.yl (Yl.nilCheck rfl) rfl ?_
  refine At.yl (Yl.indexArr Tryd.underlying52 info48 bq48 rfl rfl rfl (by decide)) rfl ?_
  refine At.efS (Ef.lane info48 bq48 hb rfl hoff rfl rfl) ?_
  refine At.nil (At.nmThen ?_)
  refine At.weaken (L' := [(0, _), (15, _), (4, _), (5, _), (6, _), (7, _), (8, _), (9, _), (10, _), (11, _), (12, _), (13, _), (14, _)]) (.cons rfl (.cons rfl (.cons rfl (.cons rfl (.cons rfl (.cons rfl (.cons rfl (.cons rfl (.cons rfl (.cons rfl (.cons rfl (.cons rfl (.cons rfl (.nil)))))))))))))) ?_
  refine At.seq ?_
  refine (At.region ?_)
  refine At.yl (Yl.move rfl) rfl ?_
  refine At.yl (Yl.move rfl) rfl ?_
  refine At.yl (Yl.move rfl) rfl ?_
  refine At.yl (Yl.move rfl) rfl ?_
  refine At.yl (Yl.andNotU rfl rfl) rfl ?_
  refine At.yl (Yl.xorU rfl rfl) rfl ?_
  refine At.yl (Yl.nilCheck rfl) rfl ?_
  refine At.yl (Yl.indexArr Tryd.underlying52 info48 bq48 rfl rfl rfl (by decide)) rfl ?_
  refine At.efS (Ef.lane info48 bq48 hb rfl hoff rfl rfl) ?_
  refine At.nil (At.nmThen ?_)
  refine At.weaken (L' := [(0, _), (15, _), (4, _), (5, _), (6, _), (7, _), (8, _), (9, _), (10, _), (11, _), (12, _), (13, _), (14, _)]) (.cons rfl (.cons rfl (.cons rfl (.cons rfl (.cons rfl (.cons rfl (.cons rfl (.cons rfl (.cons rfl (.cons rfl (.cons rfl (.cons rfl (.cons rfl (.nil)))))))))))))) ?_
  refine At.seq ?_
  refine (At.region ?_)
  refine At.yl (Yl.move rfl) rfl ?_
  refine At.yl (Yl.nilCheck rfl) rfl ?_
  refine At.yl (Yl.indexArr Tryd.underlying52 info48 bq48 rfl rfl rfl (by decide)) rfl ?_
  refine At.yl (Yl.lane (v := s 20) Tryd.underlying48 rfl hb rfl hoff rfl rfl) rfl ?_
  refine At.yl (Yl.move rfl) rfl ?_
  refine At.yl (Yl.xorU rfl rfl) rfl ?_
  refine At.yl (Yl.assign rfl) rfl ?_
  refine At.nil (At.nmThen ?_)
  refine At.weaken (L' := [(0, _), (15, _), (4, _), (5, _), (6, _), (7, _), (8, _), (9, _), (10, _), (11, _), (12, _), (13, _), (14, _)]) (.cons rfl (.cons rfl (.cons rfl (.cons rfl (.cons rfl (.cons rfl (.cons rfl (.cons rfl (.cons rfl (.cons rfl (.cons rfl (.cons rfl (.cons rfl (.nil)))))))))))))) ?_
  refine At.seq ?_
  refine (At.region ?_)
  refine At.yl (Yl.move rfl) rfl ?_
  refine At.yl (Yl.shlU (m := 41) rfl rfl rfl) rfl ?_
  refine At.yl (Yl.move rfl) rfl ?_
  refine At.yl (Yl.shrU (m := 23) rfl rfl rfl) rfl ?_
  refine At.yl (Yl.orU rfl rfl) rfl ?_
  refine At.yl (Yl.assign rfl) rfl ?_
  refine At.nil (At.nmThen ?_)
  refine At.weaken (L' := [(0, _), (15, _), (4, _), (5, _), (6, _), (7, _), (8, _), (9, _), (10, _), (11, _), (12, _), (13, _), (14, _)]) (.cons rfl (.cons rfl (.cons rfl (.cons rfl (.cons rfl (.cons rfl (.cons rfl (.cons rfl (.cons rfl (.cons rfl (.cons rfl (.cons rfl (.cons rfl (.nil)))))))))))))) ?_
  refine At.seq ?_
  refine (At.region ?_)
  refine At.yl (Yl.move rfl) rfl ?_
  refine At.yl (Yl.nilCheck rfl) rfl ?_
  refine At.yl (Yl.indexArr Tryd.underlying52 info48 bq48 rfl rfl rfl (by decide)) rfl ?_
  refine At.yl (Yl.lane (v := s 21) Tryd.underlying48 rfl hb rfl hoff rfl rfl) rfl ?_
  refine At.yl (Yl.move rfl) rfl ?_
  refine At.yl (Yl.xorU rfl rfl) rfl ?_
  refine At.yl (Yl.assign rfl) rfl ?_
  refine At.nil (At.nmThen ?_)
  refine At.weaken (L' := [(0, _), (15, _), (4, _), (5, _), (6, _), (7, _), (8, _), (9, _), (10, _), (11, _), (12, _), (13, _), (14, _)]) (.cons rfl (.cons rfl (.cons rfl (.cons rfl (.cons rfl (.cons rfl (.cons rfl (.cons rfl (.cons rfl (.cons rfl (.cons rfl (.cons rfl (.cons rfl (.nil)))))))))))))) ?_
  refine At.seq ?_
  refine (At.region ?_)
  refine At.yl (Yl.move rfl) rfl ?_
  refine At.yl (Yl.shlU (m := 2) rfl rfl rfl) rfl ?_
  refine At.yl (Yl.move rfl) rfl ?_
  refine At.yl (Yl.shrU (m := 62) rfl rfl rfl) rfl ?_
  refine At.yl (Yl.orU rfl rfl) rfl ?_
  refine At.yl (Yl.assign rfl) rfl ?_
  refine At.nil (At.nmThen ?_)
  refine At.weaken (L' := [(0, _), (15, _), (4, _), (5, _), (6, _), (7, _), (8, _), (9, _), (10, _), (11, _), (12, _), (13, _), (14, _)]) (.cons rfl (.cons rfl (.cons rfl (.cons rfl (.cons rfl (.cons rfl (.cons rfl (.cons rfl (.cons rfl (.cons rfl (.cons rfl (.cons rfl (.cons rfl (.nil)))))))))))))) ?_
  refine At.seq ?_
  refine (At.region ?_)
  refine At.yl (Yl.move rfl) rfl ?_
  refine At.yl (Yl.nilCheck rfl) rfl ?_
  refine At.yl (Yl.indexArr Tryd.underlying52 info48 bq48 rfl rfl rfl (by decide)) rfl ?_
  refine At.yl (Yl.lane (v := s 22) Tryd.underlying48 rfl hb rfl hoff rfl rfl) rfl ?_
  refine At.yl (Yl.move rfl) rfl ?_
  refine At.yl (Yl.xorU rfl rfl) rfl ?_
  refine At.yl (Yl.assign rfl) rfl ?_
  refine At.nil (At.nmThen ?_)
  refine At.weaken (L' := [(0, _), (15, _), (4, _), (5, _), (6, _), (7, _), (8, _), (9, _), (10, _), (11, _), (12, _), (13, _), (14, _)]) (.cons rfl (.cons rfl (.cons rfl (.cons rfl (.cons rfl (.cons rfl (.cons rfl (.cons rfl (.cons rfl (.cons rfl (.cons rfl (.cons rfl (.cons rfl (.nil)))))))))))))) ?_
  refine At.seq ?_
  refine (At.region ?_)
  refine At.yl (Yl.move rfl) rfl ?_
  refine At.yl (Yl.shlU (m := 62) rfl rfl rfl) rfl ?_
  refine At.yl (Yl.move rfl) rfl ?_
  refine At.yl (Yl.shrU (m := 2) rfl rfl rfl) rfl ?_
  refine At.yl (Yl.orU rfl rfl) rfl ?_
  refine At.yl (Yl.assign rfl) rfl ?_
  refine At.nil (At.nmThen ?_)
  refine At.weaken (L' := [(0, _), (15, _), (4, _), (5, _), (6, _), (7, _), (8, _), (9, _), (10, _), (11, _), (12, _), (13, _), (14, _)]) (.cons rfl (.cons rfl (.cons rfl (.cons rfl (.cons rfl (.cons rfl (.cons rfl (.cons rfl (.cons rfl (.cons rfl (.cons rfl (.cons rfl (.cons rfl (.nil)))))))))))))) ?_
  refine At.seq ?_
  refine (At.region ?_)
  refine At.yl (Yl.move rfl) rfl ?_
  refine At.yl (Yl.nilCheck rfl) rfl ?_
  refine At.yl (Yl.indexArr Tryd.underlying52 info48 bq48 rfl rfl rfl (by decide)) rfl ?_
  refine At.yl (Yl.lane (v := s 23) Tryd.underlying48 rfl hb rfl hoff rfl rfl) rfl ?_
  refine At.yl (Yl.move rfl) rfl ?_
  refine At.yl (Yl.xorU rfl rfl) rfl ?_
  refine At.yl (Yl.assign rfl) rfl ?_
  refine At.nil (At.nmThen ?_)
  refine At.weaken (L' := [(0, _), (15, _), (4, _), (5, _), (6, _), (7, _), (8, _), (9, _), (10, _), (11, _), (12, _), (13, _), (14, _)]) (.cons rfl (.cons rfl (.cons rfl (.cons rfl (.cons rfl (.cons rfl (.cons rfl (.cons rfl (.cons rfl (.cons rfl (.cons rfl (.cons rfl (.cons rfl (.nil)))))))))))))) ?_
  refine At.seq ?_
  refine (At.region ?_)
  refine At.yl (Yl.move rfl) rfl ?_
  refine At.yl (Yl.shlU (m := 55) rfl rfl rfl) rfl ?_
  refine At.yl (Yl.move rfl) rfl ?_
  refine At.yl (Yl.shrU (m := 9) rfl rfl rfl) rfl ?_
  refine At.yl (Yl.orU rfl rfl) rfl ?_
  refine At.yl (Yl.assign rfl) rfl ?_
  refine At.nil (At.nmThen ?_)
  refine At.weaken (L' := [(0, _), (15, _), (4, _), (5, _), (6, _), (7, _), (8, _), (9, _), (10, _), (11, _), (12, _), (13, _), (14, _)]) (.cons rfl (.cons rfl (.cons rfl (.cons rfl (.cons rfl (.cons rfl (.cons rfl (.cons rfl (.cons rfl (.cons rfl (.cons rfl (.cons rfl (.cons rfl (.nil)))))))))))))) ?_
  refine At.seq ?_
  refine (At.region ?_)
  refine At.yl (Yl.move rfl) rfl ?_
  refine At.yl (Yl.nilCheck rfl) rfl ?_
  refine At.yl (Yl.indexArr Tryd.underlying52 info48 bq48 rfl rfl rfl (by decide)) rfl ?_
  refine At.yl (Yl.lane (v := s 24) Tryd.underlying48 rfl hb rfl hoff rfl rfl) rfl ?_
  refine At.yl (Yl.move rfl) rfl ?_
  refine At.yl (Yl.xorU rfl rfl) rfl ?_
  refine At.yl (Yl.assign rfl) rfl ?_
  refine At.nil (At.nmThen ?_)
  refine At.weaken (L' := [(0, _), (15, _), (4, _), (5, _), (6, _), (7, _), (8, _), (9, _), (10, _), (11, _), (12, _), (13, _), (14, _)]) (.cons rfl (.cons rfl (.cons rfl (.cons rfl (.cons rfl (.cons rfl (.cons rfl (.cons rfl (.cons rfl (.cons rfl (.cons rfl (.cons rfl (.cons rfl (.nil)))))))))))))) ?_
  refine At.seq ?_
  refine (At.region ?_)
  refine At.yl (Yl.move rfl) rfl ?_
  refine At.yl (Yl.shlU (m := 39) rfl rfl rfl) rfl ?_
  refine At.yl (Yl.move rfl) rfl ?_
  refine At.yl (Yl.shrU (m := 25) rfl rfl rfl) rfl ?_
  refine At.yl (Yl.orU rfl rfl) rfl ?_
  refine At.yl (Yl.assign rfl) rfl ?_
  refine At.nil (At.nmThen ?_)
  refine At.weaken (L' := [(0, _), (15, _), (4, _), (5, _), (6, _), (7, _), (8, _), (9, _), (10, _), (11, _), (12, _), (13, _), (14, _)]) (.cons rfl (.cons rfl (.cons rfl (.cons rfl (.cons rfl (.cons rfl (.cons rfl (.cons rfl (.cons rfl (.cons rfl (.cons rfl (.cons rfl (.cons rfl (.nil)))))))))))))) ?_
  refine At.seq ?_
  refine (At.region ?_)
  refine At.yl (Yl.move rfl) rfl ?_
  refine At.yl (Yl.move rfl) rfl ?_
  refine At.yl (Yl.move rfl) rfl ?_
  refine At.yl (Yl.move rfl) rfl ?_
  refine At.yl (Yl.andNotU rfl rfl) rfl ?_
  refine At.yl (Yl.xorU rfl rfl) rfl ?_
  refine At.yl (Yl.nilCheck rfl) rfl ?_
  refine At.yl (Yl.indexArr Tryd.underlying52 info48 bq48 rfl rfl rfl (by decide)) rfl ?_
  refine At.efS (Ef.lane info48 bq48 hb rfl hoff rfl rfl) ?_
  refine At.nil (At.nmThen ?_)
  refine At.weaken (L' := [(0, _), (15, _), (4, _), (5, _), (6, _), (7, _), (8, _), (9, _), (10, _), (11, _), (12, _), (13, _), (14, _)]) (.cons rfl (.cons rfl (.cons rfl (.cons rfl (.cons rfl (.cons rfl (.cons rfl (.cons rfl (.cons rfl (.cons rfl (.cons rfl (.cons rfl (.cons rfl (.nil)))))))))))))) ?_
  refine At.seq ?_
  refine (At.region ?_)
  refine At.yl (Yl.move rfl) rfl ?_
  refine At.yl (Yl.move rfl) rfl ?_
  refine At.yl (Yl.move rfl) rfl ?_
  refine At.yl (Yl.move rfl) rfl ?_
  refine At.yl (Yl.andNotU rfl rfl) rfl ?_
  refine At.yl (Yl.xorU rfl rfl) rfl ?_
  refine At.yl (Yl.nilCheck rfl) rfl ?_
  refine At.yl (Yl.indexArr Tryd.underlying52 info48 bq48 rfl rfl rfl (by decide)) rfl ?_
  refine At.efS (Ef.lane info48 bq48 hb rfl hoff rfl rfl) ?_
  refine At.nil (At.nmThen ?_)
  refine At.weaken (L' := [(0, _), (15, _), (4, _), (5, _), (6, _), (7, _), (8, _), (9, _), (10, _), (11, _), (12, _), (13, _), (14, _)]) (.cons rfl (.cons rfl (.cons rfl (.cons rfl (.cons rfl (.cons rfl (.cons rfl (.cons rfl (.cons rfl (.cons rfl (.cons rfl (.cons rfl (.cons rfl (.nil)))))))))))))) ?_
  refine At.seq ?_
  refine (At.region ?_)
  refine At.yl (Yl.move rfl) rfl ?_
  refine At.yl (Yl.move rfl) rfl ?_
  refine At.yl (Yl.move rfl) rfl ?_
  refine At.yl (Yl.move rfl) rfl ?_
  refine At.yl (Yl.andNotU rfl rfl) rfl ?_
  refine At.yl (Yl.xorU rfl rfl) rfl ?_
  refine At.yl (Yl.nilCheck rfl) rfl ?_
  refine At.yl (Yl.indexArr Tryd.underlying52 info48 bq48 rfl rfl rfl (by decide)) rfl ?_
  refine At.efS (Ef.lane info48 bq48 hb rfl hoff rfl rfl) ?_
  refine At.nil (At.nmThen ?_)
  refine At.weaken (L' := [(0, _), (15, _), (4, _), (5, _), (6, _), (7, _), (8, _), (9, _), (10, _), (11, _), (12, _), (13, _), (14, _)]) (.cons rfl (.cons rfl (.cons rfl (.cons rfl (.cons rfl (.cons rfl (.cons rfl (.cons rfl (.cons rfl (.cons rfl (.cons rfl (.cons rfl (.cons rfl (.nil)))))))))))))) ?_
  refine At.seq ?_
  refine (At.region ?_)
  refine At.yl (Yl.move rfl) rfl ?_
  refine At.yl (Yl.move rfl) rfl ?_
  refine At.yl (Yl.move rfl) rfl ?_
  refine At.yl (Yl.move rfl) rfl ?_
  refine At.yl (Yl.andNotU rfl rfl) rfl ?_
  refine At.yl (Yl.xorU rfl rfl) rfl ?_
  refine At.yl (Yl.nilCheck rfl) rfl ?_
  refine At.yl (Yl.indexArr Tryd.underlying52 info48 bq48 rfl rfl rfl (by decide)) rfl ?_
  refine At.efS (Ef.lane info48 bq48 hb rfl hoff rfl rfl) ?_
  refine At.nil (At.nmThen ?_)
  refine At.weaken (L' := [(0, _), (15, _), (4, _), (5, _), (6, _), (7, _), (8, _), (9, _), (10, _), (11, _), (12, _), (13, _), (14, _)]) (.cons rfl (.cons rfl (.cons rfl (.cons rfl (.cons rfl (.cons rfl (.cons rfl (.cons rfl (.cons rfl (.cons rfl (.cons rfl (.cons rfl (.cons rfl (.nil)))))))))))))) ?_
  refine (At.region ?_)
  refine At.yl (Yl.move rfl) rfl ?_
  refine At.yl (Yl.move rfl) rfl ?_
  refine At.yl (Yl.move rfl) rfl ?_
  refine At.yl (Yl.move rfl) rfl ?_
  refine At.yl (Yl.andNotU rfl rfl) rfl ?_
  refine At.yl (Yl.xorU rfl rfl) rfl ?_
  refine At.yl (Yl.nilCheck rfl) rfl ?_
  refine At.yl (Yl.indexArr Tryd.underlying52 info48 bq48 rfl rfl rfl (by decide)) rfl ?_
  refine At.efS (Ef.lane info48 bq48 hb rfl hoff rfl rfl) ?_
  refine At.nil ?_
  refine At.weaken (L' := [(0, _), (15, _)]) (.cons rfl (.cons rfl (.nil))) ?_
  refine k _ (fun j hj => ?_)
  match j, hj with
  | 0, _ => rfl
  | 1, _ => rfl
  | 2, _ => rfl
  | 3, _ => rfl
  | 4, _ => rfl
  | 5, _ => rfl
  | 6, _ => rfl
  | 7, _ => rfl
  | 8, _ => rfl
  | 9, _ => rfl
  | 10, _ => rfl
  | 11, _ => rfl
  | 12, _ => rfl
  | 13, _ => rfl
  | 14, _ => rfl
  | 15, _ => rfl
  | 16, _ => rfl
  | 17, _ => rfl
  | 18, _ => rfl
  | 19, _ => rfl
  | 20, _ => rfl
  | 21, _ => rfl
  | 22, _ => rfl
  | 23, _ => rfl
  | 24, _ => rfl
  | j + 25, h => exact absurd h (by omega)

end
end Go.Proofs.YtbnepbdlhpkiiaaDoor
