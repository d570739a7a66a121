/- What all nine cards share: the program's closed facts, the table of constants in the memory, a world for the witness. -/
import Derived.Test.YtbnepbdlhpkiiaaDoorCards
import Derived.Test.YtbnepbdlhpkiiaaDoorTie
import Derived.WalkKit
import Derived.ProofKit
import Derived.OpenShut
import Derived.Deep.DeepHandedRow
import Derived.Lib.LaidTab
import Derived.Test.YtbnepbdlhpkiiaaDoorSxOpen
import Derived.Test.YtbnepbdlhpkiiaaDoorSxKp
namespace Go.Proofs.YtbnepbdlhpkiiaaDoor
open Go.Sx Go.ChangeShapes Go.WideShapes Go.ChangeAt Go.RowKit

theorem own : ownKnob Tryd.prog.godebug = none := by kernel_rfl
theorem gRC : Tryd.prog.globalNamed "loop.example/pub-g03031/pub/circl/inner/sha3.RC" = some 1 := by kernel_rfl
theorem gRCType : (Tryd.prog.globals[1]?).map (·.type) = some 93 := by kernel_rfl
theorem cells93 : Tryd.prog.cellsOf 93 = 24 := by kernel_rfl
theorem cells48 : Tryd.prog.cellsOf 48 = 1 := by kernel_rfl
theorem cells5 : Tryd.prog.cellsOf 5 = 1 := by kernel_rfl
theorem cells22 : Tryd.prog.cellsOf 22 = 200 := by kernel_rfl
theorem kids : Kids Tryd.prog (· < Tryd.prog.types.size) := kids_rows (by kernel_rfl) (by kernel_rfl)
theorem full : ∀ t e, t < Tryd.prog.types.size → Tryd.prog.underlying t = some (.slice e) → 0 < Tryd.prog.cellsOf e := slices_full_of Tryd.prog (by kernel_rfl)

theorem typesB : Nat.ble 94 Tryd.prog.types.size = true := by kernel_rfl
theorem types94 : 94 ≤ Tryd.prog.types.size := Nat.le_of_ble_eq_true typesB
theorem vars_rc : ∀ n ∈ ["loop.example/pub-g03031/pub/circl/inner/sha3.RC"], ∀ g t, Tryd.prog.globalNamed n = some g → (Tryd.prog.globals[g]?).map (·.type) = some t → t < Tryd.prog.types.size := by
  intro n hn g t hg ht
  obtain rfl : n = _ := by simpa using hn
  obtain rfl := Option.some.inj (gRC.symm.trans hg)
  obtain rfl := Option.some.inj (gRCType.symm.trans ht)
  exact Nat.lt_of_lt_of_le (by decide : (93 : Nat) < 94) types94

theorem rc_cells : ((rcL.map fun (n : Nat) => (n : Int)).map fun z => Value.int .u64 z).toArray = arrU 24 rcF := by
  apply Array.ext (by rw [arrU_size]; rfl)
  intro i h1 h2
  have hi : i < 24 := by rwa [arrU_size] at h2
  have h5 := arrU_get rcF hi
  rw [Array.getElem?_eq_getElem h2] at h5
  rw [Option.some.inj h5]
  have this : ∀ j, j < 24 → (((rcL.map fun (n : Nat) => (n : Int)).map fun z => Value.int .u64 z).toArray)[j]? = some (U (rcF j)) := by
    intro j hj
    have hl : rcL.length = 24 := rfl
    have e : ∀ j, j < 24 → ((rcF j).toNat) = rcL.getD j 0 := by decide +kernel
    simp only [List.getElem?_toArray, List.getElem?_map, List.getElem?_eq_getElem (show j < rcL.length by omega), Option.map_some]
    have e2 := e j hj
    rw [List.getD_eq_getElem?_getD, List.getElem?_eq_getElem (show j < rcL.length by omega), Option.getD_some] at e2
    rw [U, e2]
  have h6 := this i hi
  rw [Array.getElem?_eq_getElem h1] at h6
  exact Option.some.inj h6

theorem table {W : World} (h : laidMet Tryd.prog [("loop.example/pub-g03031/pub/circl/inner/sha3.RC", Rows.laid_loop_example_pub_g03031_pub_circl_inner_sha3_RC)] W) : ∃ T fz, W.heap[1]? = some (.cells (arrU 24 rcF) T fz) := by
  have h1 : Lib.TabIs Tryd.prog W "loop.example/pub-g03031/pub/circl/inner/sha3.RC" .u64 (rcL.map fun (n : Nat) => (n : Int)) :=
    Lib.tabIs_of_head (rest := []) gRC gRCType Tryd.underlying93 Tryd.underlying48 cells48 cells93 h
  unfold Lib.TabIs World.var? at h1
  rw [gRC, Option.bind_some, rc_cells] at h1
  cases e : W.heap[1]? with
  | none => rw [e] at h1; cases h1
  | some o =>
    rw [e] at h1
    cases o with
    | cells cs T fz => exact ⟨T, fz, by rw [show cs = arrU 24 rcF from Option.some.inj h1]⟩
    | _ => cases h1

/-- A world for the witness: the settled one, the table (block 1) holding what its initialiser lays. -/
noncomputable def laidWorld (os : Os) : World :=
  { World.holding Tryd.prog os ⟨#[], #[], []⟩ with heap := (World.holding Tryd.prog os ⟨#[], #[], []⟩).heap.modify 1 fun
      | .cells _ t frozen => .cells ((rcL.map fun (n : Nat) => Value.int .u64 (n : Int)).toArray) t frozen
      | o => o }
end Go.Proofs.YtbnepbdlhpkiiaaDoor
