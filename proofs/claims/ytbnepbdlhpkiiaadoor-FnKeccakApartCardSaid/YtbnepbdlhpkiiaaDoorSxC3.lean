/- Part of the proof: C3. Conditions: those stated. -/
import Derived.Test.YtbnepbdlhpkiiaaDoorSxCom
import Derived.Test.YtbnepbdlhpkiiaaDoorSxL3
namespace Go.Proofs.YtbnepbdlhpkiiaaDoor.fnKeccakApart
open Go.Sx Go.ChangeShapes Go.WideShapes Go.ChangeAt Go.RowKit

set_option maxRecDepth 100000 in
theorem contract (H : Type) (enc : TypeId × Value → H) (W : World) (base : Nat) (args : Array Value) (ds gs : List (DataW H)) (before : List MemPlace)
    (hval : ∀ (j : Nat) t v, Tryd.f3.params[j]? = some t → args[j]? = some v → Value.okWide Tryd.prog W .any base t v)
    (hW : DataW.Whole enc Tryd.prog Tryd.f3.params.toList Rows.fnKeccakApartSpec.vars false W args.toList ds gs before) (hL : laidMetH Tryd.prog Rows.fnKeccakApartRow.laid W) :
    Calls Tryd.prog 3 args W fun e W' => ∃ v, e = .returned v ∧ Rows.fnKeccakApartSpec.post enc Tryd.prog Tryd.f3 false true false false W args v W' := by
  obtain ⟨T, fz, hg⟩ := table hL
  obtain ⟨p, q, hA0, hV, hpq, hfz, hnd⟩ := id hW
  have hA : DataW.TrodAll enc Tryd.prog W 0 (fun _ => true) true Tryd.f3.params.toList args.toList ds p := hA0
  rw [Tryd.params3] at hA hval
  obtain ⟨v0, vs0, d0, ds0, p0, q0, hargs, rfl, rfl, h0, r0⟩ := trodAll_cons hA
  obtain ⟨v1, vs1, d1, ds1, p1, q1, hargs1, rfl, rfl, h1, r1⟩ := trodAll_cons r0
  obtain ⟨v2, vs2, d2, ds2, p2, q2, hargs2, rfl, rfl, h2, r2⟩ := trodAll_cons r1
  obtain ⟨rfl, rfl, rfl⟩ := trodAll_nil r2
  obtain rfl : args = #[v0, v1, v2] := by cases args; simp_all
  obtain ⟨x, rfl⟩ := open_arrB Tryd.underlying22 Tryd.underlying5 cells5 cells22 (hval 0 22 v0 rfl rfl) h0
  obtain ⟨y, rfl⟩ := open_arrB Tryd.underlying22 Tryd.underlying5 cells5 cells22 (hval 1 22 v1 rfl rfl) h1
  obtain ⟨turbo, rfl, _, _⟩ := open_bool Tryd.underlying4 (hval 2 4 v2 rfl rfl) h2
  have hgs : ∃ g, gs = [g] := by
    cases gs with
    | nil => exact hV.elim
    | cons g gs =>
      obtain ⟨_, _, _, _, _, _, _, _, _, _, h, _⟩ := hV
      cases gs with
      | nil => exact ⟨g, rfl⟩
      | cons _ _ => exact h.elim
  obtain ⟨g, rfl⟩ := hgs
  refine (keccakApart_does W.heap x y turbo hg W rfl).mono ?_
  rintro e W' ⟨v, rfl, ⟨rfl, hs⟩, hos, _, hout⟩
  refine ⟨_, rfl, post_true hW hs hos hout kids full ?_ vars_rc (by kernel_rfl) Tryd.underlying4 rfl⟩
  rw [Tryd.params3]
  intro t ht
  simp only [List.mem_cons, List.not_mem_nil, or_false] at ht
  rcases ht with rfl | rfl | rfl
  all_goals exact Nat.lt_of_lt_of_le (by decide) types94

noncomputable def wargs : Array Value := #[.agg (Array.replicate 200 (.int .u8 0)), .agg (Array.replicate 200 (.int .u8 0)), .bool false]
theorem laid_met (os : Os) : laidMet Tryd.prog Rows.fnKeccakApartRow.laid ((laidWorld os).forCall (fun _ _ => 0) ⟨#[], wargs, []⟩).memory :=
  laidMet_of_run' 8 (by kernel_rfl) (by kernel_rfl)
theorem reads (os : Os) {H : Type} (enc : TypeId × Value → H) : ∃ places, DataW.whole enc Tryd.prog ((laidWorld os).forCall (fun _ _ => 0) ⟨#[], wargs, []⟩).memory Tryd.f3.params.toList Rows.fnKeccakApartSpec.vars false wargs.toList 8 =
    some ([.agg (List.replicate 200 (.lit (.int .u8 0))), .agg (List.replicate 200 (.lit (.int .u8 0))), .lit (.bool false)], [.agg (rcL.map fun (n : Nat) => .lit (.int .u64 (n : Int)))], places) :=
  ⟨(List.range 24).map (MemPlace.cell 1 ·), by kernel_rfl⟩

set_option maxRecDepth 100000 in
theorem lifted (os : Os) (started : os.Started) (H : Type) (enc : TypeId × Value → H) (F : Stop.Interp) :
    ReturnsInHanded {} Tryd.checked os 3 .any ((OpenSpec.ofChange Rows.fnKeccakApartSpec).preRow enc Tryd.prog Tryd.f3 Rows.fnKeccakApartRow.domain false Rows.fnKeccakApartRow.laid) (((OpenSpec.ofChange Rows.fnKeccakApartSpec).at F).post enc Tryd.prog Tryd.f3 false true false false) := by
  obtain ⟨places, hx⟩ := reads os enc
  refine returnsInHanded_of_row (C := Tryd.checked) (s := OpenSpec.ofChange Rows.fnKeccakApartSpec) own started (by kernel_rfl) Tryd.func3
    (witness_row_at (enc := enc) (C := Tryd.checked) false (laidWorld os) wargs rfl (by kernel_rfl) (by kernel_rfl) (by kernel_rfl)
      (OpenSpec.preRow_of_cond 8 hx (by kernel_rfl) (fun k hk => by cases hk) (by kernel_rfl) (laid_met os))) ?_
  intro W base args ds gs before hval hW _ _ _ hL _ _
  exact contract H enc W base args ds gs before hval hW hL

theorem said : Rows.FnKeccakApartSaid :=
  OpenClaim.holds_of_cond 3 Tryd.f3 rfl rfl rfl rfl rfl rfl rfl ⟨rfl, rfl, rfl, rfl, rfl⟩ rfl rfl rfl rfl rfl (by kernel_rfl) Tryd.func3 (by kernel_rfl)
    (of_decide_eq_true (by kernel_rfl)) (by unfold Func.isWrapper; first | (rw [if_pos (by decide +kernel)]; kernel_rfl) | (rw [if_neg (by decide +kernel)]; exact ⟨rfl, rfl⟩))
    (fun os started H enc _ F => by rw [OpenClaim.pre_eq_preRow]; exact lifted os started H enc F)

theorem plain (f : FuncId) (fn : Func) (hf : Tryd.pinned.checked.prog.funcNamed "loop.example/pub-g03031/laws.FnKeccakApart" = some f) (hfn : Tryd.pinned.checked.prog.funcs[f]? = some fn) :
    true = Tryd.pinned.checked.prog.looks [] ∧ ∀ (j : Nat) t, fn.params[j]? = some t → Tryd.pinned.checked.prog.wantsStandIn t = false := by
  obtain rfl : f = 3 := Option.some.inj ((show Tryd.prog.funcNamed "loop.example/pub-g03031/laws.FnKeccakApart" = some 3 by kernel_rfl).symm.trans hf) |>.symm
  obtain rfl : fn = Tryd.f3 := (Option.some.inj (Tryd.func3.symm.trans hfn)).symm
  refine ⟨by kernel_rfl, fun j t ht => ?_⟩
  rw [Tryd.params3] at ht
  have hm := Array.mem_of_getElem? ht
  simp only [List.mem_toArray, List.mem_cons, List.not_mem_nil, or_false] at hm
  rcases hm with rfl | rfl | rfl
  all_goals exact (show Tryd.prog.wantsStandIn _ = false by kernel_rfl)

/-- THE CARD: the law FnKeccakApart returns true whatever the input, the arguments read as they did. -/
theorem card : Rows.FnKeccakApartCardSaid :=
  Claim7.holds_tied_plain_at .later [] _ _ _ _ said (fun _ h => by cases h) (by kernel_rfl) (fun _ h => by cases h) fnKeccakApart_row_tie rfl ⟨rfl, rfl⟩ (by kernel_rfl) rfl plain (by kernel_rfl)
end Go.Proofs.YtbnepbdlhpkiiaaDoor.fnKeccakApart
