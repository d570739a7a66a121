/- When two arrays of bytes are equal by the program's own test: of no program. Conditions: the types are as said. -/
import Derived.Test.YtbnepbdlhpkiiaaDoorSxHeap
import Derived.ChangeKeysEq
namespace Go.Sx
section
variable {P : Program} {H : Array Obj} {L : Env} {ty : TypeId}

theorem run_eqItemsB (w : World) (d : Nat) {e : TypeId} (n : Nat) (f g : Nat → BitVec 8) (he : P.underlying e = some (.int .u8)) (h1 : P.cellsOf e = 1) :
    ∀ is : List Nat, (∀ i ∈ is, i < n) → (Op.eqItems (d + 1) e (P.cellsOf e) (arrB n f) (arrB n g) is).run P w = .ok (is.all fun i => f i == g i) w
  | [], _ => by simp [Op.eqItems]
  | i :: is, h => by
    have hi := h i (by simp)
    have p1 : ∀ f : Nat → BitVec 8, (part e (arrB n f) (i * 1)).run P w = .ok (B (f i)) w := by
      intro f
      simp [part, run_isAgg he, aggB, arrB_get f hi]
    have p3 : (Op.equalIn (d + 1) e (B (f i)) (B (g i))).run P w = .ok (f i == g i) w := by
      have h2 : (((f i).toNat : Int) == ((g i).toNat : Int)) = (f i == g i) := by
        rw [Bool.eq_iff_iff, beq_iff_eq, beq_iff_eq]
        exact ⟨fun h => BitVec.eq_of_toNat_eq (by omega), fun h => by rw [h]⟩
      simp [Op.equalIn, B, underlying, he, h2]
    have ih := run_eqItemsB w d n f g he h1 is (fun j hj => h j (by simp [hj]))
    rw [h1] at ih ⊢
    simp only [Op.eqItems, Sem.run_bind, p1, p3, Result.andThen_ok]
    cases hfg : (f i == g i)
    · simp only [List.all_cons, hfg, Bool.false_and, Bool.not_false, if_true, Sem.run_pure]
    · simp only [List.all_cons, hfg, Bool.true_and, Bool.not_true, Bool.false_eq_true, if_false, ih]

theorem Yl.eqlArrB {t e : TypeId} {n : Nat} {x y : Operand} {yt : TypeId} {inf : TypeInfo} {f g : Nat → BitVec 8} (ht : P.underlying t = some (.array n e)) (he : P.underlying e = some (.int .u8)) (hi : P.info? e = some inf) (h1 : Nat.beq inf.size 1 = true)
    (hg : P.eqGuardType P.depth t = false) (hx : evL L x = some (.agg (arrB n f))) (hy : evL L y = some (.agg (arrB n g))) : Yl P H L (.binOp .eql t x y yt) ty (.bool (decide (∀ i, i < n → f i = g i))) := by
  intro ρ w dst pos after gd ha _
  have hc : P.cellsOf e = 1 := by
    have := Nat.eq_of_beq_eq_true h1
    simp [Program.cellsOf, hi, this]
  have key : (Op.equal t (.agg (arrB n f)) (.agg (arrB n g))).run P w = .ok (decide (∀ i, i < n → f i = g i)) w := by
    show (Op.equalIn (9999 + 1) t _ _).run P w = _
    rw [run_equalIn_array w 9999 _ _ ht hi, run_eqItemsB w 9998 n f g he hc _ (fun i hi => by simpa using hi)]
    congr 1
    rw [Bool.eq_iff_iff]
    simp
  simp [execOp, ha _ _ hx, ha _ _ hy, eqGuard, hg, binOp, key]
theorem Yl.neqArrB {t e : TypeId} {n : Nat} {x y : Operand} {yt : TypeId} {inf : TypeInfo} {f g : Nat → BitVec 8} (ht : P.underlying t = some (.array n e)) (he : P.underlying e = some (.int .u8)) (hi : P.info? e = some inf) (h1 : Nat.beq inf.size 1 = true)
    (hg : P.eqGuardType P.depth t = false) (hx : evL L x = some (.agg (arrB n f))) (hy : evL L y = some (.agg (arrB n g))) : Yl P H L (.binOp .neq t x y yt) ty (.bool (!decide (∀ i, i < n → f i = g i))) := by
  intro ρ w dst pos after gd ha _
  have hc : P.cellsOf e = 1 := by
    have := Nat.eq_of_beq_eq_true h1
    simp [Program.cellsOf, hi, this]
  have key : (Op.equal t (.agg (arrB n f)) (.agg (arrB n g))).run P w = .ok (decide (∀ i, i < n → f i = g i)) w := by
    show (Op.equalIn (9999 + 1) t _ _).run P w = _
    rw [run_equalIn_array w 9999 _ _ ht hi, run_eqItemsB w 9998 n f g he hc _ (fun i hi => by simpa using hi)]
    congr 1
    rw [Bool.eq_iff_iff]
    simp
  simp [execOp, ha _ _ hx, ha _ _ hy, eqGuard, hg, binOp, key]
end
end Go.Sx
