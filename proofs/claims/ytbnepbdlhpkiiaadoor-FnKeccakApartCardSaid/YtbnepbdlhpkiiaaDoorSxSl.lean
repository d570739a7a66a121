/- Rules for regions that draw, slices, nil tests and interface values: of no program. Conditions: those each rule states. -/
import Derived.Test.YtbnepbdlhpkiiaaDoorSxDraws
namespace Go.Sx
section
variable {P : Program} {w0 : World} {n : Nat} {L : Env} {H H0 : Array Obj} {Q : Exit → Act → World → Prop} {ty : TypeId} {K : Act → World → Prop}

/-! ### Regions that draw their order -/
/-- what stands behind hangs on no slot where the call panics -/
def QP (Q : Exit → Act → World → Prop) : Prop := ∀ (d : Option Tmp) (v : Value) c a w, Q (.panic c) (a.put d v) w → Q (.panic c) a w
theorem QP.body (P : Program) (fn : Func) (R : Ending → World → Prop) : QP (bodyPost P fn R) := fun d _ _ _ _ h => by cases d <;> exact h
theorem QP.thn {K : Act → World → Prop} (h : QP Q) : QP (Exit.then K Q) := fun d v c a w hh => h d v c a w hh
theorem QP.blk {id : Nat} (h : QP Q) : QP (Exit.inBlock id Q) := fun d v c a w hh => h d v c a w hh
theorem At.draws {id : Nat} {l : List Oper} (m : Nat) (ord : List (Nat × Bool)) (hm : P.follows .mixedOrders = true) (hB : drawsB .any l.toArray m ord = true)
    (hQ : QP Q)
    (h : At w0 n L H (wpOrd P l.toArray Q (fun w => Sub H w.heap) (wpList P l.toArray Q (l.drop m)) ord)) : At w0 n L H (Code.wp P (.region id l.toArray true) Q) :=
  fun a w hf hw => wp_region_ord m ord _ hm hB hQ (h a _ hf hw.drew)

/-- so many operations that do not act, from the k-th on -/
def ordFrom (k : Nat) : Nat → List (Nat × Bool)
  | 0 => []
  | c + 1 => (k, false) :: ordFrom (k + 1) c

theorem At.ordNil {ops : Array Oper} (hs : Sub H0 H) (h : At w0 n L H K) : At w0 n L H (wpOrd P ops Q (fun w => Sub H0 w.heap) K []) :=
  fun a w hf hw => ⟨show Sub H0 w.heap from hw.heap ▸ hs, h a w hf hw⟩
theorem At.ordY {ops : Array Oper} {i d : Nat} {op : Op} {pos : String} {after : Array Edge} {rest : List (Nat × Bool)} {v : Value}
    (hs : Sub H0 H) (ho : ops[i]? = some ⟨some d, op, ty, pos, after, none⟩) (h : Yl P H0 L op ty v) (hd : Nat.blt d n = true)
    (k : At w0 n ((d, v) :: L) H (wpOrd P ops Q (fun w => Sub H0 w.heap) K rest)) :
    At w0 n L H (wpOrd P ops Q (fun w => Sub H0 w.heap) K ((i, false) :: rest)) := by
  intro a w hf hw
  refine ⟨show Sub H0 w.heap from hw.heap ▸ hs, _, v, ho, .inl ⟨by simp [Region.wanted], fun w' hJ => h a.eval w' (some d) pos after none hf.ag hJ⟩, k _ _ (hf.put hd v) hw⟩

theorem yielded_of {ops : Array Oper} {a : Act} {j dj : Nat} {c : Bool} {oj : Oper} (hf : Fr n L a) (hj : ops[j]? = some oj) (hdj : oj.dst = some dj) (hb : lk L dj = some (.bool c)) (hjn : Nat.blt dj n = true) :
    yielded ops a.tmps j = some c := by
  have hjn' : dj < a.tmps.size := by rw [hf.size]; exact blt_lt hjn
  have hs := hf.slot _ _ hb
  unfold yielded
  simp only [hj, Option.bind_some, hdj, Array.getElem?_eq_getElem hjn']
  simp only [Array.getD_eq_getD_getElem?, Array.getElem?_eq_getElem hjn', Option.getD_some] at hs
  rw [hs]
theorem At.ordG {ops : Array Oper} {i d : Nat} {op : Op} {pos : String} {after : Array Edge} {rest : List (Nat × Bool)} {v : Value} {j dj : Nat} {b : Bool} {oj : Oper}
    (hs : Sub H0 H) (ho : ops[i]? = some ⟨some d, op, ty, pos, after, some (j, b)⟩) (hj : ops[j]? = some oj) (hdj : oj.dst = some dj) (hb : lk L dj = some (.bool b)) (hjn : Nat.blt dj n = true)
    (h : Yl P H0 L op ty v) (hd : Nat.blt d n = true)
    (k : At w0 n ((d, v) :: L) H (wpOrd P ops Q (fun w => Sub H0 w.heap) K rest)) :
    At w0 n L H (wpOrd P ops Q (fun w => Sub H0 w.heap) K ((i, false) :: rest)) := by
  intro a w hf hw
  refine ⟨show Sub H0 w.heap from hw.heap ▸ hs, _, v, ho, .inl ⟨by simp [Region.wanted, yielded_of hf hj hdj hb hjn], fun w' hJ => h a.eval w' (some d) pos after _ hf.ag hJ⟩, k _ _ (hf.put hd v) hw⟩
theorem At.ordN {ops : Array Oper} {i d : Nat} {op : Op} {pos : String} {after : Array Edge} {rest : List (Nat × Bool)} {j dj : Nat} {b c : Bool} {oj : Oper}
    (hs : Sub H0 H) (ho : ops[i]? = some ⟨some d, op, ty, pos, after, some (j, b)⟩) (hj : ops[j]? = some oj) (hdj : oj.dst = some dj) (hb : lk L dj = some (.bool c)) (hbc : (c == b) = false) (hjn : Nat.blt dj n = true)
    (hd : Nat.blt d n = true)
    (k : At w0 n ((d, undef) :: L) H (wpOrd P ops Q (fun w => Sub H0 w.heap) K rest)) :
    At w0 n L H (wpOrd P ops Q (fun w => Sub H0 w.heap) K ((i, false) :: rest)) := by
  intro a w hf hw
  have hwt : Region.wanted (⟨some d, op, ty, pos, after, some (j, b)⟩ : Oper) (yielded ops a.tmps) = false := by
    simp only [Region.wanted, yielded_of hf hj hdj hb hjn]
    cases b <;> cases c <;> simp_all
  exact ⟨show Sub H0 w.heap from hw.heap ▸ hs, _, undef, ho, .inr ⟨hwt, rfl⟩, k _ _ (hf.put hd undef) hw⟩
/-- a call in a region that draws: it leaves all old blocks as they were -/
theorem At.ordC {ops : Array Oper} {i d : Nat} {f : FuncId} {xs : List Operand} {tys : Array TypeId} {pos : String} {after : Array Edge} {rest : List (Nat × Bool)} {vs : List Value}
    {Post : Value → Array Obj → Prop} (hs : Sub H0 H) (ho : ops[i]? = some ⟨some d, .call ⟨.value (.func f), xs.toArray, tys⟩, ty, pos, after, none⟩)
    (hf : ∀ (args : Array Value) (w : World), (callFunc f args).run P w = .ok (.enter f args) w) (hv : evs L xs = some vs) (hd : Nat.blt d n = true)
    (hc : Does P f vs.toArray H Post) (k : ∀ v H', Post v H' → At w0 n ((d, v) :: L) H' (wpOrd P ops Q (fun w => Sub H0 w.heap) K rest)) :
    At w0 n L H (wpOrd P ops Q (fun w => Sub H0 w.heap) K ((i, true) :: rest)) := by
  intro a w hfr hw
  refine ⟨show Sub H0 w.heap from hw.heap ▸ hs, ?_⟩
  unfold wpOp
  simp only [ho]
  rw [if_pos (by simp [Region.wanted])]
  refine .inl ?_
  unfold Oper.wp
  rw [run_call hf hfr.ag hv w, Oper.upon_enter]
  refine (hc w hw.heap).mono ?_
  rintro e w' ⟨v, rfl, hp, h1, h2, h3⟩
  exact k v w'.heap hp _ _ (hfr.put hd v) ⟨rfl, h1.trans hw.os, h2.trans hw.tape, h3.trans hw.output⟩
theorem At.ordCG {ops : Array Oper} {i d : Nat} {f : FuncId} {xs : List Operand} {tys : Array TypeId} {pos : String} {after : Array Edge} {rest : List (Nat × Bool)} {vs : List Value}
    {Post : Value → Array Obj → Prop} {j dj : Nat} {b : Bool} {oj : Oper} (hs : Sub H0 H) (ho : ops[i]? = some ⟨some d, .call ⟨.value (.func f), xs.toArray, tys⟩, ty, pos, after, some (j, b)⟩)
    (hj : ops[j]? = some oj) (hdj : oj.dst = some dj) (hb : lk L dj = some (.bool b)) (hjn : Nat.blt dj n = true)
    (hf : ∀ (args : Array Value) (w : World), (callFunc f args).run P w = .ok (.enter f args) w) (hv : evs L xs = some vs) (hd : Nat.blt d n = true)
    (hc : Does P f vs.toArray H Post) (k : ∀ v H', Post v H' → At w0 n ((d, v) :: L) H' (wpOrd P ops Q (fun w => Sub H0 w.heap) K rest)) :
    At w0 n L H (wpOrd P ops Q (fun w => Sub H0 w.heap) K ((i, true) :: rest)) := by
  intro a w hfr hw
  refine ⟨show Sub H0 w.heap from hw.heap ▸ hs, ?_⟩
  unfold wpOp
  simp only [ho]
  rw [if_pos (by simp [Region.wanted, yielded_of hfr hj hdj hb hjn])]
  refine .inl ?_
  unfold Oper.wp
  rw [run_call hf hfr.ag hv w, Oper.upon_enter]
  refine (hc w hw.heap).mono ?_
  rintro e w' ⟨v, rfl, hp, h1, h2, h3⟩
  exact k v w'.heap hp _ _ (hfr.put hd v) ⟨rfl, h1.trans hw.os, h2.trans hw.tape, h3.trans hw.output⟩

/-! ### Slices -/
/-- a slice's value: a block, a place, a length, a capacity -/
def sl (b off len cap : Nat) : Value := .slice (some ⟨b, off, none⟩) len cap
def nilSl : Value := .slice none 0 0

/-- where a slice cut at 'l' begins: the model leaves the address where the cut is at the capacity -/
def cutOff (off l cap : Nat) : Nat := if l = cap then off else off + l

theorem run_sliceBound {y i : Nat} (code : BoundsCode) (h : i ≤ y) (w : World) : (Instr.sliceBound (I i) y code).run P w = .ok i w := by
  simp [Instr.sliceBound, I, asIntOf, h]

theorem Yl.sliceFrom {t elem : TypeId} {x y : Operand} {b off len cap l : Nat} {inf : TypeInfo} (ht : P.underlying t = some (.slice elem)) (hi : P.info? elem = some inf) (hz : Nat.beq inf.size 1 = true)
    (hx : evL L x = some (sl b off len cap)) {zl : Int} (hy : evL L y = some (I zl)) (hzl : zl = (l : Int)) (hl : l ≤ len) (_hc : len ≤ cap) :
    Yl P H L (.slice t x (some y) none none) ty (sl b (cutOff off l cap) (len - l) (cap - l)) := by
  intro ρ w dst pos after g ha hs
  subst hzl
  have hz' := Nat.eq_of_beq_eq_true hz
  have h1 := ha _ _ hx; have h2 := ha _ _ hy
  unfold sl at h1
  simp only [execOp, h1, h2, Option.map_some, Option.map_none, Instr.sliceAt, underlying, Sem.run_bind, run_program, Result.andThen_ok, ht, Sem.run_pure, Instr.slice, Instr.sliceBounds,
    run_sliceBound _ hl, Option.isSome_none, run_sizeOf hi, hz', Nat.mul_one, add_ptr]
  unfold sl cutOff
  by_cases e : cap = l
  · subst e; simp
  · have e' : ¬ l = cap := fun h => e h.symm
    simp [e, e']

theorem Yl.sliceTo {t elem : TypeId} {x y : Operand} {b off len cap h : Nat} {inf : TypeInfo} (ht : P.underlying t = some (.slice elem)) (hi : P.info? elem = some inf) (hz : Nat.beq inf.size 1 = true)
    (hx : evL L x = some (sl b off len cap)) {zh : Int} (hy : evL L y = some (I zh)) (hzh : zh = (h : Int)) (hl : h ≤ cap) :
    Yl P H L (.slice t x none (some y) none) ty (sl b off h cap) := by
  intro ρ w dst pos after g ha hs
  subst hzh
  have h1 := ha _ _ hx; have h2 := ha _ _ hy
  unfold sl at h1
  simp only [execOp, h1, h2, Option.map_some, Option.map_none, Instr.sliceAt, underlying, Sem.run_bind, run_program, Result.andThen_ok, ht, Sem.run_pure, Instr.slice, Instr.sliceBounds, if_true,
    run_sliceBound _ hl, run_sizeOf hi]
  unfold sl
  by_cases e : cap = 0
  · subst e; simp
  · simp [e, Addr.add]

/-- a slice of an array behind a pointer -/
theorem Yl.sliceArr {t elem : TypeId} {m : Nat} {x y z : Operand} {b off l h : Nat} {inf : TypeInfo} (ht : P.underlying t = some (.array m elem)) (hi : P.info? elem = some inf) (hz : Nat.beq inf.size 1 = true)
    (hx : evL L x = some (ptr b off)) {zl zh : Int} (hy : evL L y = some (I zl)) (hzl : zl = (l : Int)) (hz2 : evL L z = some (I zh)) (hzh : zh = (h : Int)) (h1 : l ≤ h) (h2 : h ≤ m) :
    Yl P H L (.slice t x (some y) (some z) none) ty (sl b (cutOff off l m) (h - l) (m - l)) := by
  intro ρ w dst pos after g ha hs
  subst hzl; subst hzh
  have hz' := Nat.eq_of_beq_eq_true hz
  have e1 := ha _ _ hx; have e2 := ha _ _ hy; have e3 := ha _ _ hz2
  unfold ptr at e1
  simp only [execOp, e1, e2, e3, Option.map_some, Option.map_none, Instr.sliceAt, underlying, Sem.run_bind, run_program, Result.andThen_ok, ht, Sem.run_pure, Instr.sureAddr, Instr.sliceBounds, Bool.false_eq_true, if_false,
    run_sliceBound _ h2, run_sliceBound _ h1, Option.isSome_none, run_sizeOf hi, hz', Nat.mul_one, add_ptr]
  unfold sl cutOff
  by_cases e : m = l
  · subst e; simp
  · have e' : ¬ l = m := fun h => e h.symm
    simp [e, e']
theorem Yl.sliceArrTo {t elem : TypeId} {m : Nat} {x z : Operand} {b off h : Nat} {inf : TypeInfo} (ht : P.underlying t = some (.array m elem)) (hi : P.info? elem = some inf) (hm : Nat.beq m 0 = false)
    (hx : evL L x = some (ptr b off)) {zh : Int} (hz2 : evL L z = some (I zh)) (hzh : zh = (h : Int)) (h2 : h ≤ m) :
    Yl P H L (.slice t x none (some z) none) ty (sl b off h m) := by
  intro ρ w dst pos after g ha hs
  subst hzh
  have e1 := ha _ _ hx; have e3 := ha _ _ hz2
  have hm' : ¬ m = 0 := beq_ne hm
  unfold ptr at e1
  simp only [execOp, e1, e3, Option.map_some, Option.map_none, Instr.sliceAt, underlying, Sem.run_bind, run_program, Result.andThen_ok, ht, Sem.run_pure, Instr.sureAddr, Instr.sliceBounds, Bool.false_eq_true, if_false,
    run_sliceBound _ h2, run_sizeOf hi]
  simp [sl, hm', Addr.add]
theorem Yl.sliceArrFrom {t elem : TypeId} {m : Nat} {x y : Operand} {b off l : Nat} {inf : TypeInfo} (ht : P.underlying t = some (.array m elem)) (hi : P.info? elem = some inf) (hz : Nat.beq inf.size 1 = true)
    (hx : evL L x = some (ptr b off)) {zl : Int} (hy : evL L y = some (I zl)) (hzl : zl = (l : Int)) (h1 : l ≤ m) :
    Yl P H L (.slice t x (some y) none none) ty (sl b (cutOff off l m) (m - l) (m - l)) := by
  intro ρ w dst pos after g ha hs
  subst hzl
  have hz' := Nat.eq_of_beq_eq_true hz
  have e1 := ha _ _ hx; have e2 := ha _ _ hy
  unfold ptr at e1
  simp only [execOp, e1, e2, Option.map_some, Option.map_none, Instr.sliceAt, underlying, Sem.run_bind, run_program, Result.andThen_ok, ht, Sem.run_pure, Instr.sureAddr, Instr.sliceBounds, Bool.false_eq_true, if_false,
    run_sliceBound _ h1, Option.isSome_none, run_sizeOf hi, hz', Nat.mul_one, add_ptr]
  unfold sl cutOff
  by_cases e : m = l
  · subst e; simp
  · have e' : ¬ l = m := fun h => e h.symm
    simp [e, e']
theorem Yl.sliceArrAll {t elem : TypeId} {m : Nat} {x : Operand} {b off : Nat} {inf : TypeInfo} (ht : P.underlying t = some (.array m elem)) (hi : P.info? elem = some inf) (hm : Nat.beq m 0 = false)
    (hx : evL L x = some (ptr b off)) :
    Yl P H L (.slice t x none none none) ty (sl b off m m) := by
  intro ρ w dst pos after g ha hs
  have e1 := ha _ _ hx
  have hm' : ¬ m = 0 := beq_ne hm
  unfold ptr at e1
  simp only [execOp, e1, Option.map_none, Instr.sliceAt, underlying, Sem.run_bind, run_program, Result.andThen_ok, ht, Sem.run_pure, Instr.sureAddr, Instr.sliceBounds, run_sizeOf hi]
  simp [sl, hm', Addr.add]

/-! interface values, tests against nil -/
theorem Yl.mkIface {t : TypeId} {x : Operand} {v : Value} {d : TypeDesc} (ht : P.underlying t = some d) (hd : (match d with | .interface _ => false | _ => true) = true) (hx : evL L x = some v) :
    Yl P H L (.makeInterface t x) ty (.iface t v) := by
  intro ρ w dst pos after g ha hs
  cases d <;> simp at hd <;> simp [execOp, Instr.makeInterface, underlying, ht, ha _ _ hx]
theorem Yl.typeAssert {t at_ : TypeId} {x : Operand} {v : Value} {d : TypeDesc} (ht : P.underlying at_ = some d) (hd : (match d with | .interface _ => false | _ => true) = true) (hx : evL L x = some (.iface at_ v)) :
    Yl P H L (.typeAssert x t at_ false) ty v := by
  intro ρ w dst pos after g ha hs
  cases d <;> simp at hd <;> simp [execOp, Instr.typeAssert, underlying, ht, ha _ _ hx]

theorem run_equalIn_slice (m : Nat) {t elem : TypeId} {a b : Option Addr} {l c l' c' : Nat} (ht : P.underlying t = some (.slice elem)) (h : a = none ∨ b = none) (w : World) :
    (Op.equalIn (m + 1) t (.slice a l c) (.slice b l' c')).run P w = .ok (a.isNone && b.isNone) w := by
  rcases h with rfl | rfl
  · simp [Op.equalIn, underlying, ht]
  · cases a <;> simp [Op.equalIn, underlying, ht]
theorem run_equal_slice {t elem : TypeId} {a b : Option Addr} {l c l' c' : Nat} (ht : P.underlying t = some (.slice elem)) (h : a = none ∨ b = none) (w : World) :
    (Op.equal t (.slice a l c) (.slice b l' c')).run P w = .ok (a.isNone && b.isNone) w := run_equalIn_slice 9999 ht h w
theorem Yl.eqNil {t yt elem : TypeId} {x y : Operand} {a : Option Addr} {l c : Nat} (ht : P.underlying t = some (.slice elem)) (hx : evL L x = some (.slice a l c)) (hy : evL L y = some (.slice none 0 0)) :
    Yl P H L (.binOp .eql t x y yt) ty (.bool a.isNone) := by
  intro ρ w dst pos after g ha hs
  simp [execOp, ha _ _ hx, ha _ _ hy, eqGuard, binOp, run_equal_slice ht (.inr rfl)]
theorem Yl.neNil {t yt elem : TypeId} {x y : Operand} {a : Option Addr} {l c : Nat} (ht : P.underlying t = some (.slice elem)) (hx : evL L x = some (.slice a l c)) (hy : evL L y = some (.slice none 0 0)) :
    Yl P H L (.binOp .neq t x y yt) ty (.bool (!a.isNone)) := by
  intro ρ w dst pos after g ha hs
  simp [execOp, ha _ _ hx, ha _ _ hy, eqGuard, binOp, run_equal_slice ht (.inr rfl)]
theorem run_equalIn_ptr (m : Nat) {t elem : TypeId} {a : Option Addr} (ht : P.underlying t = some (.pointer elem)) (w : World) :
    (Op.equalIn (m + 1) t (.pointer a) (.pointer none)).run P w = .ok a.isNone w := by
  cases a <;> simp [Op.equalIn, underlying, ht]
theorem run_equal_ptr {t elem : TypeId} {a : Option Addr} (ht : P.underlying t = some (.pointer elem)) (w : World) :
    (Op.equal t (.pointer a) (.pointer none)).run P w = .ok a.isNone w := run_equalIn_ptr 9999 ht w
theorem Yl.neNilPtr {t yt elem : TypeId} {x y : Operand} {a : Option Addr} (ht : P.underlying t = some (.pointer elem)) (hx : evL L x = some (.pointer a)) (hy : evL L y = some (.pointer none)) :
    Yl P H L (.binOp .neq t x y yt) ty (.bool (!a.isNone)) := by
  intro ρ w dst pos after g ha hs
  cases a <;> simp [execOp, ha _ _ hx, ha _ _ hy, eqGuard, binOp, run_equal_ptr ht]
end
end Go.Sx
