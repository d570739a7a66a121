/- What loads, stores and allocations do: of no program. Conditions: the block stands as said. -/
import Derived.Test.YtbnepbdlhpkiiaaDoorSxOps
namespace Go.Sx
section
variable {P : Program} {w0 : World} {n : Nat} {L : Env} {H : Array Obj} {Q : Exit → Act → World → Prop} {ty : TypeId}

/-- a block of cells, not frozen -/
def cellsOf (cs : Array Value) (T : TypeId) : Obj := .cells cs T (0, 0)

theorem cell_of {w : World} {b : Nat} {cs : Array Value} {T : TypeId} {fz : Nat × Nat} (h : w.heap[b]? = some (.cells cs T fz)) (off : Nat) : w.cell? ⟨b, off, none⟩ = cs[off]? := by
  simp [World.cell?, h]
theorem frozen_of {w : World} {b : Nat} {cs : Array Value} {T : TypeId} (h : w.heap[b]? = some (cellsOf cs T)) (off : Nat) : w.frozen? ⟨b, off, none⟩ = false := by
  simp [World.frozen?, h, cellsOf]

def aggB : TypeDesc → Bool
  | .struct _ | .array _ _ => true
  | _ => false

theorem run_isAgg {t : TypeId} {d : TypeDesc} (ht : P.underlying t = some d) (w : World) : (isAgg t).run P w = .ok (aggB d) w := by
  cases d <;> simp [isAgg, underlying, ht, aggB]
theorem run_sizeOf {t : TypeId} {inf : TypeInfo} (hi : P.info? t = some inf) (w : World) : (sizeOf t).run P w = .ok inf.size w := by
  simp [sizeOf, typeInfo, hi]

/-- reading one cell -/
theorem Yl.load1 {t : TypeId} {x : Operand} {d : TypeDesc} {b off : Nat} {cs : Array Value} {T : TypeId} {fz : Nat × Nat} {v : Value} (ht : P.underlying t = some d) (hd : aggB d = false)
    (hx : evL L x = some (ptr b off)) (hb : H[b]? = some (.cells cs T fz)) (hv : cs[off]? = some v) : Yl P H L (.load t x) ty v := by
  intro ρ w dst pos after g ha hs
  have h1 := ha _ _ hx
  unfold ptr at h1
  have hc : w.cell? ⟨b, off, none⟩ = some v := by rw [cell_of (hs.get hb)]; exact hv
  simp [execOp, h1, Instr.loadAt, Instr.sureAddr, loadVar, run_isAgg ht, hd, hc]

theorem run_loadCellsFrom (w : World) (b off : Nat) {cs : Array Value} {T : TypeId} {fz : Nat × Nat} (hb : w.heap[b]? = some (.cells cs T fz)) :
    ∀ (m i : Nat) (acc : Array Value), off + i + m ≤ cs.size → (loadCellsFrom ⟨b, off, none⟩ i m acc).run P w = .ok (acc ++ cs.extract (off + i) (off + i + m)) w := by
  intro m
  induction m with
  | zero =>
    intro i acc h
    have : cs.extract (off + i) (off + i + 0) = #[] := by
      apply Array.eq_empty_of_size_eq_zero; simp; omega
    simp [loadCellsFrom]; omega
  | succ m ih =>
    intro i acc h
    have hlt : off + i < cs.size := by omega
    have hc : w.cell? ⟨b, off + i, none⟩ = some cs[off + i] := by rw [cell_of hb]; simp [hlt]
    simp only [loadCellsFrom, Sem.run_bind, run_load, add_ptr, hc, Result.andThen_ok]
    rw [ih (i + 1) _ (by omega)]
    congr 1
    apply Array.ext'
    simp only [Array.toList_append, Array.toList_push, Array.toList_extract, List.append_assoc, List.extract_eq_take_drop]
    congr 1
    rw [show off + i + (m + 1) - (off + i) = m + 1 by omega, show off + (i + 1) + m - (off + (i + 1)) = m by omega]
    have e1 : cs.toList.drop (off + i) = cs[off + i] :: cs.toList.drop (off + (i + 1)) := by
      rw [List.drop_eq_getElem_cons (by simpa using hlt)]; rfl
    rw [e1, List.take_succ_cons]; rfl

/-- reading an array or a struct -/
theorem Yl.loadA {t : TypeId} {x : Operand} {d : TypeDesc} {inf : TypeInfo} {b off : Nat} {cs : Array Value} {T : TypeId} {fz : Nat × Nat} (m : Nat) (ht : P.underlying t = some d) (hd : aggB d = true)
    (hi : P.info? t = some inf) (hm : Nat.beq inf.size m = true)
    (hx : evL L x = some (ptr b off)) (hb : H[b]? = some (.cells cs T fz)) (hf : off + m ≤ cs.size) : Yl P H L (.load t x) ty (.agg (cs.extract off (off + m))) := by
  intro ρ w dst pos after g ha hs
  have h1 := ha _ _ hx
  have hm' := Nat.eq_of_beq_eq_true hm
  unfold ptr at h1
  have := run_loadCellsFrom (P := P) w b off (hs.get hb) m 0 #[] (by omega)
  simp [execOp, h1, Instr.loadAt, Instr.sureAddr, loadVar, run_isAgg ht, hd, run_sizeOf hi, hm', loadCells, this]

/-- an array or a struct that fills its block -/
theorem Yl.loadW {t : TypeId} {x : Operand} {d : TypeDesc} {inf : TypeInfo} {b : Nat} {cs : Array Value} {T : TypeId} {fz : Nat × Nat} (ht : P.underlying t = some d) (hd : aggB d = true)
    (hi : P.info? t = some inf) (hx : evL L x = some (ptr b 0)) (hb : H[b]? = some (.cells cs T fz)) (hf : cs.size = inf.size) : Yl P H L (.load t x) ty (.agg cs) := by
  have := Yl.loadA (P := P) (H := H) (L := L) (ty := ty) inf.size ht hd hi (by simp) hx hb (by omega)
  simp only [Nat.zero_add] at this
  rwa [← hf, Array.extract_size] at this

/-! ### What the step of an operation does to the memory -/

/-- An operation that ends in a changed memory: whatever frame and world, the run yields 'v' and the memory 'H1'. -/
def Ef (P : Program) (H : Array Obj) (L : Env) (op : Op) (ty : TypeId) (nx : Next) (H1 : Array Obj) : Prop :=
  ∀ (ρ : Operand → Value) (w : World) (dst : Option Tmp) (pos : String) (after : Array Edge) (g : Option (Nat × Bool)), Ag L ρ → w.heap = H →
    ∃ w1, (execOp ρ ⟨dst, op, ty, pos, after, g⟩).run P w = .ok nx w1 ∧ w1.heap = H1 ∧ w1.os = w.os ∧ w1.tape = w.tape ∧ w1.output = w.output

theorem At.ef {ops : Array Oper} {d : Nat} {op : Op} {pos : String} {after : Array Edge} {rest : List Oper} {v : Value} {H1 : Array Obj}
    (h : Ef P H L op ty (.value v) H1) (hd : Nat.blt d n = true) (k : At w0 n ((d, v) :: L) H1 (wpList P ops Q rest)) :
    At w0 n L H (wpList P ops Q (⟨some d, op, ty, pos, after, none⟩ :: rest)) := by
  intro a w hf hw
  refine wpList_plain rfl fun K hK => ?_
  unfold Oper.wp
  obtain ⟨w1, hr, h1, h2, h3, h4⟩ := h a.eval w (some d) pos after none hf.ag hw.heap
  rw [hr, Oper.upon_value]
  exact hK _ _ (k _ _ (hf.put hd v) ⟨h1, h2.trans hw.os, h3.trans hw.tape, h4.trans hw.output⟩)
theorem At.efS {ops : Array Oper} {op : Op} {pos : String} {after : Array Edge} {rest : List Oper} {H1 : Array Obj}
    (h : Ef P H L op ty .skip H1) (k : At w0 n L H1 (wpList P ops Q rest)) :
    At w0 n L H (wpList P ops Q (⟨none, op, ty, pos, after, none⟩ :: rest)) := by
  intro a w hf hw
  refine wpList_plain rfl fun K hK => ?_
  unfold Oper.wp
  obtain ⟨w1, hr, h1, h2, h3, h4⟩ := h a.eval w none pos after none hf.ag hw.heap
  rw [hr, Oper.upon_skip]
  exact hK _ _ (k _ _ (hf.put_none undef) ⟨h1, h2.trans hw.os, h3.trans hw.tape, h4.trans hw.output⟩)

/-- a new variable -/
theorem Ef.alloc {T : TypeId} {inf : TypeInfo} {z : Value} (hi : P.info? T = some inf) (hz : inf.zero = some z) : Ef P H L (.alloc T) ty (.value (ptr H.size 0)) (H.push (cellsOf z.cells T)) := by
  intro ρ w dst pos after g ha hw
  subst hw
  refine ⟨w.alloc (.cells z.cells T), ?_, rfl, rfl, rfl, rfl⟩
  simp [execOp, Instr.alloc, zeroValue, typeInfo, hi, hz, newVar, newRow, ptr]
theorem Ef.box {T : TypeId} {x : Operand} {v : Value} (hx : evL L x = some v) : Ef P H L (.box T x) ty (.value (ptr H.size 0)) (H.push (cellsOf v.cells T)) := by
  intro ρ w dst pos after g ha hw
  subst hw
  refine ⟨w.alloc (.cells v.cells T), ?_, rfl, rfl, rfl, rfl⟩
  simp [execOp, Instr.box, ha _ _ hx, newVar, newRow, ptr]

theorem set_self {H : Array Obj} {b : Nat} {o : Obj} (h : H[b]? = some o) : H.setIfInBounds b o = H := by
  have hlt := (Array.getElem?_eq_some_iff.1 h).1
  have he : H[b] = o := (Array.getElem?_eq_some_iff.1 h).2
  apply Array.ext (by simp)
  intro i h1 h2
  rw [Array.getElem_setIfInBounds h2]
  by_cases e : b = i
  · subst e; simp [he]
  · simp [e]

theorem setCell_heap {w : World} {b off : Nat} {cs : Array Value} {T : TypeId} (hb : w.heap[b]? = some (cellsOf cs T)) (v : Value) :
    (w.setCell ⟨b, off, none⟩ v).heap = w.heap.setIfInBounds b (cellsOf (cs.setIfInBounds off v) T) := by
  have hlt := (Array.getElem?_eq_some_iff.1 hb).1
  have he : w.heap[b] = cellsOf cs T := (Array.getElem?_eq_some_iff.1 hb).2
  apply Array.ext (by simp [World.setCell])
  intro i h1 h2
  simp only [World.setCell, Array.getElem_modify]
  rw [Array.getElem_setIfInBounds (by simpa using h2)]
  by_cases e : b = i
  · subst e; simp [he, cellsOf]
  · simp [e]

/-- a store of one cell -/
theorem Ef.store1 {t : TypeId} {x y : Operand} {inf : TypeInfo} {b off : Nat} {cs : Array Value} {T : TypeId} {v : Value} (hi : P.info? t = some inf) (h1 : Nat.beq inf.size 1 = true)
    (hx : evL L x = some (ptr b off)) (hy : evL L y = some v) (hv : v.oneCell' = true) (hb : H[b]? = some (cellsOf cs T)) (hlt : off < cs.size) :
    Ef P H L (.store t x y) ty .skip (H.setIfInBounds b (cellsOf (cs.setIfInBounds off v) T)) := by
  intro ρ w dst pos after g ha hw
  subst hw
  have hz := Nat.eq_of_beq_eq_true h1
  have hp := ha _ _ hx
  unfold ptr at hp
  have hc : w.cell? ⟨b, off, none⟩ = some cs[off] := by rw [cell_of hb]; simp [hlt]
  have hvc : v.cells = #[v] := by cases v <;> simp [Value.oneCell'] at hv <;> rfl
  refine ⟨w.setCell ⟨b, off, none⟩ v, ?_, setCell_heap hb v, rfl, rfl, rfl⟩
  simp [execOp, hp, ha _ _ hy, Instr.storeAt, Instr.sureAddr, storeVar, hvc, run_sizeOf hi, hz, storeCells, run_store P w _ v _ hv, hc, frozen_of hb, add_ptr]

theorem run_storeCells (b off : Nat) (T : TypeId) : ∀ (vs : List Value) (i : Nat) (w : World) (cs : Array Value), w.heap[b]? = some (cellsOf cs T) → off + i + vs.length ≤ cs.size → (∀ v ∈ vs, v.oneCell' = true) →
    ∃ w1, (storeCells ⟨b, off, none⟩ vs i).run P w = .ok () w1 ∧ w1.heap = w.heap.setIfInBounds b (cellsOf (cs.toList.take (off + i) ++ (vs ++ cs.toList.drop (off + i + vs.length))).toArray T) ∧ w1.os = w.os ∧ w1.tape = w.tape ∧ w1.output = w.output
  | [], i, w, cs, hb, hl, _ => by
    refine ⟨w, by simp [storeCells], ?_, rfl, rfl, rfl⟩
    simp only [List.nil_append, List.length_nil, Nat.add_zero, List.take_append_drop, Array.toArray_toList]
    rw [set_self hb]
  | v :: vs, i, w, cs, hb, hl, hv => by
    have hlt : off + i < cs.size := by simp at hl; omega
    have hv1 : v.oneCell' = true := hv v (by simp)
    have hc : w.cell? ⟨b, off + i, none⟩ = some cs[off + i] := by rw [cell_of hb]; simp [hlt]
    have hbs := (Array.getElem?_eq_some_iff.1 hb).1
    have hb' : (w.setCell ⟨b, off + i, none⟩ v).heap[b]? = some (cellsOf (cs.setIfInBounds (off + i) v) T) := by
      rw [setCell_heap hb]; simp [hbs]
    obtain ⟨w1, hr, h1, h2, h3, h4⟩ := run_storeCells b off T vs (i + 1) (w.setCell ⟨b, off + i, none⟩ v) _ hb' (by simp at hl ⊢; omega) (fun u hu => hv u (by simp [hu]))
    refine ⟨w1, ?_, ?_, h2, h3, h4⟩
    · simp only [storeCells, Sem.run_bind, add_ptr, run_store P w _ v _ hv1, hc, frozen_of hb, Bool.false_eq_true, if_false, Result.andThen_ok, hr]
    · rw [h1, setCell_heap hb]
      rw [Array.setIfInBounds_setIfInBounds]
      congr 2
      apply congrArg
      simp only [Array.toList_setIfInBounds, List.length_cons]
      rw [show off + (i + 1) = off + i + 1 by omega]
      rw [List.take_succ_eq_append_getElem (by simpa using hlt), List.take_set_of_le (by omega)]
      rw [List.drop_set_of_lt (by omega)]
      simp [Nat.add_assoc, Nat.add_comm 1]

/-- a store of an array or a struct -/
theorem Ef.storeA {t : TypeId} {x y : Operand} {inf : TypeInfo} {b off : Nat} {cs vs : Array Value} {T : TypeId} (hi : P.info? t = some inf) (h1 : vs.size = inf.size)
    (hx : evL L x = some (ptr b off)) (hy : evL L y = some (.agg vs)) (hv : ∀ v ∈ vs.toList, v.oneCell' = true) (hb : H[b]? = some (cellsOf cs T)) (hlt : off + vs.size ≤ cs.size) :
    Ef P H L (.store t x y) ty .skip (H.setIfInBounds b (cellsOf (cs.toList.take off ++ (vs.toList ++ cs.toList.drop (off + vs.size))).toArray T)) := by
  intro ρ w dst pos after g ha hw
  subst hw
  have hp := ha _ _ hx
  unfold ptr at hp
  obtain ⟨w1, hr, h2, h3, h4, h5⟩ := run_storeCells (P := P) b off T vs.toList 0 w cs hb (by simpa using hlt) hv
  refine ⟨w1, ?_, by simpa using h2, h3, h4, h5⟩
  simp [execOp, hp, ha _ _ hy, Instr.storeAt, Instr.sureAddr, storeVar, Value.cells, run_sizeOf hi, h1, hr]

/-- a whole block stored -/
theorem Ef.storeW {t : TypeId} {x y : Operand} {inf : TypeInfo} {b : Nat} {cs vs : Array Value} {T : TypeId} (hi : P.info? t = some inf) (h1 : vs.size = inf.size)
    (hx : evL L x = some (ptr b 0)) (hy : evL L y = some (.agg vs)) (hv : ∀ v ∈ vs.toList, v.oneCell' = true) (hb : H[b]? = some (cellsOf cs T)) (hlt : vs.size = cs.size) :
    Ef P H L (.store t x y) ty .skip (H.setIfInBounds b (cellsOf vs T)) := by
  have := Ef.storeA (P := P) (ty := ty) hi h1 hx hy hv hb (by omega)
  rw [List.take_zero, List.nil_append, List.drop_of_length_le (by simp; omega), List.append_nil, Array.toArray_toList] at this
  exact this
end
end Go.Sx
