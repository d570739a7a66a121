/- Copy, make, composite values and results kept in a cell: of no program. Conditions: those each rule states. -/
import Derived.Test.YtbnepbdlhpkiiaaDoorSxApp
namespace Go.Sx
section
variable {P : Program} {w0 : World} {n : Nat} {L : Env} {H : Array Obj} {Q : Exit → Act → World → Prop} {ty : TypeId}

/-- results in a variable of an aggregate -/
theorem At.retCell {fn : Func} {t : Nat} {T : TypeId} {d : TypeDesc} {inf : TypeInfo} {b : Nat} {cs : Array Value} {T' : TypeId} {fz : Nat × Nat} {Post : Value → Array Obj → Prop} (hr : fn.results = #[.cell t T])
    (hT : P.underlying T = some d) (hd : aggB d = true) (hi : P.info? T = some inf) (hv : lk L t = some (ptr b 0)) (hb : H[b]? = some (.cells cs T' fz)) (hf : cs.size = inf.size) (hp : Post (.agg cs) H) :
    At w0 n L H (bodyPost P fn (Finis w0 Post) .ret) := by
  intro a w hfr hw
  have h1 := hfr.slot _ _ hv
  have hb' : w.heap[b]? = some (.cells cs T' fz) := by rw [hw.heap]; exact hb
  have h2 := run_loadCellsFrom (P := P) w b 0 hb' inf.size 0 #[] (by omega)
  refine bodyPost_ret (v := .agg cs) ?_ hfr.defers ⟨_, rfl, hw.heap ▸ hp, hw.os, hw.tape, hw.output⟩
  simp only [Nat.zero_add, ← hf, Array.extract_size, Array.empty_append] at h2
  simp only [results, hr]
  unfold ptr at h1
  simp only [Array.getD_eq_getD_getElem?] at h1
  simp [h1, asAddr, loadVar, run_isAgg hT, hd, run_sizeOf hi, loadCells, ← hf, h2]

/-! ### arrays and structs made at once -/
theorem run_fill_nil (place : Nat → Option (Nat × Nat)) (cells : Array Value) : Instr.fill place cells [] = some cells := rfl

/-- a zero value of a type -/
theorem Yl.build0 {t : TypeId} {inf : TypeInfo} {z : Value} {len elem : TypeId} {inf' : TypeInfo} (ht : P.underlying t = some (.array len elem)) (hi : P.info? t = some inf) (hz : inf.zero = some z) (hi' : P.info? elem = some inf') :
    Yl P H L (.build t #[]) ty (.agg z.cells) := by
  intro ρ w dst pos after g ha hs
  simp [execOp, Instr.build, zeroValue, typeInfo, hi, hz, underlying, ht, run_sizeOf hi', Instr.fill]

/-- an empty slice, not nil: a block of no cells -/
theorem Ef.buildSlice0 {t elem : TypeId} {inf : TypeInfo} (ht : P.underlying t = some (.slice elem)) (hi : P.info? elem = some inf) :
    Ef P H L (.buildSlice t 0 #[]) ty (.value (sl H.size 0 0 0)) (H.push (cellsOf #[] elem)) := by
  intro ρ w dst pos after g ha hw
  subst hw
  refine ⟨w.alloc (.cells #[] elem), ?_, rfl, rfl, rfl, rfl⟩
  have h0 : Array.range 0 = #[] := rfl
  simp [execOp, Instr.buildSlice, underlying, ht, run_sizeOf hi, Instr.fill, newRow, sl, h0]

theorem fill_all (vs : List Value) (h1 : ∀ v ∈ vs, v.cells = #[v]) : ∀ (pre : List Value) (rest : Array Value), rest.size = vs.length →
    Instr.fill (fun i => some (i, 1)) (pre.toArray ++ rest) ((List.range' pre.length vs.length).zip vs) = some (pre ++ vs).toArray := by
  induction vs with
  | nil => intro pre rest hr; have : rest = #[] := Array.eq_empty_of_size_eq_zero (by simpa using hr); subst this; simp [Instr.fill]
  | cons v vs ih =>
    intro pre rest hr
    have hv : v.cells = #[v] := h1 v (by simp)
    simp only [List.length_cons, List.range'_succ, List.zip_cons_cons, Instr.fill, hv]
    have hr' : rest.size = vs.length + 1 := by simpa using hr
    have e1 : ((#[v] : Array Value).size ≠ 1 || decide (pre.length + (#[v] : Array Value).size > (pre.toArray ++ rest).size)) = false := by
      simp only [Array.size_append, List.size_toArray, hr']
      simp
    rw [e1]
    simp only [Bool.false_eq_true, if_false]
    have e2 : (#[v] : Array Value).zipIdx.foldl (fun cs (x : Value × Nat) => match x with | (c, j) => cs.setIfInBounds (pre.length + j) c) (pre.toArray ++ rest) = (pre ++ [v]).toArray ++ rest.extract 1 rest.size := by
      show (pre.toArray ++ rest).setIfInBounds (pre.length + 0) v = _
      simp only [Nat.add_zero]
      apply Array.ext (by simp; omega)
      intro i h2 h3
      rw [Array.getElem_setIfInBounds (by simpa using h2)]
      by_cases e : pre.length = i
      · subst e; simp
      · rw [if_neg e]
        rcases Nat.lt_or_ge i pre.length with h | h
        · rw [Array.getElem_append_left (by simpa using h), Array.getElem_append_left (by simp; omega)]
          simp [h]
        · rw [Array.getElem_append_right (by simpa using h), Array.getElem_append_right (by simp; omega)]
          simp only [List.size_toArray, List.length_append, List.length_cons, List.length_nil, Array.getElem_extract]
          congr 1; omega
    rw [e2]
    have := ih (fun u hu => h1 u (by simp [hu])) (pre ++ [v]) (rest.extract 1 rest.size) (by simp; omega)
    simp only [List.length_append, List.length_cons, List.length_nil, Nat.zero_add] at this
    rw [this]
    simp

/-- a slice written out, of one-cell elements -/
theorem Ef.buildSlice {t elem : TypeId} {inf : TypeInfo} {z : Value} {m : Nat} {parts : List (Nat × Operand)} {vs : List Value} (ht : P.underlying t = some (.slice elem)) (hi : P.info? elem = some inf) (hz : inf.size = 1) (hzero : inf.zero = some z)
    (hm : vs.length = m) (hm2 : m ≤ 16777216) (hm0 : 0 < m) (hp : parts.map (·.1) = List.range' 0 m) (hv : evs L (parts.map (·.2)) = some vs) (h1 : ∀ v ∈ vs, v.cells = #[v]) :
    Ef P H L (.buildSlice t m parts.toArray) ty (.value (sl H.size 0 m m)) (H.push (cellsOf vs.toArray elem)) := by
  intro ρ w dst pos after g ha hw
  subst hw
  have hmap := evs_map ha hv
  have hparts : parts.map (fun (x : Nat × Operand) => (x.1, ρ x.2)) = (List.range' 0 vs.length).zip vs := by
    rw [hm, ← hp, ← hmap]
    clear hp hv hmap
    induction parts with
    | nil => rfl
    | cons p ps ih => simp [ih]
  have hbig : ¬ 16777216 < m := by omega
  have hm0' : ¬ m = 0 := by omega
  have hf := fill_all vs h1 [] ((Array.range m).map fun i => z.cells[i % z.cells.size]!) (by simp [hm])
  simp only [List.length_nil, List.nil_append, Array.empty_append] at hf
  refine ⟨w.alloc (.cells vs.toArray elem), ?_, rfl, rfl, rfl, rfl⟩
  have hpa : (parts.toArray.map fun (x : Nat × Operand) => match x with | (i, x) => (i, ρ x)).toList = (List.range' 0 vs.length).zip vs := by
    simp only [List.map_toArray]; exact hparts
  simp only [execOp, Instr.buildSlice, underlying, Sem.run_bind, run_program, Result.andThen_ok, ht, Sem.run_pure, run_sizeOf hi, hz, Nat.mul_one, Nat.reducePow, gt_iff_lt, hbig, hm0', if_false, zeroValue, typeInfo, hi, hzero, hpa]
  simp [hf, newRow, sl]

/-- make([]T, n, n), zeroed -/
theorem Ef.makeSlice {t elem : TypeId} {x y : Operand} {inf : TypeInfo} {z : Value} {m : Nat} (ht : P.underlying t = some (.slice elem)) (hi : P.info? elem = some inf) (hz : inf.size = 1) (hby : inf.bytes ≤ 32) (hzero : inf.zero = some z)
    (hzc : z.cells = #[z]) (hx : evL L x = some (I m)) (hy : evL L y = some (I m)) (hm : m ≤ 1099511627776) :
    Ef P H L (.makeSlice t x y) ty (.value (sl H.size 0 m m)) (H.push (cellsOf (Array.replicate m z) elem)) := by
  intro ρ w dst pos after g ha hw
  subst hw
  have h1 := ha _ _ hx; have h2 := ha _ _ hy
  have hw64 : IntKind.i64.wrap (m : Int) = m := wrap_i64 (by omega) (by omega)
  have hbig : ¬ 281474976710656 < (inf.bytes : Int) * (m : Int) := by
    have : (inf.bytes : Int) * (m : Int) ≤ 32 * 1099511627776 := by
      have h : inf.bytes * m ≤ 35184372088832 := Nat.le_trans (Nat.mul_le_mul hby hm) (by omega)
      have h' : ((inf.bytes * m : Nat) : Int) ≤ 35184372088832 := by omega
      rw [Int.natCast_mul] at h'
      omega
    omega
  refine ⟨w.alloc (.cells (Array.replicate m z) elem), ?_, rfl, rfl, rfl, rfl⟩
  unfold I at h1 h2
  have hrep : (Array.range m).map (fun i => z.cells[i % z.cells.size]!) = Array.replicate m z := by
    apply Array.ext (by simp)
    intro i h3 h4
    have e : ∀ k : Nat, (#[z] : Array Value)[k % 1]! = z := fun k => by rw [Nat.mod_one]; rfl
    simp only [Array.getElem_map, Array.getElem_range, Array.getElem_replicate, hzc]
    exact e i
  have hneg : ¬ (m : Int) < 0 := by omega
  by_cases hm0 : m = 0
  · subst hm0
    have h0 : Array.range 0 = #[] := rfl
    simp [execOp, h1, h2, Instr.makeSlice, underlying, ht, asInt, asIntOf, typeInfo, hi, hz, wrap_i64, run_sizeOf hi, newRow, sl, h0]
  · simp [execOp, h1, h2, Instr.makeSlice, underlying, ht, asInt, asIntOf, typeInfo, hi, hw64, hbig, hneg, run_sizeOf hi, hz, hm0, zeroValue, hzero, hrep, newRow, sl]

/-! ### copy -/
theorem EfX.copy {dT sT elem : TypeId} {x y : Operand} {b off len cap : Nat} {u : Value} {ys : List Value} {cs : Array Value} {inf : TypeInfo} (hd : P.underlying dT = some (.slice elem)) (hi : P.info? elem = some inf) (hz : inf.size = 1)
    (hx : evL L x = some (sl b off len cap)) (hy : evL L y = some u) (hr : Rd H u ys) (hb : H[b]? = some (cellsOf cs elem)) (hf : off + min ys.length len ≤ cs.size) (hone : ∀ u ∈ ys, u.oneCell' = true) :
    Ef P H L (.call ⟨.builtin .copy, #[x, y], #[dT, sT]⟩) ty (.value (I (min ys.length len : Nat)))
      (H.setIfInBounds b (cellsOf (cs.toList.take off ++ (ys.take (min ys.length len) ++ cs.toList.drop (off + min ys.length len))).toArray elem)) := by
  intro ρ w dst pos after g ha hw
  subst hw
  have h1 := ha _ _ hx; have h2 := ha _ _ hy
  unfold sl at h1
  have hfc : (Builtin.firstCells 1 (min ys.length len) u).run P w = .ok (ys.take (min ys.length len)).toArray w := by
    obtain ⟨a, c, rfl, e1, e2⟩ := hr
    have : Rd w.heap (.slice a (ys.take (min ys.length len)).length c) (ys.take (min ys.length len)) := by
      refine ⟨a, c, rfl, by rw [List.length_take]; omega, fun hp => ?_⟩
      obtain ⟨b', o', cs', T', fz', ea, eb, ec⟩ := e2 (by simp at hp; omega)
      refine ⟨b', o', cs', T', fz', ea, eb, fun i hi => ?_⟩
      simp only [List.length_take] at hi
      rw [ec i (by omega), List.getElem?_take_of_lt (by omega)]
    have := run_firstCells (P := P) this
    have hl : (ys.take (min ys.length len)).length = min ys.length len := by rw [List.length_take]; omega
    rw [hl] at this
    cases a with
    | none => simpa [Builtin.firstCells] using this
    | some ad => simpa [Builtin.firstCells] using this
  have hlen : (Builtin.lenOf u).run P w = .ok ys.length w := by
    obtain ⟨a, c, rfl, e1, e2⟩ := hr
    simp [Builtin.lenOf]
  have hl : (ys.take (min ys.length len)).length = min ys.length len := by rw [List.length_take]; omega
  obtain ⟨w1, hr1, hh, ho, ht, hout⟩ := run_storeCells (P := P) b off elem (ys.take (min ys.length len)) 0 w cs hb (by rw [hl]; simpa using hf) (fun v hv => hone v (List.mem_of_mem_take hv))
  refine ⟨w1, ?_, ?_, ho, ht, hout⟩
  · have hmin : Nat.min ys.length len = min ys.length len := rfl
    simp only [execOp, resolve, Sem.run_bind, Sem.run_pure, Result.andThen_ok, List.map_toArray, List.map_cons, List.map_nil, h1, h2, invoke, builtin]
    simp [Builtin.copy_, underlying, hd, hlen, run_sizeOf hi, hz, hmin, hfc, hr1, goInt, I]
  · rw [hh, Nat.add_zero, hl]
end
end Go.Sx
