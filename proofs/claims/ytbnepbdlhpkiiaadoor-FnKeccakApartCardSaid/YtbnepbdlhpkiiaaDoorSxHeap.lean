/- Blocks made, blocks written, whole arrays loaded and stored: of no program. Conditions: those stated. -/
import Derived.Test.YtbnepbdlhpkiiaaDoorSxArr
namespace Go.Sx
section
variable {P : Program} {w0 : World} {n : Nat} {L : Env} {H : Array Obj} {Q : Exit → Act → World → Prop} {ty : TypeId}

theorem Sub.put {K M : Array Obj} {b : Nat} (h : Sub H K) (k : Only (fun i => i = b) K M) (hb : H.size ≤ b) : Sub H M := fun i hi => by
  rw [k.keep i (Nat.lt_of_lt_of_le hi h.size) (by omega)]; exact h i hi
theorem Only.ne {K M : Array Obj} {b c : Nat} {o : Obj} (k : Only (fun i => i = b) K M) (hc : K[c]? = some o) (hne : c ≠ b) : M[c]? = some o := k.get hc hne

/-- an operation that makes one block -/
theorem At.new {ops : Array Oper} {d : Nat} {op : Op} {pos : String} {after : Array Edge} {rest : List Oper} {o : Obj}
    (h : Ef P H L op ty (.value (ptr H.size 0)) (H.push o)) (hd : Nat.blt d n = true)
    (k : ∀ (b : Nat) (H1 : Array Obj), b = H.size → H1.size = H.size + 1 → Sub H H1 → H1[b]? = some o → At w0 n ((d, ptr b 0) :: L) H1 (wpList P ops Q rest)) :
    At w0 n L H (wpList P ops Q (⟨some d, op, ty, pos, after, none⟩ :: rest)) :=
  At.ef h hd (k H.size _ rfl (by simp) (Sub.push H o) get_push_same)
/-- an operation that makes one block and yields a slice over it -/
theorem At.newSl {ops : Array Oper} {d : Nat} {op : Op} {pos : String} {after : Array Edge} {rest : List Oper} {o : Obj} {l c : Nat}
    (h : Ef P H L op ty (.value (sl H.size 0 l c)) (H.push o)) (hd : Nat.blt d n = true)
    (k : ∀ (b : Nat) (H1 : Array Obj), b = H.size → H1.size = H.size + 1 → Sub H H1 → H1[b]? = some o → At w0 n ((d, sl b 0 l c) :: L) H1 (wpList P ops Q rest)) :
    At w0 n L H (wpList P ops Q (⟨some d, op, ty, pos, after, none⟩ :: rest)) :=
  At.ef h hd (k H.size _ rfl (by simp) (Sub.push H o) get_push_same)
/-- a store into one block -/
theorem At.put {ops : Array Oper} {op : Op} {pos : String} {after : Array Edge} {rest : List Oper} {b : Nat} {o o' : Obj}
    (h : Ef P H L op ty .skip (H.setIfInBounds b o')) (hb : H[b]? = some o)
    (k : ∀ (H1 : Array Obj), H1.size = H.size → Only (fun i => i = b) H H1 → H1[b]? = some o' → At w0 n L H1 (wpList P ops Q rest)) :
    At w0 n L H (wpList P ops Q (⟨none, op, ty, pos, after, none⟩ :: rest)) :=
  At.efS h (k _ (by simp) (Only.set H o' rfl) (get_set_same hb))
/-- a builtin that writes one block and yields a value -/
theorem At.putV {ops : Array Oper} {d : Nat} {op : Op} {pos : String} {after : Array Edge} {rest : List Oper} {b : Nat} {o o' : Obj} {v : Value}
    (h : Ef P H L op ty (.value v) (H.setIfInBounds b o')) (hd : Nat.blt d n = true) (hb : H[b]? = some o)
    (k : ∀ (H1 : Array Obj), H1.size = H.size → Only (fun i => i = b) H H1 → H1[b]? = some o' → At w0 n ((d, v) :: L) H1 (wpList P ops Q rest)) :
    At w0 n L H (wpList P ops Q (⟨some d, op, ty, pos, after, none⟩ :: rest)) :=
  At.ef h hd (k _ (by simp) (Only.set H o' rfl) (get_set_same hb))

/-- one cell of an array of words, of bytes, told by a function -/
theorem Yl.loadU {t : TypeId} {x : Operand} {d : TypeDesc} {b i m : Nat} {f : Nat → BitVec 64} {T : TypeId} {fz : Nat × Nat} (ht : P.underlying t = some d) (hd : aggB d = false) (hb : H[b]? = some (.cells (arrU m f) T fz))
    (hx : evL L x = some (ptr b (0 + i))) (hi : i < m) : Yl P H L (.load t x) ty (U (f i)) :=
  Yl.load1 ht hd hx hb (by rw [Nat.zero_add]; exact arrU_get f hi)
theorem Yl.loadB {t : TypeId} {x : Operand} {d : TypeDesc} {b i m : Nat} {f : Nat → BitVec 8} {T : TypeId} {fz : Nat × Nat} (ht : P.underlying t = some d) (hd : aggB d = false) (hb : H[b]? = some (.cells (arrB m f) T fz))
    (hx : evL L x = some (ptr b (0 + i))) (hi : i < m) : Yl P H L (.load t x) ty (B (f i)) :=
  Yl.load1 ht hd hx hb (by rw [Nat.zero_add]; exact arrB_get f hi)
theorem Ef.storeU {t : TypeId} {x y : Operand} {inf : TypeInfo} {b i m : Nat} {f : Nat → BitVec 64} {T : TypeId} {v : BitVec 64} (hi' : P.info? t = some inf) (h1 : Nat.beq inf.size 1 = true) (hb : H[b]? = some (cellsOf (arrU m f) T))
    (hx : evL L x = some (ptr b (0 + i))) (hy : evL L y = some (U v)) (hi : i < m) : Ef P H L (.store t x y) ty .skip (H.setIfInBounds b (cellsOf (arrU m (upd f i v)) T)) := by
  have := Ef.store1 (P := P) (ty := ty) hi' h1 hx hy rfl hb (by rw [arrU_size]; omega)
  rwa [Nat.zero_add, arrU_set] at this
theorem Ef.storeB {t : TypeId} {x y : Operand} {inf : TypeInfo} {b i m : Nat} {f : Nat → BitVec 8} {T : TypeId} {v : BitVec 8} (hi' : P.info? t = some inf) (h1 : Nat.beq inf.size 1 = true) (hb : H[b]? = some (cellsOf (arrB m f) T))
    (hx : evL L x = some (ptr b (0 + i))) (hy : evL L y = some (B v)) (hi : i < m) : Ef P H L (.store t x y) ty .skip (H.setIfInBounds b (cellsOf (arrB m (upd f i v)) T)) := by
  have := Ef.store1 (P := P) (ty := ty) hi' h1 hx hy rfl hb (by rw [arrB_size]; omega)
  rwa [Nat.zero_add, arrB_set] at this

/-! ### whole arrays of words and of bytes -/

theorem Ef.allocU {T n : Nat} {inf : TypeInfo} (hi : P.info? T = some inf) (hz : inf.zero = some (.agg (Array.replicate n (.int .u64 0)))) :
    Ef P H L (.alloc T) ty (.value (ptr H.size 0)) (H.push (cellsOf (arrU n fun _ => 0) T)) := by
  have := Ef.alloc (P := P) (H := H) (L := L) (ty := ty) hi hz
  rw [← zeroU]
  exact this
theorem Yl.buildU {t n : Nat} {inf : TypeInfo} {len elem : TypeId} {inf' : TypeInfo} (ht : P.underlying t = some (.array len elem)) (hi : P.info? t = some inf)
    (hz : inf.zero = some (.agg (Array.replicate n (.int .u64 0)))) (hi' : P.info? elem = some inf') : Yl P H L (.build t #[]) ty (.agg (arrU n fun _ => 0)) := by
  have := Yl.build0 (P := P) (H := H) (L := L) (ty := ty) ht hi hz hi'
  rw [← zeroU]
  exact this
theorem Yl.loadWU {t : TypeId} {x : Operand} {d : TypeDesc} {inf : TypeInfo} {b n : Nat} {f : Nat → BitVec 64} {T : TypeId} {fz : Nat × Nat} (ht : P.underlying t = some d) (hd : aggB d = true)
    (hi : P.info? t = some inf) (hn : Nat.beq inf.size n = true) (hx : evL L x = some (ptr b 0)) (hb : H[b]? = some (.cells (arrU n f) T fz)) : Yl P H L (.load t x) ty (.agg (arrU n f)) :=
  Yl.loadW ht hd hi hx hb (by rw [arrU_size]; exact (Nat.eq_of_beq_eq_true hn).symm)
theorem Ef.storeWU {t : TypeId} {x y : Operand} {inf : TypeInfo} {b n : Nat} {f g : Nat → BitVec 64} {T : TypeId} (hi : P.info? t = some inf) (hn : Nat.beq inf.size n = true)
    (hx : evL L x = some (ptr b 0)) (hy : evL L y = some (.agg (arrU n f))) (hb : H[b]? = some (cellsOf (arrU n g) T)) :
    Ef P H L (.store t x y) ty .skip (H.setIfInBounds b (cellsOf (arrU n f) T)) :=
  Ef.storeW hi (by rw [arrU_size]; exact (Nat.eq_of_beq_eq_true hn).symm) hx hy arrU_one hb (by rw [arrU_size, arrU_size])
theorem At.retCellU {fn : Func} {t : Nat} {T : TypeId} {d : TypeDesc} {inf : TypeInfo} {b m : Nat} {f : Nat → BitVec 64} {T' : TypeId} {fz : Nat × Nat} {Post : Value → Array Obj → Prop} (hr : fn.results = #[.cell t T])
    (hT : P.underlying T = some d) (hd : aggB d = true) (hi : P.info? T = some inf) (hm : Nat.beq inf.size m = true) (hv : lk L t = some (ptr b 0)) (hb : H[b]? = some (.cells (arrU m f) T' fz)) (hp : Post (.agg (arrU m f)) H) :
    At w0 n L H (bodyPost P fn (Finis w0 Post) .ret) :=
  At.retCell hr hT hd hi hv hb (by rw [arrU_size]; exact (Nat.eq_of_beq_eq_true hm).symm) hp

theorem Ef.allocB {T n : Nat} {inf : TypeInfo} (hi : P.info? T = some inf) (hz : inf.zero = some (.agg (Array.replicate n (.int .u8 0)))) :
    Ef P H L (.alloc T) ty (.value (ptr H.size 0)) (H.push (cellsOf (arrB n fun _ => 0) T)) := by
  have := Ef.alloc (P := P) (H := H) (L := L) (ty := ty) hi hz
  rw [← zeroB]
  exact this
theorem Yl.buildB {t n : Nat} {inf : TypeInfo} {len elem : TypeId} {inf' : TypeInfo} (ht : P.underlying t = some (.array len elem)) (hi : P.info? t = some inf)
    (hz : inf.zero = some (.agg (Array.replicate n (.int .u8 0)))) (hi' : P.info? elem = some inf') : Yl P H L (.build t #[]) ty (.agg (arrB n fun _ => 0)) := by
  have := Yl.build0 (P := P) (H := H) (L := L) (ty := ty) ht hi hz hi'
  rw [← zeroB]
  exact this
theorem Yl.loadWB {t : TypeId} {x : Operand} {d : TypeDesc} {inf : TypeInfo} {b n : Nat} {f : Nat → BitVec 8} {T : TypeId} {fz : Nat × Nat} (ht : P.underlying t = some d) (hd : aggB d = true)
    (hi : P.info? t = some inf) (hn : Nat.beq inf.size n = true) (hx : evL L x = some (ptr b 0)) (hb : H[b]? = some (.cells (arrB n f) T fz)) : Yl P H L (.load t x) ty (.agg (arrB n f)) :=
  Yl.loadW ht hd hi hx hb (by rw [arrB_size]; exact (Nat.eq_of_beq_eq_true hn).symm)
theorem Ef.storeWB {t : TypeId} {x y : Operand} {inf : TypeInfo} {b n : Nat} {f g : Nat → BitVec 8} {T : TypeId} (hi : P.info? t = some inf) (hn : Nat.beq inf.size n = true)
    (hx : evL L x = some (ptr b 0)) (hy : evL L y = some (.agg (arrB n f))) (hb : H[b]? = some (cellsOf (arrB n g) T)) :
    Ef P H L (.store t x y) ty .skip (H.setIfInBounds b (cellsOf (arrB n f) T)) :=
  Ef.storeW hi (by rw [arrB_size]; exact (Nat.eq_of_beq_eq_true hn).symm) hx hy arrB_one hb (by rw [arrB_size, arrB_size])
theorem At.retCellB {fn : Func} {t : Nat} {T : TypeId} {d : TypeDesc} {inf : TypeInfo} {b m : Nat} {f : Nat → BitVec 8} {T' : TypeId} {fz : Nat × Nat} {Post : Value → Array Obj → Prop} (hr : fn.results = #[.cell t T])
    (hT : P.underlying T = some d) (hd : aggB d = true) (hi : P.info? T = some inf) (hm : Nat.beq inf.size m = true) (hv : lk L t = some (ptr b 0)) (hb : H[b]? = some (.cells (arrB m f) T' fz)) (hp : Post (.agg (arrB m f)) H) :
    At w0 n L H (bodyPost P fn (Finis w0 Post) .ret) :=
  At.retCell hr hT hd hi hv hb (by rw [arrB_size]; exact (Nat.eq_of_beq_eq_true hm).symm) hp
end
end Go.Sx
