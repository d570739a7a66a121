/- What append does to the memory: of no program. Conditions: the slice is owned or there is room, as said. -/
import Derived.Test.YtbnepbdlhpkiiaaDoorSxSl
namespace Go.Sx
section
variable {P : Program} {w0 : World} {n : Nat} {L : Env} {H : Array Obj} {Q : Exit → Act → World → Prop} {ty : TypeId}

/-- Outside 'S' the old blocks are as they were. -/
structure Only (S : Nat → Prop) (H K : Array Obj) : Prop where
  size : H.size ≤ K.size
  keep : ∀ i, i < H.size → ¬ S i → K[i]? = H[i]?

theorem Only.refl (S : Nat → Prop) (H : Array Obj) : Only S H H := ⟨Nat.le_refl _, fun _ _ _ => rfl⟩
theorem Only.trans {S : Nat → Prop} {H K M : Array Obj} (h : Only S H K) (k : Only S K M) : Only S H M :=
  ⟨Nat.le_trans h.size k.size, fun i hi hs => (k.keep i (Nat.lt_of_lt_of_le hi h.size) hs).trans (h.keep i hi hs)⟩
theorem Only.mono {S S' : Nat → Prop} {H K : Array Obj} (h : Only S H K) (hs : ∀ i, i < H.size → S i → S' i) : Only S' H K :=
  ⟨h.size, fun i hi hn => h.keep i hi fun hS => hn (hs i hi hS)⟩
theorem Only.get {S : Nat → Prop} {H K : Array Obj} (h : Only S H K) {b : Nat} {o : Obj} (hb : H[b]? = some o) (hs : ¬ S b) : K[b]? = some o := by
  rw [h.keep b (Array.getElem?_eq_some_iff.1 hb).1 hs]; exact hb
theorem Only.push (S : Nat → Prop) (H : Array Obj) (o : Obj) : Only S H (H.push o) := ⟨by simp, fun i hi _ => by rw [Array.getElem?_push, if_neg (by omega)]⟩
theorem Only.set {S : Nat → Prop} (H : Array Obj) {b : Nat} (o : Obj) (hb : S b) : Only S H (H.setIfInBounds b o) :=
  ⟨by simp, fun i _ hs => by rw [Array.getElem?_setIfInBounds_ne]; rintro rfl; exact hs hb⟩
theorem Sub.only {S : Nat → Prop} {H K : Array Obj} (h : Sub H K) : Only S H K := ⟨h.size, fun i hi _ => h i hi⟩
theorem Only.sub {H K : Array Obj} (h : Only (fun _ => False) H K) : Sub H K := fun i hi => h.keep i hi id
/-- new blocks do not count -/
theorem Only.new {S : Nat → Prop} {H K M : Array Obj} (h : Only S H K) (k : Only (fun i => S i ∨ H.size ≤ i) K M) : Only S H M :=
  ⟨Nat.le_trans h.size k.size, fun i hi hs => (k.keep i (Nat.lt_of_lt_of_le hi h.size) (by rintro (h' | h'); exact hs h'; omega)).trans (h.keep i hi hs)⟩

/-- A slice's value reads as these cells. -/
def Rd (H : Array Obj) (v : Value) (xs : List Value) : Prop :=
  ∃ a cap, v = .slice a xs.length cap ∧ xs.length ≤ cap ∧
    (0 < xs.length → ∃ b off cs T fz, a = some ⟨b, off, none⟩ ∧ H[b]? = some (.cells cs T fz) ∧ ∀ i, i < xs.length → cs[off + i]? = xs[i]?)

def ownBlk : Value → Nat → Prop
  | .slice (some a) _ _, i => i = a.block
  | _, _ => False

theorem Rd.only {S : Nat → Prop} {H K : Array Obj} {v : Value} {xs : List Value} (h : Rd H v xs) (k : Only S H K) (hs : ∀ i, ownBlk v i → i < H.size → ¬ S i) : Rd K v xs := by
  obtain ⟨a, cap, rfl, h1, h2⟩ := h
  refine ⟨a, cap, rfl, h1, fun hp => ?_⟩
  obtain ⟨b, off, cs, T, fz, rfl, hb, hc⟩ := h2 hp
  exact ⟨b, off, cs, T, fz, rfl, k.get hb (hs b rfl (Array.getElem?_eq_some_iff.1 hb).1), hc⟩
theorem Rd.sub {H K : Array Obj} {v : Value} {xs : List Value} (h : Rd H v xs) (k : Sub H K) : Rd K v xs :=
  h.only (S := fun _ => False) k.only (fun _ _ _ => id)
theorem Rd.nil (H : Array Obj) : Rd H nilSl [] := ⟨none, 0, rfl, Nat.le_refl _, fun h => absurd h (by simp)⟩

theorem extract_of {cs : Array Value} {off : Nat} {xs : List Value} (h : ∀ i, i < xs.length → cs[off + i]? = xs[i]?) (hp : 0 < xs.length) : off + xs.length ≤ cs.size ∧ cs.extract off (off + xs.length) = xs.toArray := by
  have h1 : off + xs.length ≤ cs.size := by
    have := h (xs.length - 1) (by omega)
    rw [List.getElem?_eq_getElem (by omega)] at this
    have := (Array.getElem?_eq_some_iff.1 this).1
    omega
  refine ⟨h1, ?_⟩
  apply Array.ext (by simp; omega)
  intro i h2 h3
  have hi : i < xs.length := by simpa using h3
  have := h i hi
  rw [List.getElem?_eq_getElem hi] at this
  have := (Array.getElem?_eq_some_iff.1 this).2
  simpa using this

theorem run_firstCells {w : World} {v : Value} {xs : List Value} (h : Rd w.heap v xs) : (Builtin.firstCells 1 xs.length v).run P w = .ok xs.toArray w := by
  obtain ⟨a, cap, rfl, h1, h2⟩ := h
  cases a with
  | none =>
    have : xs.length = 0 := by
      rcases Nat.eq_zero_or_pos xs.length with h | h
      · exact h
      · obtain ⟨b, off, cs, T, fz, e, _⟩ := h2 h; cases e
    have : xs = [] := List.eq_nil_of_length_eq_zero this
    subst this
    simp [Builtin.firstCells]
  | some ad =>
    rcases Nat.eq_zero_or_pos xs.length with h | h
    · have : xs = [] := List.eq_nil_of_length_eq_zero h
      subst this
      simp [Builtin.firstCells, loadCells, loadCellsFrom]
    · obtain ⟨b, off, cs, T, fz, e, hb, hc⟩ := h2 h
      cases e
      obtain ⟨h3, h4⟩ := extract_of hc h
      have := run_loadCellsFrom (P := P) w b off hb xs.length 0 #[] (by simpa using h3)
      simp only [Nat.add_zero, h4] at this
      simp [Builtin.firstCells, loadCells, this]

/-- A slice of the call's own: its row begins at the block's head, in a block from 'base' on, and may be written. -/
def Own (base : Nat) (T : TypeId) (H : Array Obj) (v : Value) (xs : List Value) : Prop :=
  (v = nilSl ∧ xs = []) ∨
  ∃ b cap cs, v = sl b 0 xs.length cap ∧ base ≤ b ∧ H[b]? = some (cellsOf cs T) ∧ xs.length ≤ cap ∧ cap ≤ cs.size ∧ ∀ i, i < xs.length → cs[i]? = xs[i]?

theorem Own.rd {base : Nat} {T : TypeId} {v : Value} {xs : List Value} (h : Own base T H v xs) : Rd H v xs := by
  rcases h with ⟨rfl, rfl⟩ | ⟨b, cap, cs, rfl, _, hb, h1, h2, h3⟩
  · exact Rd.nil H
  · exact ⟨_, cap, rfl, h1, fun _ => ⟨b, 0, cs, T, (0, 0), rfl, hb, fun i hi => by rw [Nat.zero_add]; exact h3 i hi⟩⟩
theorem Own.blk {base : Nat} {T : TypeId} {v : Value} {xs : List Value} (h : Own base T H v xs) : ∀ i, ownBlk v i → base ≤ i := by
  rcases h with ⟨rfl, rfl⟩ | ⟨b, cap, cs, rfl, hb, _⟩
  · intro i hi; exact hi.elim
  · rintro i rfl; exact hb
theorem Own.only {S : Nat → Prop} {base : Nat} {T : TypeId} {K : Array Obj} {v : Value} {xs : List Value} (h : Own base T H v xs) (k : Only S H K) (hs : ∀ i, ownBlk v i → i < H.size → ¬ S i) : Own base T K v xs := by
  rcases h with ⟨rfl, rfl⟩ | ⟨b, cap, cs, rfl, h0, hb, h1, h2, h3⟩
  · exact .inl ⟨rfl, rfl⟩
  · exact .inr ⟨b, cap, cs, rfl, h0, k.get hb (hs b rfl (Array.getElem?_eq_some_iff.1 hb).1), h1, h2, h3⟩
theorem Own.sub {base : Nat} {T : TypeId} {K : Array Obj} {v : Value} {xs : List Value} (h : Own base T H v xs) (k : Sub H K) : Own base T K v xs :=
  h.only (S := fun _ => False) k.only (fun _ _ _ => id)
theorem Own.base {base base' : Nat} {T : TypeId} {v : Value} {xs : List Value} (h : Own base T H v xs) (hb : base' ≤ base) : Own base' T H v xs := by
  rcases h with ⟨rfl, rfl⟩ | ⟨b, cap, cs, rfl, h0, h⟩
  · exact .inl ⟨rfl, rfl⟩
  · exact .inr ⟨b, cap, cs, rfl, by omega, h⟩

/-- An operation whose outcome hangs on the tape. -/
def EfX (P : Program) (H : Array Obj) (L : Env) (op : Op) (ty : TypeId) (Post : Value → Array Obj → Prop) : Prop :=
  ∀ (ρ : Operand → Value) (w : World) (dst : Option Tmp) (pos : String) (after : Array Edge) (g : Option (Nat × Bool)), Ag L ρ → w.heap = H →
    ∃ v w1, (execOp ρ ⟨dst, op, ty, pos, after, g⟩).run P w = .ok (.value v) w1 ∧ Post v w1.heap ∧ w1.os = w.os ∧ w1.tape = w.tape ∧ w1.output = w.output

theorem At.efX {ops : Array Oper} {d : Nat} {op : Op} {pos : String} {after : Array Edge} {rest : List Oper} {Post : Value → Array Obj → Prop}
    (h : EfX P H L op ty Post) (hd : Nat.blt d n = true) (k : ∀ v H1, Post v H1 → At w0 n ((d, v) :: L) H1 (wpList P ops Q rest)) :
    At w0 n L H (wpList P ops Q (⟨some d, op, ty, pos, after, none⟩ :: rest)) := by
  intro a w hf hw
  refine wpList_plain rfl fun K hK => ?_
  unfold Oper.wp
  obtain ⟨v, w1, hr, h1, h2, h3, h4⟩ := h a.eval w (some d) pos after none hf.ag hw.heap
  rw [hr, Oper.upon_value]
  exact hK _ _ (k v _ h1 _ _ (hf.put hd v) ⟨rfl, h2.trans hw.os, h3.trans hw.tape, h4.trans hw.output⟩)
theorem At.efG {ops : Array Oper} {d : Nat} {op : Op} {pos : String} {after : Array Edge} {rest : List Oper} {v : Value} {H1 : Array Obj} {j dj : Nat} {b : Bool} {oj : Oper}
    (hj : ops[j]? = some oj) (hdj : oj.dst = some dj) (hb : lk L dj = some (.bool b)) (hjn : Nat.blt dj n = true)
    (h : Ef P H L op ty (.value v) H1) (hd : Nat.blt d n = true) (k : At w0 n ((d, v) :: L) H1 (wpList P ops Q rest)) :
    At w0 n L H (wpList P ops Q (⟨some d, op, ty, pos, after, some (j, b)⟩ :: rest)) := by
  intro a w hf hw
  refine wpList_step fun K hK => ?_
  rw [if_pos (by simp [Region.wanted, yielded_of hf hj hdj hb hjn])]
  unfold Oper.wp
  obtain ⟨w1, hr, h1, h2, h3, h4⟩ := h a.eval w (some d) pos after _ hf.ag hw.heap
  rw [hr, Oper.upon_value]
  exact hK _ _ (k _ _ (hf.put hd v) ⟨h1, h2.trans hw.os, h3.trans hw.tape, h4.trans hw.output⟩)

/-! ### append -/
theorem growBy_le (m : Nat) : ∀ (r c : Nat), c < m → Builtin.growBy m r c ≤ m + (m + 768) / 4
  | 0, c, h => by simp [Builtin.growBy]; omega
  | r + 1, c, h => by
    simp only [Builtin.growBy]
    split
    · omega
    · by_cases h' : c + (c + 768) / 4 < m
      · exact growBy_le m r _ h'
      · cases r with
        | zero => simp [Builtin.growBy]; omega
        | succ r => simp only [Builtin.growBy]; rw [if_pos (by omega)]; omega
theorem nextslicecap_le {m c : Nat} (h : c < m) : Builtin.nextslicecap m c ≤ 2 * m + 768 := by
  unfold Builtin.nextslicecap
  split
  · omega
  · split
    · omega
    · have := growBy_le m 4 c h; omega

theorem zeroCells_size (zero : Array Value) (m : Nat) : (Builtin.zeroCells zero m).size = m * zero.size := by simp [Builtin.zeroCells]

theorem getElem?_toArray_append {xs ys zs : List Value} {i : Nat} (h : i < (xs ++ ys).length) : ((xs.toArray ++ ys.toArray ++ zs.toArray : Array Value))[i]? = (xs ++ ys)[i]? := by
  simp only [List.append_toArray, List.getElem?_toArray]
  rw [List.getElem?_append_left h]

theorem run_append {w : World} {base : Nat} {sT xT elem : TypeId} {v x : Value} {xs ys : List Value} {inf : TypeInfo} {z : Value} (hs : P.underlying sT = some (.slice elem)) (hx : P.underlying xT = some (.slice elem))
    (hi : P.info? elem = some inf) (hz : inf.size = 1) (hby : inf.bytes ≤ 32) (hzero : inf.zero = some z) (hzc : z.cells.size = 1) (hv : Own base elem w.heap v xs) (hr : Rd w.heap x ys) (hbase : base ≤ w.heap.size)
    (hone : ∀ u ∈ ys, u.oneCell' = true) (hlen : xs.length + ys.length ≤ 8589934592) :
    ∃ v' w1, (Builtin.append_ #[sT, xT] ty #[v, x]).run P w = .ok v' w1 ∧ (Own base elem w1.heap v' (xs ++ ys) ∧ Only (ownBlk v) w.heap w1.heap ∧ (∀ i, ownBlk v' i → ownBlk v i ∨ i = w.heap.size)) ∧ w1.os = w.os ∧ w1.tape = w.tape ∧ w1.output = w.output := by
  have hfc := run_firstCells (P := P) hr
  have hfcd : (Builtin.firstCells 1 ys.length x).run P w.drew = .ok ys.toArray w.drew := run_firstCells (P := P) (w := w.drew) hr
  have hfc0d : (Builtin.firstCells 1 xs.length v).run P w.drew = .ok xs.toArray w.drew := run_firstCells (P := P) (w := w.drew) hv.rd
  obtain ⟨ax, capx, rfl, hx1, hx2⟩ := hr
  have hlenX : (Builtin.lenOf (.slice ax ys.length capx)).run P w = .ok ys.length w := by simp [Builtin.lenOf]
  obtain ⟨av, capv, hve, hvc⟩ : ∃ av capv, v = .slice av xs.length capv ∧ xs.length ≤ capv := by
    obtain ⟨a, c, e, h1, _⟩ := hv.rd
    exact ⟨a, c, e, h1⟩
  have hnum : ¬ (9223372036854775807 < (xs.length : Int) + (ys.length : Int) ∧ inf.bytes = 0) := by
    rintro ⟨h, _⟩
    omega
  by_cases hcap : xs.length + ys.length ≤ capv
  · rcases hv with ⟨rfl, rfl⟩ | ⟨b, cap, cs, rfl, h0, hb, h1, h2, h3⟩
    · cases hve
      have : ys = [] := List.eq_nil_of_length_eq_zero (by simp only [List.length_nil] at hcap; omega)
      subst this
      refine ⟨nilSl, w, ?_, ⟨.inl ⟨rfl, rfl⟩, Only.refl _ _, fun i h => .inl h⟩, rfl, rfl, rfl⟩
      simp only [List.length_nil] at hlenX hfc
      simp [nilSl, Builtin.append_, underlying, hs, hx, run_sizeOf hi, hz, hlenX, hfc]
    · have e1 : capv = cap := by cases hve; rfl
      subst e1
      obtain ⟨w1, hr1, hh, ho, ht, hout⟩ := run_storeCells (P := P) b xs.length elem ys 0 w cs hb (by omega) hone
      refine ⟨sl b 0 (xs.length + ys.length) capv, w1, ?_, ⟨?_, ?_, fun i h => .inl h⟩, ho, ht, hout⟩
      · simp [sl, Builtin.append_, underlying, hs, hx, run_sizeOf hi, hz, hlenX, hcap, hfc, add_ptr, hr1]
      · refine .inr ⟨b, capv, (cs.toList.take (xs.length + 0) ++ (ys ++ cs.toList.drop (xs.length + 0 + ys.length))).toArray, by simp [sl], h0, ?_, by simpa using hcap, ?_, ?_⟩
        · rw [hh]
          have hlt := (Array.getElem?_eq_some_iff.1 hb).1
          simp [hlt]
        · simp; omega
        · intro i hi
          simp only [Nat.add_zero, List.getElem?_toArray]
          rcases Nat.lt_or_ge i xs.length with h | h
          · rw [List.getElem?_append_left (by simp; omega), List.getElem?_take_of_lt h, List.getElem?_append_left h, ← h3 i h]
            simp
          · rw [List.getElem?_append_right (by simp; omega), List.getElem?_append_right h]
            simp only [List.length_append] at hi
            rw [List.getElem?_append_left (by simp; omega)]
            congr 1
            simp; omega
      · rw [hh]
        exact Only.set _ _ rfl
  · have hn := nextslicecap_le (m := xs.length + ys.length) (c := capv) (by omega)
    have hbig : ¬ 281474976710656 < Builtin.nextslicecap (xs.length + ys.length) capv * inf.bytes := by
      have : Builtin.nextslicecap (xs.length + ys.length) capv * inf.bytes ≤ (2 * 8589934592 + 768) * 32 := Nat.mul_le_mul (by omega) hby
      omega
    subst hve
    generalize hc : (Question.appendCap (xs.length + ys.length) capv elem).cut (w.tape w.drawn (Question.appendCap (xs.length + ys.length) capv elem)) = c
    have hcn : xs.length + ys.length ≤ c := by
      rw [← hc]; simp [Question.cut]
    refine ⟨sl w.heap.size 0 (xs.length + ys.length) c, w.drew.alloc (.cells (xs.toArray ++ (ys.toArray ++ Builtin.zeroCells z.cells (c - (xs.length + ys.length)))) elem), ?_, ⟨?_, ?_, ?_⟩, rfl, rfl, rfl⟩
    · simp [sl, Builtin.append_, underlying, hs, hx, run_sizeOf hi, hz, hlenX, hcap, typeInfo, hi, hbig, hfcd, hfc0d, zeroValue, hzero, newRow, Question.forced, hnum, hc]
    · refine .inr ⟨w.heap.size, c, xs.toArray ++ (ys.toArray ++ Builtin.zeroCells z.cells (c - (xs.length + ys.length))), by simp [sl], hbase, ?_, by simpa using hcn, ?_, ?_⟩
      · show (w.heap.push _)[w.heap.size]? = _
        simp [cellsOf]
      · simp [zeroCells_size, hzc]; omega
      · intro i hi
        rw [← Array.append_assoc, Array.getElem?_append_left (by simpa using hi)]
        simp
    · exact Only.push _ _ _
    · rintro i rfl; exact .inr rfl

/-- append to a slice of the call's own -/
theorem EfX.append {base : Nat} {sT xT elem : TypeId} {x y : Operand} {v u : Value} {xs ys : List Value} {inf : TypeInfo} {z : Value} (hs : P.underlying sT = some (.slice elem)) (hxt : P.underlying xT = some (.slice elem))
    (hi : P.info? elem = some inf) (hz : inf.size = 1) (hby : inf.bytes ≤ 32) (hzero : inf.zero = some z) (hzc : z.cells.size = 1) (hx : evL L x = some v) (hy : evL L y = some u)
    (hv : Own base elem H v xs) (hr : Rd H u ys) (hbase : base ≤ H.size) (hone : ∀ u ∈ ys, u.oneCell' = true) (hlen : xs.length + ys.length ≤ 8589934592) :
    EfX P H L (.call ⟨.builtin .append, #[x, y], #[sT, xT]⟩) ty (fun v' H' => Own base elem H' v' (xs ++ ys) ∧ Only (ownBlk v) H H' ∧ (∀ i, ownBlk v' i → ownBlk v i ∨ i = H.size)) := by
  intro ρ w dst pos after g ha hw
  subst hw
  obtain ⟨v', w1, hr', hp, h2, h3, h4⟩ := run_append (P := P) (ty := ty) hs hxt hi hz hby hzero hzc hv hr hbase hone hlen
  refine ⟨v', w1, ?_, hp, h2, h3, h4⟩
  simp [execOp, resolve, ha _ _ hx, ha _ _ hy, invoke, builtin, hr']
end
end Go.Sx
