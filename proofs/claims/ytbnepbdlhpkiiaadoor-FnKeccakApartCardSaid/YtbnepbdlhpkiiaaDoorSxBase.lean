/- Rules for walking a function's code with its frame as a list and its memory as an array: of no program. Conditions: those each rule states. -/
import Derived.Tactics
import Derived.Orders
import Derived.Deep.LoopGhost
import Derived.KernelRfl
namespace Go.Sx

theorem blt_lt {a b : Nat} (h : Nat.blt a b = true) : a < b := Nat.le_of_ble_eq_true h
theorem beq_ne {a b : Nat} (h : Nat.beq a b = false) : a ≠ b := Nat.ne_of_beq_eq_false h
theorem ne_beq {a b : Nat} (h : a ≠ b) : Nat.beq a b = false := by
  cases e : Nat.beq a b with
  | false => rfl
  | true => exact absurd (Nat.eq_of_beq_eq_true e) h

/-! ### Frames as association lists -/
abbrev Env := List (Nat × Value)

def lk : Env → Nat → Option Value
  | [], _ => none
  | p :: L, t => bif Nat.beq t p.1 then some p.2 else lk L t

structure Fr (n : Nat) (L : Env) (a : Act) : Prop where
  size : a.tmps.size = n
  defers : a.defers = []
  slot : ∀ t v, lk L t = some v → a.tmps.getD t undef = v

theorem lk_cons (k : Nat) (v : Value) (L : Env) (t : Nat) : lk ((k, v) :: L) t = if t = k then some v else lk L t := by
  simp only [lk]
  by_cases h : t = k
  · subst h; simp
  · rw [if_neg h]
    have : Nat.beq t k = false := ne_beq h
    rw [this]; rfl

theorem Fr.put {n : Nat} {L : Env} {a : Act} (h : Fr n L a) {d : Nat} (hd : Nat.blt d n = true) (v : Value) : Fr n ((d, v) :: L) (a.put (some d) v) := by
  have hd' : d < n := blt_lt hd
  refine ⟨by simp [Act.put, h.size], by simp [Act.put, h.defers], fun t u ht => ?_⟩
  rw [lk_cons] at ht
  have hs := h.size
  by_cases e : t = d
  · subst e
    rw [if_pos rfl] at ht
    cases ht
    simp [Act.put, hs, hd']
  · rw [if_neg e] at ht
    have := h.slot t u ht
    simp only [Act.put, Array.getD_eq_getD_getElem?] at this ⊢
    rw [Array.getElem?_setIfInBounds_ne (by omega)]
    exact this

theorem Fr.put_none {n : Nat} {L : Env} {a : Act} (h : Fr n L a) (v : Value) : Fr n L (a.put none v) := h

/-- Every look-up of the first list stands in the second. -/
def Sb : Env → Env → Prop
  | [], _ => True
  | p :: L', L => lk L p.1 = some p.2 ∧ Sb L' L

theorem Sb.nil {L : Env} : Sb [] L := trivial
theorem Sb.cons {L' L : Env} {k : Nat} {v : Value} (h : lk L k = some v) (t : Sb L' L) : Sb ((k, v) :: L') L := ⟨h, t⟩

theorem Sb.look : ∀ {L' L : Env}, Sb L' L → ∀ t v, lk L' t = some v → lk L t = some v
  | [], _, _, t, v, h => by simp [lk] at h
  | p :: L', L, hs, t, v, h => by
    obtain ⟨k, u⟩ := p
    rw [lk_cons] at h
    by_cases e : t = k
    · subst e
      rw [if_pos rfl] at h
      cases h
      exact hs.1
    · rw [if_neg e] at h
      exact hs.2.look t v h

theorem Fr.weaken {n : Nat} {L L' : Env} {a : Act} (h : Fr n L a) (hs : Sb L' L) : Fr n L' a :=
  ⟨h.size, h.defers, fun t v ht => h.slot t v (hs.look t v ht)⟩

def evL (L : Env) : Operand → Option Value
  | .tmp t => lk L t
  | .const v => some v
  | .global g => some (.pointer (some ⟨g, 0, none⟩))
  | .func f => some (.func (.func f) #[] #[])

def Ag (L : Env) (ρ : Operand → Value) : Prop := ∀ x v, evL L x = some v → ρ x = v

theorem Fr.ag {n : Nat} {L : Env} {a : Act} (h : Fr n L a) : Ag L a.eval := by
  intro x v hx
  cases x with
  | tmp t => exact h.slot t v hx
  | const u => simpa [evL, Act.eval] using hx
  | global g => simpa [evL, Act.eval] using hx
  | func f => simpa [evL, Act.eval] using hx

/-! ### Worlds up to the draws -/
structure Wd (w0 : World) (H : Array Obj) (w : World) : Prop where
  heap : w.heap = H
  os : w.os = w0.os
  tape : w.tape = w0.tape
  output : w.output = w0.output

theorem Wd.drew {w0 : World} {H : Array Obj} {w : World} (h : Wd w0 H w) : Wd w0 H { w with drawn := w.drawn + 1 } := ⟨h.heap, h.os, h.tape, h.output⟩

/-- All blocks of 'H' stand in 'K' as they were. -/
def Sub (H K : Array Obj) : Prop := ∀ i, i < H.size → K[i]? = H[i]?

theorem Sub.refl (H : Array Obj) : Sub H H := fun _ _ => rfl
theorem Sub.size {H K : Array Obj} (h : Sub H K) : H.size ≤ K.size := by
  rcases Nat.lt_or_ge K.size H.size with hl | hl
  · have := h K.size hl
    simp at this
    omega
  · exact hl
theorem Sub.trans {H K M : Array Obj} (h : Sub H K) (k : Sub K M) : Sub H M := fun i hi =>
  (k i (Nat.lt_of_lt_of_le hi h.size)).trans (h i hi)
theorem Sub.get {H K : Array Obj} (h : Sub H K) {b : Nat} {o : Obj} (hb : H[b]? = some o) : K[b]? = some o := by
  rw [h b (Array.getElem?_eq_some_iff.1 hb).1]; exact hb
theorem Sub.push (H : Array Obj) (o : Obj) : Sub H (H.push o) := fun i hi => by
  rw [Array.getElem?_push, if_neg (by omega)]

/-- The judgement: whatever frame reads so, whatever world has this memory. -/
def At (w0 : World) (n : Nat) (L : Env) (H : Array Obj) (X : Act → World → Prop) : Prop :=
  ∀ a w, Fr n L a → Wd w0 H w → X a w

section
variable {P : Program} {w0 : World} {n : Nat} {L : Env} {H : Array Obj} {Q : Exit → Act → World → Prop} {K : Act → World → Prop}

theorem At.weaken {L' : Env} {X : Act → World → Prop} (hs : Sb L' L) (h : At w0 n L' H X) : At w0 n L H X :=
  fun a w hf hw => h a w (hf.weaken hs) hw

theorem At.mono {X Y : Act → World → Prop} (h : At w0 n L H X) (hxy : ∀ a w, X a w → Y a w) : At w0 n L H Y :=
  fun a w hf hw => hxy _ _ (h a w hf hw)

/-! ### Code -/
theorem At.seq {x y : Code} (h : At w0 n L H (Code.wp P x (Exit.then (Code.wp P y Q) Q))) : At w0 n L H (Code.wp P (.seq x y) Q) :=
  fun a w hf hw => wp_seq (h a w hf hw)
theorem At.skip (h : At w0 n L H (Q .normal)) : At w0 n L H (Code.wp P .skip Q) := fun a w hf hw => wp_skip (h a w hf hw)
theorem At.retC (h : At w0 n L H (Q .ret)) : At w0 n L H (Code.wp P .ret Q) := fun a w hf hw => wp_ret (h a w hf hw)
theorem At.exit {id : Nat} (h : At w0 n L H (Q (.exit id))) : At w0 n L H (Code.wp P (.exit id) Q) := fun a w hf hw => wp_exit (h a w hf hw)
theorem At.block {id : Nat} {c : Code} (h : At w0 n L H (Code.wp P c (Exit.inBlock id Q))) : At w0 n L H (Code.wp P (.block id c) Q) :=
  fun a w hf hw => wp_block (h a w hf hw)
theorem At.cond {c : Operand} {x y : Code} {b : Bool} (hc : evL L c = some (.bool b)) (ht : b = true → At w0 n L H (Code.wp P x Q))
    (he : b = false → At w0 n L H (Code.wp P y Q)) : At w0 n L H (Code.wp P (.cond c x y) Q) := by
  intro a w hf hw
  have := hf.ag _ _ hc
  cases b with
  | true => exact wp_cond_true this (ht rfl a w hf hw)
  | false => exact wp_cond_false this (he rfl a w hf hw)
theorem At.condT {c : Operand} {x y : Code} (hc : evL L c = some (.bool true)) (ht : At w0 n L H (Code.wp P x Q)) : At w0 n L H (Code.wp P (.cond c x y) Q) :=
  At.cond hc (fun _ => ht) (fun h => by cases h)
theorem At.condF {c : Operand} {x y : Code} (hc : evL L c = some (.bool false)) (ht : At w0 n L H (Code.wp P y Q)) : At w0 n L H (Code.wp P (.cond c x y) Q) :=
  At.cond hc (fun h => by cases h) (fun _ => ht)

/-- a test whose outcome is told by a proposition -/
theorem At.condDT {c : Operand} {x y : Code} {p : Prop} [Decidable p] (hc : evL L c = some (.bool (decide p))) (hp : p) (ht : At w0 n L H (Code.wp P x Q)) : At w0 n L H (Code.wp P (.cond c x y) Q) :=
  At.condT (by rw [hc, decide_eq_true hp]) ht
theorem At.condDF {c : Operand} {x y : Code} {p : Prop} [Decidable p] (hc : evL L c = some (.bool (decide p))) (hp : ¬ p) (ht : At w0 n L H (Code.wp P y Q)) : At w0 n L H (Code.wp P (.cond c x y) Q) :=
  At.condF (by rw [hc, decide_eq_false hp]) ht

theorem At.nmThen (h : At w0 n L H K) : At w0 n L H (Exit.then K Q .normal) := h
theorem At.nmBlock {id : Nat} (h : At w0 n L H (Q .normal)) : At w0 n L H (Exit.inBlock id Q .normal) := h
theorem At.exThen {id : Nat} (h : At w0 n L H (Q (.exit id))) : At w0 n L H (Exit.then K Q (.exit id)) := h
theorem At.exHere {id : Nat} (h : At w0 n L H (Q .normal)) : At w0 n L H (Exit.inBlock id Q (.exit id)) := fun a w hf hw => by
  simpa [Exit.inBlock] using h a w hf hw
theorem At.exOther {id id' : Nat} (hne : Nat.beq id' id = false) (h : At w0 n L H (Q (.exit id'))) : At w0 n L H (Exit.inBlock id Q (.exit id')) := fun a w hf hw => by
  have : id' ≠ id := beq_ne hne
  simpa [Exit.inBlock, this] using h a w hf hw
theorem At.rtThen (h : At w0 n L H (Q .ret)) : At w0 n L H (Exit.then K Q .ret) := h
theorem At.rtBlock {id : Nat} (h : At w0 n L H (Q .ret)) : At w0 n L H (Exit.inBlock id Q .ret) := h

/-- A loop whose head is told by a state. -/
theorem At.loop {σ : Type} {c : Code} (Lf : σ → Env) (Hf : σ → Array Obj) (I : σ → Prop) (μ : σ → Nat) (s0 : σ) (h0 : I s0) (hL : Sb (Lf s0) L) (hH : Hf s0 = H)
    (round : ∀ s, I s → At w0 n (Lf s) (Hf s) (Code.wp P c (Exit.then (fun a w => ∃ s', I s' ∧ μ s' < μ s ∧ Fr n (Lf s') a ∧ Wd w0 (Hf s') w) Q))) :
    At w0 n L H (Code.wp P (.loop c) Q) := by
  intro a w hf hw
  refine wp_loop_ghost (fun k a w => ∃ s, I s ∧ μ s = k ∧ Fr n (Lf s) a ∧ Wd w0 (Hf s) w) (μ s0) ⟨s0, h0, rfl, hf.weaken hL, hH ▸ hw⟩ ?_
  rintro k a w ⟨s, hI, rfl, hfr, hwd⟩
  refine wp_mono (round s hI a w hfr hwd) ?_
  intro e a' w' hq
  cases e with
  | normal =>
    obtain ⟨s', hI', hlt, hfr', hwd'⟩ := hq
    exact ⟨μ s', hlt, s', hI', rfl, hfr', hwd'⟩
  | exit id => exact hq
  | goto l => exact hq
  | ret => exact hq
  | panic ch => exact hq
  | outgrown => exact hq

theorem At.round {σ : Type} {Lf : σ → Env} {Hf : σ → Array Obj} {I : σ → Prop} {μ : σ → Nat} {m : Nat} (s' : σ) (hI : I s') (hm : μ s' < m) (hL : Sb (Lf s') L) (hH : Hf s' = H) :
    At w0 n L H (fun a w => ∃ s', I s' ∧ μ s' < m ∧ Fr n (Lf s') a ∧ Wd w0 (Hf s') w) :=
  fun _ _ hf hw => ⟨s', hI, hm, hf.weaken hL, hH ▸ hw⟩

/-! ### Regions in the order of the text -/
theorem At.region {id : Nat} {l : List Oper} (h : At w0 n L H (wpList P l.toArray Q l)) : At w0 n L H (Code.wp P (.region id l.toArray false) Q) :=
  fun a w hf hw => wp_region_lit (h a w hf hw)
theorem At.nil {ops : Array Oper} (h : At w0 n L H (Q .normal)) : At w0 n L H (wpList P ops Q []) := h

/-- The operation yields 'v', and leaves the world alone, wherever the frame reads as 'L' and the blocks of 'H' stand. -/
def Yl (P : Program) (H : Array Obj) (L : Env) (op : Op) (ty : TypeId) (v : Value) : Prop :=
  ∀ (ρ : Operand → Value) (w : World) (dst : Option Tmp) (pos : String) (after : Array Edge) (g : Option (Nat × Bool)), Ag L ρ → Sub H w.heap →
    (execOp ρ ⟨dst, op, ty, pos, after, g⟩).run P w = .ok (.value v) w

theorem At.yl {ops : Array Oper} {d : Nat} {op : Op} {ty : TypeId} {pos : String} {after : Array Edge} {rest : List Oper} {v : Value}
    (h : Yl P H L op ty v) (hd : Nat.blt d n = true) (k : At w0 n ((d, v) :: L) H (wpList P ops Q rest)) :
    At w0 n L H (wpList P ops Q (⟨some d, op, ty, pos, after, none⟩ :: rest)) := by
  intro a w hf hw
  refine wpList_plain rfl fun K hK => ?_
  unfold Oper.wp
  rw [h a.eval w (some d) pos after none hf.ag (by rw [hw.heap]; exact Sub.refl H), Oper.upon_value]
  exact hK _ _ (k _ _ (hf.put hd v) hw)

/-- A guarded operation that runs. -/
theorem At.ylG {ops : Array Oper} {d : Nat} {op : Op} {ty : TypeId} {pos : String} {after : Array Edge} {rest : List Oper} {v : Value} {j dj : Nat} {b : Bool} {oj : Oper}
    (hj : ops[j]? = some oj) (hdj : oj.dst = some dj) (hb : lk L dj = some (.bool b)) (hjn : Nat.blt dj n = true)
    (h : Yl P H L op ty v) (hd : Nat.blt d n = true) (k : At w0 n ((d, v) :: L) H (wpList P ops Q rest)) :
    At w0 n L H (wpList P ops Q (⟨some d, op, ty, pos, after, some (j, b)⟩ :: rest)) := by
  intro a w hf hw
  have hjn' : dj < a.tmps.size := by rw [hf.size]; exact blt_lt hjn
  have hy : yielded ops a.tmps j = some b := by
    have hs := hf.slot _ _ hb
    unfold yielded
    simp only [hj, Option.bind_some, hdj, Array.getElem?_eq_getElem hjn']
    simp only [Array.getD_eq_getD_getElem?, Array.getElem?_eq_getElem hjn', Option.getD_some] at hs
    rw [hs]
  have hwt : Region.wanted (⟨some d, op, ty, pos, after, some (j, b)⟩ : Oper) (yielded ops a.tmps) = true := by simp [Region.wanted, hy]
  refine wpList_step fun K hK => ?_
  rw [if_pos hwt]
  unfold Oper.wp
  rw [h a.eval w (some d) pos after _ hf.ag (by rw [hw.heap]; exact Sub.refl H), Oper.upon_value]
  exact hK _ _ (k _ _ (hf.put hd v) hw)

/-- A guarded operation that does not run. -/
theorem At.ylN {ops : Array Oper} {d : Nat} {op : Op} {ty : TypeId} {pos : String} {after : Array Edge} {rest : List Oper} {j dj : Nat} {b c : Bool} {oj : Oper}
    (hj : ops[j]? = some oj) (hdj : oj.dst = some dj) (hb : lk L dj = some (.bool c)) (hbc : (c == b) = false) (hjn : Nat.blt dj n = true)
    (hd : Nat.blt d n = true) (k : At w0 n ((d, undef) :: L) H (wpList P ops Q rest)) :
    At w0 n L H (wpList P ops Q (⟨some d, op, ty, pos, after, some (j, b)⟩ :: rest)) := by
  intro a w hf hw
  have hjn' : dj < a.tmps.size := by rw [hf.size]; exact blt_lt hjn
  have hy : yielded ops a.tmps j = some c := by
    have hs := hf.slot _ _ hb
    unfold yielded
    simp only [hj, Option.bind_some, hdj, Array.getElem?_eq_getElem hjn']
    simp only [Array.getD_eq_getD_getElem?, Array.getElem?_eq_getElem hjn', Option.getD_some] at hs
    rw [hs]
  have hwt : Region.wanted (⟨some d, op, ty, pos, after, some (j, b)⟩ : Oper) (yielded ops a.tmps) = false := by
    simp only [Region.wanted, hy]
    cases b <;> cases c <;> simp_all
  refine wpList_step fun K hK => ?_
  rw [hwt]
  exact hK _ _ (k _ _ (hf.put hd undef) hw)

/-! ### What a call is proved to do -/
def Does (P : Program) (f : FuncId) (args : Array Value) (H : Array Obj) (Post : Value → Array Obj → Prop) : Prop :=
  ∀ w, w.heap = H → Calls P f args w (fun e w' => ∃ v, e = .returned v ∧ Post v w'.heap ∧ w'.os = w.os ∧ w'.tape = w.tape ∧ w'.output = w.output)

theorem Does.mono {f : FuncId} {args : Array Value} {Post Post' : Value → Array Obj → Prop} (h : Does P f args H Post) (hp : ∀ v H', Post v H' → Post' v H') : Does P f args H Post' :=
  fun w hw => (h w hw).mono fun _ _ ⟨v, he, hq, r⟩ => ⟨v, he, hp _ _ hq, r⟩

def evs (L : Env) : List Operand → Option (List Value)
  | [] => some []
  | x :: xs => match evL L x, evs L xs with
    | some v, some vs => some (v :: vs)
    | _, _ => none

theorem evs_map {L : Env} {ρ : Operand → Value} (h : Ag L ρ) : ∀ {xs : List Operand} {vs : List Value}, evs L xs = some vs → xs.map ρ = vs
  | [], vs, e => by simp [evs] at e; simp [e]
  | x :: xs, vs, e => by
    simp only [evs] at e
    cases hx : evL L x with
    | none => simp [hx] at e
    | some v =>
      cases hxs : evs L xs with
      | none => simp [hx, hxs] at e
      | some us =>
        simp [hx, hxs] at e
        subst e
        simp [h x v hx, evs_map h hxs]

theorem run_call {f : FuncId} {xs : List Operand} {tys : Array TypeId} {ty : TypeId} {vs : List Value} {ρ : Operand → Value} {dst : Option Tmp} {pos : String} {after : Array Edge} {g : Option (Nat × Bool)}
    (hf : ∀ (args : Array Value) (w : World), (callFunc f args).run P w = .ok (.enter f args) w) (hρ : Ag L ρ) (hv : evs L xs = some vs) (w : World) :
    (execOp ρ ⟨dst, .call ⟨.value (.func f), xs.toArray, tys⟩, ty, pos, after, g⟩).run P w = .ok (.enter f vs.toArray) w := by
  have h0 : ρ (.func f) = .func (.func f) #[] #[] := hρ _ _ rfl
  have h1 := evs_map hρ hv
  have : (execOp ρ ⟨dst, .call ⟨.value (.func f), xs.toArray, tys⟩, ty, pos, after, g⟩) = callFunc f vs.toArray := by
    simp only [execOp, resolve, h0, Deferred.ofValue, bind, Sem.bind, pure, invoke, List.map_toArray, h1]
    simp
  rw [this]
  exact hf _ _

theorem At.call {ops : Array Oper} {d : Nat} {f : FuncId} {xs : List Operand} {tys : Array TypeId} {ty : TypeId} {pos : String} {after : Array Edge} {rest : List Oper} {vs : List Value}
    {Post : Value → Array Obj → Prop}
    (hf : ∀ (args : Array Value) (w : World), (callFunc f args).run P w = .ok (.enter f args) w) (hv : evs L xs = some vs) (hd : Nat.blt d n = true)
    (hc : Does P f vs.toArray H Post) (k : ∀ v H', Post v H' → At w0 n ((d, v) :: L) H' (wpList P ops Q rest)) :
    At w0 n L H (wpList P ops Q (⟨some d, .call ⟨.value (.func f), xs.toArray, tys⟩, ty, pos, after, none⟩ :: rest)) := by
  intro a w hfr hw
  refine wpList_plain rfl fun K hK => ?_
  unfold Oper.wp
  rw [run_call hf hfr.ag hv w, Oper.upon_enter]
  refine (hc w hw.heap).mono ?_
  rintro e w' ⟨v, rfl, hp, h1, h2, h3⟩
  exact hK _ _ (k v w'.heap hp _ _ (hfr.put hd v) ⟨rfl, h1.trans hw.os, h2.trans hw.tape, h3.trans hw.output⟩)

theorem At.callG {ops : Array Oper} {d : Nat} {f : FuncId} {xs : List Operand} {tys : Array TypeId} {ty : TypeId} {pos : String} {after : Array Edge} {rest : List Oper} {vs : List Value}
    {Post : Value → Array Obj → Prop} {j dj : Nat} {b : Bool} {oj : Oper}
    (hj : ops[j]? = some oj) (hdj : oj.dst = some dj) (hb : lk L dj = some (.bool b)) (hjn : Nat.blt dj n = true)
    (hf : ∀ (args : Array Value) (w : World), (callFunc f args).run P w = .ok (.enter f args) w) (hv : evs L xs = some vs) (hd : Nat.blt d n = true)
    (hc : Does P f vs.toArray H Post) (k : ∀ v H', Post v H' → At w0 n ((d, v) :: L) H' (wpList P ops Q rest)) :
    At w0 n L H (wpList P ops Q (⟨some d, .call ⟨.value (.func f), xs.toArray, tys⟩, ty, pos, after, some (j, b)⟩ :: rest)) := by
  intro a w hf' hw
  have hjn' : dj < a.tmps.size := by rw [hf'.size]; exact blt_lt hjn
  have hy : yielded ops a.tmps j = some b := by
    have hs := hf'.slot _ _ hb
    unfold yielded
    simp only [hj, Option.bind_some, hdj, Array.getElem?_eq_getElem hjn']
    simp only [Array.getD_eq_getD_getElem?, Array.getElem?_eq_getElem hjn', Option.getD_some] at hs
    rw [hs]
  have hwt : Region.wanted (⟨some d, .call ⟨.value (.func f), xs.toArray, tys⟩, ty, pos, after, some (j, b)⟩ : Oper) (yielded ops a.tmps) = true := by simp [Region.wanted, hy]
  refine wpList_step fun K hK => ?_
  rw [if_pos hwt]
  unfold Oper.wp
  rw [run_call hf hf'.ag hv w, Oper.upon_enter]
  refine (hc w hw.heap).mono ?_
  rintro e w' ⟨v, rfl, hp, h1, h2, h3⟩
  exact hK _ _ (k v w'.heap hp _ _ (hf'.put hd v) ⟨rfl, h1.trans hw.os, h2.trans hw.tape, h3.trans hw.output⟩)

/-! ### A function's beginning and its end -/
def argEnv : List Value → Nat → Env
  | [], _ => []
  | v :: vs, k => (k, v) :: argEnv vs (k + 1)

theorem lk_argEnv : ∀ (vs : List Value) (k t : Nat) (v : Value), lk (argEnv vs k) t = some v → k ≤ t ∧ vs[t - k]? = some v
  | [], k, t, v, h => by simp [argEnv, lk] at h
  | u :: vs, k, t, v, h => by
    simp only [argEnv, lk_cons] at h
    by_cases e : t = k
    · subst e
      rw [if_pos rfl] at h
      exact ⟨Nat.le_refl _, by simpa using h⟩
    · rw [if_neg e] at h
      obtain ⟨h1, h2⟩ := lk_argEnv vs (k + 1) t v h
      refine ⟨by omega, ?_⟩
      rw [show t - k = (t - (k + 1)) + 1 by omega, List.getElem?_cons_succ]
      exact h2

theorem Fr.enter (vs : List Value) (n : Nat) (hn : Nat.ble vs.length n = true) : Fr n (argEnv vs 0) ⟨vs.toArray ++ Array.replicate (n - vs.toArray.size) undef, []⟩ := by
  have hn' : vs.length ≤ n := by simpa using hn
  refine ⟨by simp; omega, rfl, fun t v h => ?_⟩
  obtain ⟨_, h2⟩ := lk_argEnv vs 0 t v h
  have hlt : t < vs.length := (List.getElem?_eq_some_iff.1 h2).1
  simp only [Array.getD_eq_getD_getElem?, Nat.sub_zero] at h2 ⊢
  rw [Array.getElem?_append_left (by simpa using hlt)]
  simp [h2]

/-- The end of a function's body. -/
def Finis (w0 : World) (Post : Value → Array Obj → Prop) : Ending → World → Prop :=
  fun e w' => ∃ v, e = .returned v ∧ Post v w'.heap ∧ w'.os = w0.os ∧ w'.tape = w0.tape ∧ w'.output = w0.output

theorem Does.of_body {f : FuncId} {fn : Func} {c : Code} {vs : List Value} {Post : Value → Array Obj → Prop} (hf : P.funcs[f]? = some fn) (hb : fn.body = some c) (hnt : fn.ntmps = n)
    (hn : Nat.ble vs.length n = true) (h : ∀ w0 : World, At w0 n (argEnv vs 0) H (Code.wp P c (bodyPost P fn (Finis w0 Post)))) : Does P f vs.toArray H Post := by
  intro w hw
  refine calls_of_wp hf hb ?_
  rw [hnt]
  exact h w _ w (Fr.enter vs n hn) ⟨hw, rfl, rfl, rfl⟩

theorem At.ret1 {fn : Func} {t : Nat} {Post : Value → Array Obj → Prop} {v : Value} (hr : fn.results = #[.tmp t]) (hv : lk L t = some v) (hp : Post v H) :
    At w0 n L H (bodyPost P fn (Finis w0 Post) .ret) := by
  intro a w hf hw
  refine bodyPost_ret (results_tmp hr _ _ _) hf.defers ⟨v, ?_, hw.heap ▸ hp, hw.os, hw.tape, hw.output⟩
  rw [hf.slot t v hv]
theorem At.ret2 {fn : Func} {t u : Nat} {Post : Value → Array Obj → Prop} {v v' : Value} (hr : fn.results = #[.tmp t, .tmp u]) (hv : lk L t = some v) (hv' : lk L u = some v')
    (hp : Post (.tuple #[v, v']) H) : At w0 n L H (bodyPost P fn (Finis w0 Post) .ret) := by
  intro a w hf hw
  refine bodyPost_ret (results_tmp2 hr _ _ _) hf.defers ⟨_, rfl, ?_, hw.os, hw.tape, hw.output⟩
  rw [hf.slot t v hv, hf.slot u v' hv']
  exact hw.heap ▸ hp
theorem At.ret0 {fn : Func} {Post : Value → Array Obj → Prop} (hr : fn.results = #[]) (hp : Post (.tuple #[]) H) : At w0 n L H (bodyPost P fn (Finis w0 Post) .normal) := by
  intro a w hf hw
  exact bodyPost_end (results_none hr _ _ _) hf.defers ⟨_, rfl, hw.heap ▸ hp, hw.os, hw.tape, hw.output⟩
theorem At.ret0' {fn : Func} {Post : Value → Array Obj → Prop} (hr : fn.results = #[]) (hp : Post (.tuple #[]) H) : At w0 n L H (bodyPost P fn (Finis w0 Post) .ret) := by
  intro a w hf hw
  exact bodyPost_ret (results_none hr _ _ _) hf.defers ⟨_, rfl, hw.heap ▸ hp, hw.os, hw.tape, hw.output⟩
end
end Go.Sx
