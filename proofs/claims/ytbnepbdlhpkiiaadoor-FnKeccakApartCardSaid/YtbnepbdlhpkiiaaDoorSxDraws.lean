/- Regions whose operations may be run in several orders: one order is enough. Of no program. Conditions: those each rule states. -/
import Derived.Test.YtbnepbdlhpkiiaaDoorSxMem
import Derived.StillTail
namespace Go.Sx
section
variable {P : Program} {ops : Array Oper} {Q : Exit → Act → World → Prop} {md : Region.Mode}

/-- An operation yields 'v' and leaves the world as it is, in every world that meets 'J'. -/
def YieldsJ (P : Program) (ops : Array Oper) (J : World → Prop) (o : Oper) (v : Value) (a : Act) : Prop :=
  (Region.wanted o (yielded ops a.tmps) = true ∧ ∀ w, J w → (execOp a.eval o).run P w = .ok (.value v) w) ∨
  (Region.wanted o (yielded ops a.tmps) = false ∧ v = undef)

theorem YieldsJ.wpOp {J : World → Prop} {i : Nat} {o : Oper} {v : Value} {a : Act} (hi : ops[i]? = some o) (hy : YieldsJ P ops J o v a)
    {K : Act → World → Prop} {w : World} (hJ : J w) (h : K (a.put o.dst v) w) : wpOp P ops Q i K a w := by
  unfold Go.wpOp
  simp only [hi]
  rcases hy with ⟨hw, hv⟩ | ⟨hw, rfl⟩
  · simp only [hw, if_true, Oper.wp, hv w hJ, Oper.upon]; exact .inl h
  · simp only [hw, Bool.false_eq_true, if_false]; exact h

theorem YieldsJ.of_same {J : World → Prop} {o : Oper} {v : Value} {a a' : Act} (hy : YieldsJ P ops J o v a) (he : execOp a'.eval o = execOp a.eval o)
    (hw : Region.wanted o (yielded ops a'.tmps) = Region.wanted o (yielded ops a.tmps)) : YieldsJ P ops J o v a' := by
  unfold YieldsJ at *
  rw [he, hw]
  exact hy

/-- Another operation run ahead of one that yields: the two change places. -/
theorem wpOp_putJ {J : World → Prop} {j : Nat} {oi oj : Oper} {v : Value} (hj : ops[j]? = some oj) (hap : oi.apart ops oj = true)
    (hsi : ∀ cs b, oi.op ≠ .select cs b) (hsj : ∀ cs b, oj.op ≠ .select cs b)
    (hQ : ∀ c a w, Q (.panic c) (a.put oi.dst v) w → Q (.panic c) a w) {K : Act → World → Prop} {a : Act} {w : World}
    (hy : YieldsJ P ops J oi v a) (h : wpOp P ops Q j K (a.put oi.dst v) w) :
    wpOp P ops Q j (fun a' w' => YieldsJ P ops J oi v a' ∧ K (a'.put oi.dst v) w') a w := by
  obtain ⟨h1, h2, h3⟩ := Oper.apart_spec hap
  have keep : ∀ (a : Act), YieldsJ P ops J oi v a → ∀ u, YieldsJ P ops J oi v (a.put oj.dst u) := fun a hy u =>
    hy.of_same (execOp_put oi hsi a oj.dst u h3) (wanted_put oi a oj.dst u h3)
  have keepD : ∀ d, YieldsJ P ops J oi v { a with defers := d :: a.defers } := fun d => hy.of_same rfl rfl
  unfold wpOp at *
  simp only [hj] at *
  rw [wanted_put oj a oi.dst v h1] at h
  by_cases hw : Region.wanted oj (yielded ops a.tmps) = true
  · simp only [hw, if_true] at h ⊢
    rcases h with h | ⟨hasks, hlets⟩
    · refine .inl ?_
      unfold Oper.wp at *
      rw [execOp_put oj hsj a oi.dst v h1] at h
      generalize (execOp a.eval oj).run P w = r at *
      cases r with
      | ok x w' =>
        cases x <;> simp only [Oper.upon] at h ⊢
        case value u => exact ⟨keep a hy u, by rw [← Act.put_comm a v u h2]; exact h⟩
        case skip => exact ⟨keep a hy _, by rw [← Act.put_comm a v undef h2]; exact h⟩
        case defer d =>
          refine ⟨keep _ (keepD d) _, ?_⟩
          rw [← Act.put_comm _ v undef h2, ← Act.put_defers]
          exact h
        case enter f args =>
          refine Calls.mono h fun e w'' he => ?_
          cases e with
          | returned u => exact ⟨keep a hy u, by rw [← Act.put_comm a v u h2]; exact he⟩
          | panicked c => exact hQ _ _ _ he
          | outgrown => exact he
        case row row args => exact Rows.mono h fun u w'' he => ⟨keep a hy u, by rw [← Act.put_comm a v u h2]; exact he⟩
      | halt x w' =>
        cases x <;> simp only [Oper.upon] at h ⊢
        case panic u => exact hQ _ _ _ h
    · exact .inr ⟨by unfold Oper.asks at *; rw [execOp_put oj hsj a oi.dst v h1] at hasks; exact hasks, hlets⟩
  · simp only [hw] at h ⊢
    exact ⟨keep a hy _, by rw [← Act.put_comm a v undef h2]; exact h⟩

/-- Any order of the head: the world meets 'J' all along; behind the head stands 'T'. -/
def wpAnyJ (P : Program) (md : Region.Mode) (ops : Array Oper) (Q : Exit → Act → World → Prop) (J : World → Prop) (n : Nat) (T : Array Bool → Act → World → Prop) :
    Nat → Array Bool → Act → World → Prop
  | 0, listed, a, w => J w ∧ T listed a w
  | f + 1, listed, a, w =>
    J w ∧ Region.ready md ops listed ≠ [] ∧ ∀ i ∈ Region.ready md ops listed, i < n ∧ wpOp P ops Q i (wpAnyJ P md ops Q J n T f (listed.setIfInBounds i true)) a w

theorem wpAny_of_headJ {J : World → Prop} {n g : Nat} {T : Array Bool → Act → World → Prop} (hT : ∀ listed a w, T listed a w → wpAny P md ops Q g listed a w) :
    ∀ (f : Nat) (listed : Array Bool) (a : Act) (w : World), wpAnyJ P md ops Q J n T f listed a w → wpAny P md ops Q (f + g) listed a w
  | 0, listed, a, w, h => by rw [Nat.zero_add]; exact hT _ _ _ h.2
  | f + 1, listed, a, w, h => by
    rw [show f + 1 + g = (f + g) + 1 by omega]
    exact ⟨fun h0 => absurd h0 h.2.1, fun i hi => wpOp_mono (fun a' w' h' => wpAny_of_headJ hT f _ a' w' h') (h.2.2 i hi).2⟩

theorem wpAnyJ_first {J : World → Prop} {n i : Nat} {oi : Oper} {v : Value} {T : Array Bool → Act → World → Prop} (hi : ops[i]? = some oi) (hsel : ∀ (j : Nat) (o : Oper) cs b, ops[j]? = some o → o.op ≠ .select cs b)
    (hs : Region.sinkB md ops n = true) (hc : Region.chainB md ops n = true) (hn : n < ops.size) (hin : i < n)
    (hQ : ∀ c a w, Q (.panic c) (a.put oi.dst v) w → Q (.panic c) a w)
    (hdone : ∀ listed a w, T listed a w → ∀ j ∈ Region.ready md ops listed, n ≤ j) :
    ∀ (f : Nat) (listed : Array Bool) (a : Act) (w : World), HeadInv md ops n listed →
      (∀ j oj, ops[j]? = some oj → j ≠ i → listed.getD j true = false → (∀ e ∈ oj.after, Region.binds md e = true → e.on ≠ i) → oi.apart ops oj = true) →
      i ∈ Region.ready md ops listed → YieldsJ P ops J oi v a → J w →
      wpAnyJ P md ops Q J n T f (listed.setIfInBounds i true) (a.put oi.dst v) w → wpAnyJ P md ops Q J n T (f + 1) listed a w := by
  intro f
  induction f with
  | zero =>
    intro listed a w inv _ hr hy hJ H
    have hun := (mem_ready.1 hr).1
    refine ⟨hJ, fun h => (by rw [h] at hr; cases hr), fun j hj => ?_⟩
    have hjn : j < n := by
      rcases Nat.lt_or_ge j n with h | h
      · exact h
      · exact absurd hj (tail_waits hs hc hn inv _ i rfl hin hun j h)
    refine ⟨hjn, ?_⟩
    by_cases hji : j = i
    · subst hji; exact hy.wpOp hi hJ H
    · have := hdone _ _ _ H.2 j (ready_mono hj hji)
      omega
  | succ f ih =>
    intro listed a w inv hfree hr hy hJ H
    have hun := (mem_ready.1 hr).1
    refine ⟨hJ, fun h => (by rw [h] at hr; cases hr), fun j hj => ?_⟩
    have hjn : j < n := by
      rcases Nat.lt_or_ge j n with h | h
      · exact h
      · exact absurd hj (tail_waits hs hc hn inv _ i rfl hin hun j h)
    refine ⟨hjn, ?_⟩
    by_cases hji : j = i
    · subst hji; exact hy.wpOp hi hJ H
    · have h1 := (H.2.2 j (ready_mono hj hji)).2
      obtain ⟨hjun, oj, hoj, hall⟩ := mem_ready.1 hj
      have hnot : ∀ e ∈ oj.after, Region.binds md e = true → e.on ≠ i := fun e he hb heq => by
        have h1 := hall e he hb
        rw [heq, getD_both hun] at h1
        cases h1
      have h2 := wpOp_putJ hoj (hfree j oj hoj hji hjun hnot) (fun cs b => hsel i oi cs b hi) (fun cs b => hsel j oj cs b hoj) hQ hy h1
      have hfree' : ∀ k ok, ops[k]? = some ok → k ≠ i → (listed.setIfInBounds j true).getD k true = false →
          (∀ e ∈ ok.after, Region.binds md e = true → e.on ≠ i) → oi.apart ops ok = true := fun k ok hk hki hun' hno => by
        refine hfree k ok hk hki ?_ hno
        by_cases hjk : j = k
        · subst hjk; exact hjun
        · rw [getD_set_ne true hjk] at hun'; exact hun'
      refine wpOp_mono (fun a' w' h3 => ?_) h2
      have h4 := h3.2
      rw [Array.setIfInBounds_comm _ _ (Ne.symm hji)] at h4
      have hJ' : J w' := by
        cases f with
        | zero => exact h4.1
        | succ f => exact h4.1
      exact ih (listed.setIfInBounds j true) a' w' (inv.set hj hjn) hfree' (ready_mono hr (Ne.symm hji)) h3.1 hJ' h4

/-- The order in which the head is walked: each row a place of the region, and whether the operation acts. -/
def orderB (md : Region.Mode) (ops : Array Oper) (g n : Nat) : List (Nat × Bool) → Array Bool → Bool
  | [], listed => Region.seqB md ops g n listed
  | (i, act) :: rest, listed =>
    (match act with
      | true => decide (Region.ready md ops listed = [i])
      | false => (Region.ready md ops listed).contains i && Region.free md ops listed i) && Nat.blt i n && orderB md ops g n rest (listed.setIfInBounds i true)

def drawsB (md : Region.Mode) (ops : Array Oper) (n : Nat) (ord : List (Nat × Bool)) : Bool :=
  Region.noSelect ops && Nat.blt n ops.size && Region.sinkB md ops n && Region.chainB md ops n && Nat.beq ord.length n &&
    orderB md ops (ops.size - n) n ord (Array.replicate ops.size false)

/-- The walk along that order. -/
def wpOrd (P : Program) (ops : Array Oper) (Q : Exit → Act → World → Prop) (J : World → Prop) (K : Act → World → Prop) : List (Nat × Bool) → Act → World → Prop
  | [], a, w => J w ∧ K a w
  | (i, true) :: rest, a, w => J w ∧ wpOp P ops Q i (wpOrd P ops Q J K rest) a w
  | (i, false) :: rest, a, w => J w ∧ ∃ o v, ops[i]? = some o ∧ YieldsJ P ops J o v a ∧ wpOrd P ops Q J K rest (a.put o.dst v) w

theorem wpAnyJ_ord {J : World → Prop} {K : Act → World → Prop} {n g : Nat} (hsel : Region.noSelect ops = true) (hs : Region.sinkB md ops n = true) (hc : Region.chainB md ops n = true) (hn : n < ops.size)
    (hQ : ∀ (d : Option Tmp) (v : Value) c a w, Q (.panic c) (a.put d v) w → Q (.panic c) a w) :
    ∀ (ord : List (Nat × Bool)) (listed : Array Bool) (a : Act) (w : World), HeadInv md ops n listed → orderB md ops g n ord listed = true → wpOrd P ops Q J K ord a w →
      wpAnyJ P md ops Q J n (fun l a w => Region.seqB md ops g n l = true ∧ K a w) ord.length listed a w
  | [], listed, a, w, _, hB, h => ⟨h.1, hB, h.2⟩
  | (i, true) :: rest, listed, a, w, inv, hB, h => by
    simp only [orderB, Bool.and_eq_true, decide_eq_true_eq] at hB
    obtain ⟨⟨hr, hin⟩, hB⟩ := hB
    have hin' : i < n := blt_lt hin
    refine ⟨h.1, by rw [hr]; simp, fun j hj => ?_⟩
    have hji : j = i := by rw [hr] at hj; simpa using hj
    subst hji
    refine ⟨hin', wpOp_mono (fun a' w' h' => ?_) h.2⟩
    exact wpAnyJ_ord hsel hs hc hn hQ rest _ a' w' (inv.set hj hin') hB h'
  | (i, false) :: rest, listed, a, w, inv, hB, h => by
    simp only [orderB, Bool.and_eq_true] at hB
    obtain ⟨⟨⟨hr, hf⟩, hin⟩, hB⟩ := hB
    have hin' : i < n := blt_lt hin
    obtain ⟨hJ, o, v, ho, hy, hK⟩ := h
    have hr' : i ∈ Region.ready md ops listed := by simpa using hr
    exact wpAnyJ_first ho (Region.noSelect_spec hsel) hs hc hn hin' (hQ _ _) (fun l a w hL => seqB_ready hL.1) rest.length listed a w inv (Region.free_spec ho hf) hr' hy hJ
      (wpAnyJ_ord hsel hs hc hn hQ rest _ _ w (inv.set hr' hin') hB hK)

theorem wp_region_ord {id : Nat} {a : Act} {w : World} {l : List Oper} (n : Nat) (ord : List (Nat × Bool)) (J : World → Prop) (hm : P.follows .mixedOrders = true) (hB : drawsB .any l.toArray n ord = true)
    (hQ : ∀ (d : Option Tmp) (v : Value) c a w, Q (.panic c) (a.put d v) w → Q (.panic c) a w)
    (h : wpOrd P l.toArray Q J (wpList P l.toArray Q (l.drop n)) ord a { w with drawn := w.drawn + 1 }) : (Code.region id l.toArray true).wp P Q a w := by
  simp only [drawsB, Bool.and_eq_true] at hB
  obtain ⟨⟨⟨⟨⟨hsel, hn⟩, hs⟩, hc⟩, hlen⟩, hord⟩ := hB
  have hn' : n < l.length := by simpa using blt_lt hn
  have hlen' : ord.length = n := Nat.eq_of_beq_eq_true hlen
  have inv0 : HeadInv .any l.toArray n (Array.replicate l.toArray.size false) :=
    ⟨by simp, fun j oj _ hl => (by rw [getD_replicate_false] at hl; cases hl), fun t _ ht => getD_in (by simpa using ht) (getD_replicate_false _ _)⟩
  have H := wpAnyJ_ord (md := .any) (g := l.toArray.size - n) hsel hs hc (blt_lt hn) hQ ord _ a _ inv0 hord h
  refine wp_region_any hm ?_
  have hdl : (l.drop n).length = l.toArray.size - n := by simp
  have := wpAny_of_headJ (g := l.toArray.size - n) (fun listed a' w' hL => by
    have := wpAny_of_seq (md := .any) (Q' := Q) (l.drop n) n listed a' w' (fun j => by simp [List.getElem?_drop]) (by rw [hdl]; exact hL.1) hL.2
    rwa [hdl] at this) _ _ _ _ H
  rw [hlen', show n + (l.toArray.size - n) = l.toArray.size by simp; omega] at this
  exact this
end
end Go.Sx
