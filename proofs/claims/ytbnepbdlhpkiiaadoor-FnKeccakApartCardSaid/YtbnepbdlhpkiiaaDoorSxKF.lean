/- Part of the proof: KF. Conditions: those stated. -/
import Derived.Test.YtbnepbdlhpkiiaaDoorSxKFb
namespace Go.Proofs.YtbnepbdlhpkiiaaDoor
open Go.Sx

/-! ### The four rounds put together: plain -/
def Eq25 (s t : Nat → BitVec 64) : Prop := ∀ i, i < 25 → s i = t i
theorem Eq25.refl (s : Nat → BitVec 64) : Eq25 s s := fun _ _ => rfl
theorem Eq25.symm {s t : Nat → BitVec 64} (h : Eq25 s t) : Eq25 t s := fun i hi => (h i hi).symm
theorem Eq25.trans {s t u : Nat → BitVec 64} (h : Eq25 s t) (k : Eq25 t u) : Eq25 s u := fun i hi => (h i hi).trans (k i hi)

theorem srcL_lt : ∀ k, k < 25 → srcL k < 25 := by decide
theorem thE_congr {c c' a a' : Nat → BitVec 64} (hc : ∀ x, x < 5 → c x = c' x) (ha : Eq25 a a') {k : Nat} (hk : k < 25) : thE c a k = thE c' a' k := by
  unfold thE thD
  rw [ha k hk, hc _ (Nat.mod_lt _ (by omega)), hc _ (Nat.mod_lt _ (by omega))]
theorem rpB_congr {c c' a a' : Nat → BitVec 64} (hc : ∀ x, x < 5 → c x = c' x) (ha : Eq25 a a') {k : Nat} (hk : k < 25) : rpB c a k = rpB c' a' k := by
  unfold rpB
  split
  · exact thE_congr hc ha (by omega)
  · rw [thE_congr hc ha (srcL_lt k hk)]
theorem chi_congr {b b' : Nat → BitVec 64} (hb : Eq25 b b') {k : Nat} (hk : k < 25) : chi b k = chi b' k := by
  unfold chi
  rw [hb k hk, hb _ (by omega), hb _ (by omega)]
theorem rndC_congr {rc : BitVec 64} {c c' a a' : Nat → BitVec 64} (hc : ∀ x, x < 5 → c x = c' x) (ha : Eq25 a a') : Eq25 (rndC rc c a) (rndC rc c' a') := by
  intro k hk
  unfold rndC
  have hb : Eq25 (rpB c a) (rpB c' a') := fun k hk => rpB_congr hc ha hk
  split
  · rw [chi_congr hb (by omega)]
  · exact chi_congr hb hk
theorem colP_congr {a a' : Nat → BitVec 64} (ha : Eq25 a a') : ∀ x, x < 5 → colP a x = colP a' x := by
  intro x hx
  unfold colP
  rw [ha x (by omega), ha (x + 5) (by omega), ha (x + 10) (by omega), ha (x + 15) (by omega), ha (x + 20) (by omega)]
theorem rnd_congr {rc : BitVec 64} {a a' : Nat → BitVec 64} (ha : Eq25 a a') : Eq25 (rnd rc a) (rnd rc a') := rndC_congr (colP_congr ha) ha

theorem col_phi (p : List Nat) (s : Nat → BitVec 64) (h : ∀ x, x < 5 → [p.getD x 0, p.getD (x + 5) 0, p.getD (x + 10) 0, p.getD (x + 15) 0, p.getD (x + 20) 0].Perm [x, x + 5, x + 10, x + 15, x + 20]) :
    ∀ x, x < 5 → colP s x = colP (fun j => s (p.getD j 0)) x := by
  intro x hx
  have hp := h x hx
  have e : ∀ l : List Nat, colP s x = colP s x := fun _ => rfl
  have key : ∀ (l l' : List Nat), l.Perm l' → l.foldr (fun i acc => s i ^^^ acc) 0 = l'.foldr (fun i acc => s i ^^^ acc) 0 := by
    intro l l' hl
    induction hl with
    | nil => rfl
    | cons x _ ih => simp only [List.foldr_cons, ih]
    | swap x y l => simp only [List.foldr_cons]; rw [← BitVec.xor_assoc, ← BitVec.xor_assoc, BitVec.xor_comm (s y) (s x)]
    | trans _ _ ih1 ih2 => exact ih1.trans ih2
  have := key _ _ hp
  simp only [List.foldr_cons, List.foldr_nil, BitVec.ofNat_eq_ofNat, BitVec.xor_zero] at this
  unfold colP
  simp only [BitVec.xor_assoc]
  exact this.symm

/-- rounds from the i-th on -/
def rounds (rcs : Nat → BitVec 64) : Nat → Nat → (Nat → BitVec 64) → (Nat → BitVec 64)
  | _, 0, s => s
  | i, n + 1, s => rounds rcs (i + 1) n (rnd (rcs i) s)
theorem rounds_congr (rcs : Nat → BitVec 64) : ∀ (n i : Nat) {s t : Nat → BitVec 64}, Eq25 s t → Eq25 (rounds rcs i n s) (rounds rcs i n t)
  | 0, _, _, _, h => h
  | n + 1, i, _, _, h => rounds_congr rcs n (i + 1) (rnd_congr h)

/-- the permutation: all rounds, or the last twelve -/
def keccak (rcs : Nat → BitVec 64) (turbo : Bool) (s : Nat → BitVec 64) : Nat → BitVec 64 := if turbo then rounds rcs 12 12 s else rounds rcs 0 24 s

def ph0 : List Nat := [0, 1, 2, 3, 4, 5, 6, 7, 8, 9, 10, 11, 12, 13, 14, 15, 16, 17, 18, 19, 20, 21, 22, 23, 24]
theorem ph0_id : ∀ j, j < 25 → ph0.getD j 0 = j := by decide

theorem step_phi {rc : BitVec 64} {s s' : Nat → BitVec 64} {a : Nat → BitVec 64} (p p' : List Nat) (hp : ∀ x, x < 5 → [p.getD x 0, p.getD (x + 5) 0, p.getD (x + 10) 0, p.getD (x + 15) 0, p.getD (x + 20) 0].Perm [x, x + 5, x + 10, x + 15, x + 20])
    (h : ∀ j, j < 25 → s' (p'.getD j 0) = rndC rc (colP s) (fun j => s (p.getD j 0)) j) (ha : Eq25 (fun j => s (p.getD j 0)) a) : Eq25 (fun j => s' (p'.getD j 0)) (rnd rc a) := by
  intro j hj
  show s' (p'.getD j 0) = _
  rw [h j hj]
  exact (rndC_congr (col_phi p s hp) (Eq25.refl _)).trans (rnd_congr ha) j hj

section
variable {w0 : World} {H : Array Obj} {Q : Exit → Act → World → Prop} {b off : Nat} {pre post : List Value} {T : TypeId} {rcs : Nat → BitVec 64} {T' : TypeId} {fz : Nat × Nat}

theorem kf_body (hb : b < H.size) (hoff : off = pre.length) (hg : H[1]? = some (.cells (arrU 24 rcs) T' fz)) (hne : b ≠ 1) (hQ : QP Q) (i : Nat) (hi : i + 3 < 24) (s : Nat → BitVec 64)
    (k : ∀ s' : Nat → BitVec 64, Eq25 s' (rounds rcs i 4 s) → At w0 2540 [(0, ptr b off), (15, I i)] (HH H b pre post T s') (Q .normal)) :
    At w0 2540 [(0, ptr b off), (15, I i)] (HH H b pre post T s) (Code.wp Tryd.prog kfBody Q) := by
  refine kf_round0 hb hoff hg hne hQ i (by omega) s fun s1 h1 => ?_
  refine kf_round1 hb hoff hg hne hQ i (by omega) s1 fun s2 h2 => ?_
  refine kf_round2 hb hoff hg hne hQ i (by omega) s2 fun s3 h3 => ?_
  refine kf_round3 hb hoff hg hne hQ i (by omega) s3 fun s4 h4 => ?_
  refine k s4 ?_
  have e0 : Eq25 (fun j => s (ph0.getD j 0)) s := fun j hj => by show s _ = s j; rw [ph0_id j hj]
  have e1 := step_phi ph0 _ (by decide) h1 e0
  have e2 := step_phi _ _ (by decide) h2 e1
  have e3 := step_phi _ _ (by decide) h3 e2
  have e4 := step_phi _ ph0 (by decide) h4 e3
  intro j hj
  have := e4 j hj
  simp only [ph0_id j hj] at this
  exact this

set_option maxRecDepth 10000 in
/-- KeccakF1600: the lanes behind the pointer are permuted, nothing else is touched. -/
theorem kf_does {s : Nat → BitVec 64} (hb : H[b]? = some (cellsOf (lay pre s post) T)) (hg : H[1]? = some (.cells (arrU 24 rcs) T' fz)) (hne : b ≠ 1) (turbo : Bool) :
    Does Tryd.prog 39 #[ptr b pre.length, .bool turbo] H (fun v H' => v = .tuple #[] ∧ H' = H.setIfInBounds b (cellsOf (lay pre (keccak rcs turbo s) post) T)) := by
  have hbs := lt_of_get hb
  have hH : HH H b pre post T s = H := by unfold HH; exact set_self hb
  refine Does.of_body (vs := [ptr b pre.length, .bool turbo]) Tryd.func39 rfl Tryd.ntmps39 rfl fun w0 => ?_
  refine At.seq (At.region ?_)
  iterate 11 refine At.yl (Yl.assign rfl) rfl ?_
  refine At.nil (At.nmThen ?_)
  refine At.seq (At.region ?_)
  refine At.yl (Yl.assign rfl) rfl ?_
  refine At.nil (At.nmThen ?_)
  refine At.seq (At.seq (At.region ?_))
  refine At.yl (Yl.move rfl) rfl ?_
  refine At.nil (At.nmThen ?_)
  have loop : ∀ i0 : Nat, (i0 = 0 ∧ turbo = false ∨ i0 = 12 ∧ turbo = true) → At w0 2540 [(0, ptr b pre.length), (15, I i0)] H
      (Code.wp Tryd.prog (seqTail 3 kfWhole) (bodyPost Tryd.prog Tryd.f39 (Finis w0 fun v H' => v = .tuple #[] ∧ H' = H.setIfInBounds b (cellsOf (lay pre (keccak rcs turbo s) post) T)))) := by
    intro i0 hi0
    refine At.block (At.loop (σ := Nat × (Nat → BitVec 64)) (fun σ => [(0, ptr b pre.length), (15, I σ.1)]) (fun σ => HH H b pre post T σ.2)
      (fun σ => σ.1 ≤ 24 ∧ σ.1 % 4 = 0 ∧ Eq25 (rounds rcs σ.1 (24 - σ.1) σ.2) (keccak rcs turbo s)) (fun σ => 24 - σ.1) (i0, s) ?_ (.cons rfl (.cons rfl .nil)) hH ?_)
    · rcases hi0 with ⟨rfl, rfl⟩ | ⟨rfl, rfl⟩
      · exact ⟨by omega, by omega, Eq25.refl _⟩
      · exact ⟨by omega, by omega, Eq25.refl _⟩
    · rintro ⟨i, t⟩ ⟨h1, h2, h3⟩
      simp only at h1 h2 h3 ⊢
      refine At.seq (At.seq (At.region ?_))
      refine At.yl (Yl.move rfl) rfl ?_
      refine At.yl (Yl.lss rfl rfl) rfl ?_
      refine At.nil (At.nmThen ?_)
      by_cases hlt : i < 24
      · refine At.condDT rfl (by omega) (At.skip (At.nmThen ?_))
        refine At.seq (At.block ?_)
        refine At.weaken (L' := [(0, ptr b pre.length), (15, I i)]) (.cons rfl (.cons rfl .nil)) ?_
        refine kf_body hbs rfl hg hne (QP.blk (QP.thn (QP.thn (QP.blk (QP.body _ _ _))))) i (by omega) t fun t' ht' => ?_
        refine At.nmBlock (At.nmThen (At.region ?_))
        refine At.yl (Yl.move rfl) rfl ?_
        refine At.yl (Yl.addI rfl rfl (by omega) (by omega)) rfl ?_
        refine At.yl (Yl.assign rfl) rfl ?_
        refine At.nil (At.nmThen ?_)
        refine At.round (i + 4, t') ⟨by simp only; omega, by simp only; omega, ?_⟩ (by simp only; omega) (.cons rfl (.cons rfl .nil)) rfl
        simp only
        refine Eq25.trans ?_ h3
        have e : 24 - i = 4 + (24 - (i + 4)) := by omega
        rw [e]
        have hr : ∀ (m n j : Nat) (u : Nat → BitVec 64), rounds rcs j (m + n) u = rounds rcs (j + m) n (rounds rcs j m u) := by
          intro m
          induction m with
          | zero => intro n j u; simp [rounds]
          | succ m ih =>
            intro n j u
            rw [show m + 1 + n = (m + n) + 1 by omega]
            simp only [rounds]
            rw [ih]
            congr 1
            omega
        rw [hr 4 (24 - (i + 4)) i t]
        exact rounds_congr rcs _ _ ht'
      · refine At.condDF rfl (by omega) (At.exit (At.exThen (At.exThen (At.exHere ?_))))
        refine At.ret0 rfl ⟨rfl, ?_⟩
        have hi : i = 24 := by omega
        subst hi
        exact HH_ext fun j hj => h3 j hj
  cases turbo with
  | true =>
    refine At.condT rfl (At.region ?_)
    refine At.yl (Yl.assign rfl) rfl ?_
    refine At.nil (At.nmThen ?_)
    refine At.weaken (L' := [(0, ptr b pre.length), (15, I 12)]) (.cons rfl (.cons rfl .nil)) ?_
    exact loop 12 (.inr ⟨rfl, rfl⟩)
  | false =>
    refine At.condF rfl (At.skip (At.nmThen ?_))
    refine At.weaken (L' := [(0, ptr b pre.length), (15, I 0)]) (.cons rfl (.cons rfl .nil)) ?_
    exact loop 0 (.inl ⟨rfl, rfl⟩)
end
end Go.Proofs.YtbnepbdlhpkiiaaDoor
