/- Keccak on bytes is one-to-one. Plain Lean, no conditions but those stated. -/
import Derived.Test.YtbnepbdlhpkiiaaDoorSxKp
namespace Go.Proofs.YtbnepbdlhpkiiaaDoor
open Go.Sx

theorem rotl_bit (x : BitVec 64) {n p : Nat} (hn : n < 64) (hp : p < 64) : (rotl x n).getLsbD p = x.getLsbD ((p + (64 - n)) % 64) := by
  unfold rotl
  rw [BitVec.getLsbD_or, BitVec.getLsbD_shiftLeft, BitVec.getLsbD_ushiftRight]
  by_cases h : p < n
  · have : (p + (64 - n)) % 64 = 64 - n + p := by omega
    simp [h, this]
  · have e : (p + (64 - n)) % 64 = p - n := by omega
    have : x.getLsbD (64 - n + p) = false := BitVec.getLsbD_of_ge _ _ (by omega)
    simp [h, e, this, hp]
theorem rotl_inj {x y : BitVec 64} {n : Nat} (hn : n < 64) (h : rotl x n = rotl y n) : x = y := by
  apply BitVec.eq_of_getLsbD_eq
  intro p hp
  have h1 := rotl_bit x hn (p := (p + n) % 64) (by omega)
  have h2 := rotl_bit y hn (p := (p + n) % 64) (by omega)
  rw [h, h2] at h1
  rw [show ((p + n) % 64 + (64 - n)) % 64 = p by omega] at h1
  exact h1.symm
theorem rotl_xor (x y : BitVec 64) {n : Nat} (hn : n < 64) : rotl (x ^^^ y) n = rotl x n ^^^ rotl y n := by
  apply BitVec.eq_of_getLsbD_eq
  intro p hp
  rw [BitVec.getLsbD_xor, rotl_bit _ hn hp, rotl_bit _ hn hp, rotl_bit _ hn hp, BitVec.getLsbD_xor]

/-! ### theta -/
theorem dbl (c : Nat → Nat → Bool) (q : Nat) (h : ∀ x p, c x p = (c (x + 4 * q) p ^^ c (x + q) (p + 63 * q))) : ∀ x p, c x p = (c (x + 4 * (2 * q)) p ^^ c (x + 2 * q) (p + 63 * (2 * q))) := by
  intro x p
  have h1 := h x p
  have h2 := h (x + 4 * q) p
  have h3 := h (x + q) (p + 63 * q)
  rw [show x + 4 * q + 4 * q = x + 4 * (2 * q) by omega, show x + 4 * q + q = x + 5 * q by omega] at h2
  rw [show x + q + 4 * q = x + 5 * q by omega, show x + q + q = x + 2 * q by omega, show p + 63 * q + 63 * q = p + 63 * (2 * q) by omega] at h3
  rw [h1, h2, h3]
  cases c (x + 4 * (2 * q)) p <;> cases c (x + 5 * q) (p + 63 * q) <;> cases c (x + 2 * q) (p + 63 * (2 * q)) <;> rfl
theorem col_zero (C : Nat → BitVec 64) (h : ∀ x, x < 5 → C x = C ((x + 4) % 5) ^^^ rotl (C ((x + 1) % 5)) 1) : ∀ x, x < 5 → C x = 0 := by
  let c : Nat → Nat → Bool := fun x p => (C (x % 5)).getLsbD (p % 64)
  have h0 : ∀ x p, c x p = (c (x + 4 * 1) p ^^ c (x + 1) (p + 63 * 1)) := by
    intro x p
    have := congrArg (fun v : BitVec 64 => v.getLsbD (p % 64)) (h (x % 5) (by omega))
    simp only [BitVec.getLsbD_xor] at this
    rw [rotl_bit _ (by omega) (Nat.mod_lt _ (by omega))] at this
    show (C (x % 5)).getLsbD (p % 64) = ((C ((x + 4 * 1) % 5)).getLsbD (p % 64) ^^ (C ((x + 1) % 5)).getLsbD ((p + 63 * 1) % 64))
    rw [this, show (x % 5 + 4) % 5 = (x + 4 * 1) % 5 by omega, show (x % 5 + 1) % 5 = (x + 1) % 5 by omega, show (p % 64 + (64 - 1)) % 64 = (p + 63 * 1) % 64 by omega]
  have h6 := dbl c 32 (dbl c 16 (dbl c 8 (dbl c 4 (dbl c 2 (dbl c 1 h0)))))
  have h7 : ∀ x p, c x p = (c (x + 1) p ^^ c (x + 4) p) := by
    intro x p
    rw [h6 x p]
    show ((C ((x + 256) % 5)).getLsbD (p % 64) ^^ (C ((x + 64) % 5)).getLsbD ((p + 4032) % 64)) = ((C ((x + 1) % 5)).getLsbD (p % 64) ^^ (C ((x + 4) % 5)).getLsbD (p % 64))
    rw [show (x + 256) % 5 = (x + 1) % 5 by omega, show (x + 64) % 5 = (x + 4) % 5 by omega, show (p + 4032) % 64 = p % 64 by omega]
  have fin : ∀ b0 b1 b2 b3 b4 : Bool, b0 = (b1 ^^ b4) → b1 = (b2 ^^ b0) → b2 = (b3 ^^ b1) → b3 = (b4 ^^ b2) → b4 = (b0 ^^ b3) → b0 = false := by decide
  have per : ∀ x p, c (x + 5) p = c x p := fun x p => by
    show (C ((x + 5) % 5)).getLsbD _ = (C (x % 5)).getLsbD _
    rw [show (x + 5) % 5 = x % 5 by omega]
  intro x hx
  apply BitVec.eq_of_getLsbD_eq
  intro p hp
  have e := fin (c x p) (c (x + 1) p) (c (x + 2) p) (c (x + 3) p) (c (x + 4) p) (h7 x p) (by rw [h7 (x + 1) p]; rw [show x + 1 + 1 = x + 2 by omega, show x + 1 + 4 = x + 5 by omega, per])
    (by rw [h7 (x + 2) p]; rw [show x + 2 + 1 = x + 3 by omega, show x + 2 + 4 = (x + 1) + 5 by omega, per])
    (by rw [h7 (x + 3) p]; rw [show x + 3 + 1 = x + 4 by omega, show x + 3 + 4 = (x + 2) + 5 by omega, per])
    (by rw [h7 (x + 4) p]; rw [show x + 4 + 1 = x + 5 by omega, show x + 4 + 4 = (x + 3) + 5 by omega, per, per])
  have e' : (C (x % 5)).getLsbD (p % 64) = false := e
  rw [Nat.mod_eq_of_lt hx, Nat.mod_eq_of_lt hp] at e'
  rw [e']; simp

theorem xor_move {a b s t : BitVec 64} (h : a ^^^ s = b ^^^ t) : a ^^^ b = s ^^^ t := by
  have : a = b ^^^ t ^^^ s := by rw [← h, BitVec.xor_assoc, BitVec.xor_self, BitVec.xor_zero]
  rw [this, BitVec.xor_comm b t, BitVec.xor_assoc, BitVec.xor_assoc, BitVec.xor_comm s b, ← BitVec.xor_assoc b b s, BitVec.xor_self, BitVec.zero_xor, BitVec.xor_comm]
theorem xor_zero_eq {a b : BitVec 64} (h : a ^^^ b = 0) : a = b := by
  have : a = a ^^^ b ^^^ b := by rw [BitVec.xor_assoc, BitVec.xor_self, BitVec.xor_zero]
  rw [this, h]; exact BitVec.zero_xor
theorem five (u : BitVec 64) : u ^^^ u ^^^ u ^^^ u ^^^ u = u := by
  simp [BitVec.xor_assoc]
theorem theta_inj {a b : Nat → BitVec 64} (h : Eq25 (thE (colP a) a) (thE (colP b) b)) : Eq25 a b := by
  let C : Nat → BitVec 64 := fun x => colP a x ^^^ colP b x
  have hk : ∀ k, k < 25 → a k ^^^ b k = C ((k % 5 + 4) % 5) ^^^ rotl (C ((k % 5 + 1) % 5)) 1 := by
    intro k hk
    have := xor_move (h k hk)
    rw [this, show C ((k % 5 + 1) % 5) = colP a ((k % 5 + 1) % 5) ^^^ colP b ((k % 5 + 1) % 5) from rfl, rotl_xor _ _ (by omega)]
    show thD (colP a) (k % 5) ^^^ thD (colP b) (k % 5) = _
    simp only [thD]
    show _ = (colP a _ ^^^ colP b _) ^^^ _
    ext i hi
    simp only [BitVec.getElem_xor]
    cases (colP a ((k % 5 + 4) % 5))[i] <;> cases (rotl (colP a ((k % 5 + 1) % 5)) 1)[i] <;> cases (colP b ((k % 5 + 4) % 5))[i] <;> cases (rotl (colP b ((k % 5 + 1) % 5)) 1)[i] <;> rfl
  have hC : ∀ x, x < 5 → C x = C ((x + 4) % 5) ^^^ rotl (C ((x + 1) % 5)) 1 := by
    intro x hx
    have e : C x = (a x ^^^ b x) ^^^ (a (x + 5) ^^^ b (x + 5)) ^^^ (a (x + 10) ^^^ b (x + 10)) ^^^ (a (x + 15) ^^^ b (x + 15)) ^^^ (a (x + 20) ^^^ b (x + 20)) := by
      show colP a x ^^^ colP b x = _
      unfold colP
      ext i hi
      simp only [BitVec.getElem_xor]
      cases (a x)[i] <;> cases (a (x + 5))[i] <;> cases (a (x + 10))[i] <;> cases (a (x + 15))[i] <;> cases (a (x + 20))[i] <;> cases (b x)[i] <;> cases (b (x + 5))[i] <;> cases (b (x + 10))[i] <;> cases (b (x + 15))[i] <;> cases (b (x + 20))[i] <;> rfl
    rw [e, hk x (by omega), hk (x + 5) (by omega), hk (x + 10) (by omega), hk (x + 15) (by omega), hk (x + 20) (by omega)]
    rw [show x % 5 = x by omega, show (x + 5) % 5 = x by omega, show (x + 10) % 5 = x by omega, show (x + 15) % 5 = x by omega, show (x + 20) % 5 = x by omega]
    exact five _
  have h0 := col_zero C hC
  intro k hk'
  apply xor_zero_eq
  rw [hk k hk', h0 _ (by omega), h0 _ (by omega)]
  rfl

/-! ### chi, rho and pi, iota -/
theorem chi_bits : ∀ b0 b1 b2 b3 b4 c0 c1 c2 c3 c4 : Bool, (b0 ^^ (b2 && !b1)) = (c0 ^^ (c2 && !c1)) → (b1 ^^ (b3 && !b2)) = (c1 ^^ (c3 && !c2)) → (b2 ^^ (b4 && !b3)) = (c2 ^^ (c4 && !c3)) →
    (b3 ^^ (b0 && !b4)) = (c3 ^^ (c0 && !c4)) → (b4 ^^ (b1 && !b0)) = (c4 ^^ (c1 && !c0)) → b0 = c0 := by decide +kernel
theorem chi_bit (b : Nat → BitVec 64) (k p : Nat) (hp : p < 64) : (chi b k).getLsbD p = ((b k).getLsbD p ^^ ((b (k / 5 * 5 + (k + 2) % 5)).getLsbD p && !(b (k / 5 * 5 + (k + 1) % 5)).getLsbD p)) := by
  unfold chi
  rw [BitVec.getLsbD_xor, BitVec.getLsbD_and, BitVec.getLsbD_not]
  simp [hp]
theorem chi_inj {b c : Nat → BitVec 64} (h : Eq25 (chi b) (chi c)) : Eq25 b c := by
  intro k hk
  apply BitVec.eq_of_getLsbD_eq
  intro p hp
  have key : ∀ j, j < 25 → ((b j).getLsbD p ^^ ((b (j / 5 * 5 + (j + 2) % 5)).getLsbD p && !(b (j / 5 * 5 + (j + 1) % 5)).getLsbD p)) = ((c j).getLsbD p ^^ ((c (j / 5 * 5 + (j + 2) % 5)).getLsbD p && !(c (j / 5 * 5 + (j + 1) % 5)).getLsbD p)) := by
    intro j hj
    rw [← chi_bit b j p hp, ← chi_bit c j p hp, h j hj]
  have r := k / 5 * 5
  have k1 := key (k / 5 * 5 + k % 5) (by omega)
  have k2 := key (k / 5 * 5 + (k + 1) % 5) (by omega)
  have k3 := key (k / 5 * 5 + (k + 2) % 5) (by omega)
  have k4 := key (k / 5 * 5 + (k + 3) % 5) (by omega)
  have k5 := key (k / 5 * 5 + (k + 4) % 5) (by omega)
  rw [show (k / 5 * 5 + k % 5) / 5 * 5 + (k / 5 * 5 + k % 5 + 2) % 5 = k / 5 * 5 + (k + 2) % 5 by omega, show (k / 5 * 5 + k % 5) / 5 * 5 + (k / 5 * 5 + k % 5 + 1) % 5 = k / 5 * 5 + (k + 1) % 5 by omega, show k / 5 * 5 + k % 5 = k by omega] at k1
  rw [show (k / 5 * 5 + (k + 1) % 5) / 5 * 5 + (k / 5 * 5 + (k + 1) % 5 + 2) % 5 = k / 5 * 5 + (k + 3) % 5 by omega, show (k / 5 * 5 + (k + 1) % 5) / 5 * 5 + (k / 5 * 5 + (k + 1) % 5 + 1) % 5 = k / 5 * 5 + (k + 2) % 5 by omega] at k2
  rw [show (k / 5 * 5 + (k + 2) % 5) / 5 * 5 + (k / 5 * 5 + (k + 2) % 5 + 2) % 5 = k / 5 * 5 + (k + 4) % 5 by omega, show (k / 5 * 5 + (k + 2) % 5) / 5 * 5 + (k / 5 * 5 + (k + 2) % 5 + 1) % 5 = k / 5 * 5 + (k + 3) % 5 by omega] at k3
  rw [show (k / 5 * 5 + (k + 3) % 5) / 5 * 5 + (k / 5 * 5 + (k + 3) % 5 + 2) % 5 = k by omega, show (k / 5 * 5 + (k + 3) % 5) / 5 * 5 + (k / 5 * 5 + (k + 3) % 5 + 1) % 5 = k / 5 * 5 + (k + 4) % 5 by omega] at k4
  rw [show (k / 5 * 5 + (k + 4) % 5) / 5 * 5 + (k / 5 * 5 + (k + 4) % 5 + 2) % 5 = k / 5 * 5 + (k + 1) % 5 by omega, show (k / 5 * 5 + (k + 4) % 5) / 5 * 5 + (k / 5 * 5 + (k + 4) % 5 + 1) % 5 = k by omega] at k5
  exact chi_bits _ _ _ _ _ _ _ _ _ _ k1 k2 k3 k4 k5
theorem src_onto : ∀ j, j < 25 → j ≠ 0 → ∃ k, k < 25 ∧ k ≠ 0 ∧ srcL k = j := by decide +kernel
theorem offL_lt : ∀ k, k < 25 → offL k < 64 := by decide
theorem rp_inj {a b : Nat → BitVec 64} (h : Eq25 (rpB (colP a) a) (rpB (colP b) b)) : Eq25 (thE (colP a) a) (thE (colP b) b) := by
  intro j hj
  by_cases h0 : j = 0
  · subst h0
    have := h 0 (by omega)
    simpa [rpB] using this
  · obtain ⟨k, hk, hk0, rfl⟩ := src_onto j hj h0
    have := h k hk
    simp only [rpB, if_neg hk0] at this
    exact rotl_inj (offL_lt k hk) this
theorem rnd_inj {rc : BitVec 64} {a b : Nat → BitVec 64} (h : Eq25 (rnd rc a) (rnd rc b)) : Eq25 a b := by
  refine theta_inj (rp_inj (chi_inj fun k hk => ?_))
  have := h k hk
  simp only [rnd, rndC] at this
  by_cases h0 : k = 0
  · subst h0
    simp only [if_true] at this
    have e := congrArg (· ^^^ rc) this
    simp only [BitVec.xor_assoc, BitVec.xor_self, BitVec.xor_zero] at e
    exact e
  · simpa [h0] using this
theorem rounds_inj (rcs : Nat → BitVec 64) : ∀ (n i : Nat) {a b : Nat → BitVec 64}, Eq25 (rounds rcs i n a) (rounds rcs i n b) → Eq25 a b
  | 0, _, _, _, h => h
  | n + 1, i, _, _, h => rnd_inj (rounds_inj rcs n (i + 1) h)
theorem keccak_inj (rcs : Nat → BitVec 64) (turbo : Bool) {a b : Nat → BitVec 64} (h : Eq25 (keccak rcs turbo a) (keccak rcs turbo b)) : Eq25 a b := by
  unfold keccak at h
  cases turbo
  · exact rounds_inj rcs 24 0 h
  · exact rounds_inj rcs 12 12 h

/-! ### bytes and lanes -/
theorem byt_bit (a : Nat → BitVec 64) (k p : Nat) (hp : p < 8) : (byt a k).getLsbD p = (a (k / 8)).getLsbD (8 * (k % 8) + p) := by
  unfold byt
  rw [BitVec.getLsbD_setWidth, BitVec.getLsbD_ushiftRight]
  simp [hp]
theorem byt_inj {a b : Nat → BitVec 64} (h : ∀ k, k < 200 → byt a k = byt b k) : Eq25 a b := by
  intro i hi
  apply BitVec.eq_of_getLsbD_eq
  intro p hp
  have := congrArg (fun v : BitVec 8 => v.getLsbD (p % 8)) (h (8 * i + p / 8) (by omega))
  simp only [byt_bit _ _ _ (Nat.mod_lt p (show 0 < 8 by omega))] at this
  rw [show (8 * i + p / 8) / 8 = i by omega, show 8 * ((8 * i + p / 8) % 8) + p % 8 = p by omega] at this
  exact this
theorem lnN_bit (x : Nat → BitVec 8) (n i p : Nat) (hp : p < 64) : (lnN x n i).getLsbD p = (decide (8 * i + p / 8 < n) && (x (8 * i + p / 8)).getLsbD (p % 8)) := by
  induction n with
  | zero => simp [lnN]
  | succ n ih =>
    simp only [lnN, upd]
    by_cases h : i = n / 8
    · subst h
      rw [if_pos rfl, BitVec.getLsbD_or, ih, BitVec.getLsbD_shiftLeft, BitVec.getLsbD_setWidth]
      by_cases h1 : 8 * (n / 8) + p / 8 < n
      · rw [decide_eq_true h1, decide_eq_true (show 8 * (n / 8) + p / 8 < n + 1 by omega)]
        have : (x n).getLsbD (p - 8 * (n % 8)) = false ∨ True := Or.inr trivial
        by_cases h2 : p < 8 * (n % 8)
        · simp [h2]
        · omega
      · by_cases h2 : 8 * (n / 8) + p / 8 = n
        · rw [decide_eq_false h1, decide_eq_true (show 8 * (n / 8) + p / 8 < n + 1 by omega), h2]
          have h3 : ¬ p < 8 * (n % 8) := by omega
          have h4 : p - 8 * (n % 8) = p % 8 := by omega
          have h5 : p % 8 < 64 := by omega
          simp [hp, h3, h4, h5]
        · rw [decide_eq_false h1, decide_eq_false (show ¬ 8 * (n / 8) + p / 8 < n + 1 by omega)]
          have h3 : (x n).getLsbD (p - 8 * (n % 8)) = false := BitVec.getLsbD_of_ge _ _ (by omega)
          simp [h3]
    · rw [if_neg h, ih]
      by_cases h1 : 8 * i + p / 8 < n
      · rw [decide_eq_true h1, decide_eq_true (show 8 * i + p / 8 < n + 1 by omega)]
      · rw [decide_eq_false h1, decide_eq_false (show ¬ 8 * i + p / 8 < n + 1 by omega)]
theorem byt_lnN (x : Nat → BitVec 8) (k : Nat) (hk : k < 200) : byt (lnN x 200) k = x k := by
  apply BitVec.eq_of_getLsbD_eq
  intro p hp
  rw [byt_bit _ _ _ hp, lnN_bit _ _ _ _ (by omega), show 8 * (k / 8) + (8 * (k % 8) + p) / 8 = k by omega, show (8 * (k % 8) + p) % 8 = p by omega, decide_eq_true hk]
  simp
theorem keccak_bytes_inj (turbo : Bool) {x y : Nat → BitVec 8} (h : ∀ k, k < 200 → byt (keccak rcF turbo (lnN x 200)) k = byt (keccak rcF turbo (lnN y 200)) k) : ∀ k, k < 200 → x k = y k := by
  have h1 := keccak_inj rcF turbo (byt_inj h)
  intro k hk
  rw [← byt_lnN x k hk, ← byt_lnN y k hk]
  exact byt_congr h1 hk
end Go.Proofs.YtbnepbdlhpkiiaaDoor
