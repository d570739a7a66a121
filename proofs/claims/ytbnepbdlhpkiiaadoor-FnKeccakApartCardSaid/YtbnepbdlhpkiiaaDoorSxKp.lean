/- The reference's round is Keccak's round; the reference's constants are the code's table; bytes of lanes. Plain Lean. -/
import Derived.Test.YtbnepbdlhpkiiaaDoorSxKec
import Derived.Test.YtbnepbdlhpkiiaaDoorSxEqa
namespace Go.Proofs.YtbnepbdlhpkiiaaDoor
open Go.Sx

/-- the table of constants -/
def rcL : List Nat := [1, 32898, 9223372036854808714, 9223372039002292224, 32907, 2147483649, 9223372039002292353, 9223372036854808585, 138, 136, 2147516425, 2147483658, 2147516555, 9223372036854775947, 9223372036854808713, 9223372036854808579, 9223372036854808578, 9223372036854775936, 32778, 9223372039002259466, 9223372039002292353, 9223372036854808704, 2147483649, 9223372039002292232]
def rcF (i : Nat) : BitVec 64 := BitVec.ofNat 64 (rcL.getD i 0)
theorem cst_rc : ∀ i, i < 24 → cst i 7 = rcF i := by decide +kernel

theorem tN_eq (c a : Nat → BitVec 64) (n k : Nat) : tN c a n k = if k < n then thE c a k else a k := by
  induction n with
  | zero => simp [tN]
  | succ n ih =>
    simp only [tN, upd]
    by_cases h : k = n
    · subst h
      have : tN c a k k = a k := by rw [ih, if_neg (by omega)]
      rw [if_pos rfl, if_pos (by omega), this]
      simp only [thE, thD, show (k % 5 + 4) % 5 = (k + 4) % 5 by omega, show (k % 5 + 1) % 5 = (k + 1) % 5 by omega]
      rw [BitVec.xor_assoc]
    · rw [if_neg h, ih]
      by_cases h2 : k < n
      · rw [if_pos h2, if_pos (by omega)]
      · rw [if_neg h2, if_neg (by omega)]
theorem hN_eq (b a : Nat → BitVec 64) (n k : Nat) : hN b a n k = if k < n then chi b k else a k := by
  induction n with
  | zero => simp [hN]
  | succ n ih =>
    simp only [hN, upd]
    by_cases h : k = n
    · subst h
      rw [if_pos rfl, if_pos (by omega)]
      simp only [chi]
      rw [BitVec.and_comm]
    · rw [if_neg h, ih]
      by_cases h2 : k < n
      · rw [if_pos h2, if_pos (by omega)]
      · rw [if_neg h2, if_neg (by omega)]
theorem pN_eq (e : Nat → BitVec 64) : ∀ k, k < 25 → pN e 24 k = if k = 0 then e 0 else rotl (e (srcL k)) (offL k)
  | 0, _ => rfl
  | 1, _ => rfl
  | 2, _ => rfl
  | 3, _ => rfl
  | 4, _ => rfl
  | 5, _ => rfl
  | 6, _ => rfl
  | 7, _ => rfl
  | 8, _ => rfl
  | 9, _ => rfl
  | 10, _ => rfl
  | 11, _ => rfl
  | 12, _ => rfl
  | 13, _ => rfl
  | 14, _ => rfl
  | 15, _ => rfl
  | 16, _ => rfl
  | 17, _ => rfl
  | 18, _ => rfl
  | 19, _ => rfl
  | 20, _ => rfl
  | 21, _ => rfl
  | 22, _ => rfl
  | 23, _ => rfl
  | 24, _ => rfl
  | k + 25, h => absurd h (by omega)
theorem cN_eq (a : Nat → BitVec 64) : ∀ x, x < 5 → cN a 25 x = colP a x
  | 0, _ => by
    have : cN a 25 0 = (0 : BitVec 64) ^^^ a 0 ^^^ a 5 ^^^ a 10 ^^^ a 15 ^^^ a 20 := rfl
    rw [this, show (0 : BitVec 64) = 0#64 from rfl, BitVec.zero_xor]
    rfl
  | 1, _ => by
    have : cN a 25 1 = (0 : BitVec 64) ^^^ a 1 ^^^ a 6 ^^^ a 11 ^^^ a 16 ^^^ a 21 := rfl
    rw [this, show (0 : BitVec 64) = 0#64 from rfl, BitVec.zero_xor]
    rfl
  | 2, _ => by
    have : cN a 25 2 = (0 : BitVec 64) ^^^ a 2 ^^^ a 7 ^^^ a 12 ^^^ a 17 ^^^ a 22 := rfl
    rw [this, show (0 : BitVec 64) = 0#64 from rfl, BitVec.zero_xor]
    rfl
  | 3, _ => by
    have : cN a 25 3 = (0 : BitVec 64) ^^^ a 3 ^^^ a 8 ^^^ a 13 ^^^ a 18 ^^^ a 23 := rfl
    rw [this, show (0 : BitVec 64) = 0#64 from rfl, BitVec.zero_xor]
    rfl
  | 4, _ => by
    have : cN a 25 4 = (0 : BitVec 64) ^^^ a 4 ^^^ a 9 ^^^ a 14 ^^^ a 19 ^^^ a 24 := rfl
    rw [this, show (0 : BitVec 64) = 0#64 from rfl, BitVec.zero_xor]
    rfl
  | k + 5, h => absurd h (by omega)

theorem chi_congr0 {b b' : Nat → BitVec 64} (h : ∀ k, k < 25 → b k = b' k) {k : Nat} (hk : k < 25) : chi b k = chi b' k := by
  unfold chi
  rw [h k hk, h (k / 5 * 5 + (k + 2) % 5) (by omega), h (k / 5 * 5 + (k + 1) % 5) (by omega)]
theorem rd_rnd (i : Nat) (a : Nat → BitVec 64) : Eq25 (rd i a) (rnd (cst i 7) a) := by
  have hth : ∀ k, k < 25 → tN (cN a 25) a 25 k = thE (colP a) a k := by
    intro k hk
    rw [tN_eq, if_pos hk]
    simp only [thE, thD, cN_eq a ((k % 5 + 4) % 5) (by omega), cN_eq a ((k % 5 + 1) % 5) (by omega)]
  have hp : ∀ k, k < 25 → pN (tN (cN a 25) a 25) 24 k = rpB (colP a) a k := by
    intro k hk
    rw [pN_eq _ k hk]
    unfold rpB
    by_cases h0 : k = 0
    · rw [if_pos h0, if_pos h0, hth 0 (by omega)]
    · rw [if_neg h0, if_neg h0, hth _ (srcL_lt k hk)]
  have hh : ∀ k, k < 25 → hN (pN (tN (cN a 25) a 25) 24) (tN (cN a 25) a 25) 25 k = chi (rpB (colP a) a) k := by
    intro k hk
    rw [hN_eq, if_pos hk]
    exact chi_congr0 hp hk
  intro k hk
  simp only [rd, upd, rnd, rndC]
  by_cases h0 : k = 0
  · rw [if_pos h0, if_pos h0, hh 0 (by omega)]
  · rw [if_neg h0, if_neg h0, hh k hk]

theorem rounds_snoc (rcs : Nat → BitVec 64) : ∀ (n i : Nat) (s : Nat → BitVec 64), rounds rcs i (n + 1) s = rnd (rcs (i + n)) (rounds rcs i n s)
  | 0, i, s => by simp [rounds]
  | n + 1, i, s => by
    show rounds rcs (i + 1) (n + 1) (rnd (rcs i) s) = _
    rw [rounds_snoc rcs n (i + 1), show i + 1 + n = i + (n + 1) by omega]
    rfl
theorem rN_rounds (r : Nat) (hr : r ≤ 24) (a : Nat → BitVec 64) : ∀ k, k ≤ r → Eq25 (rN r a k) (rounds rcF (24 - r) k a)
  | 0, _ => Eq25.refl _
  | k + 1, h => by
    rw [rounds_snoc]
    simp only [rN]
    have h1 := rd_rnd (24 - r + k) (rN r a k)
    rw [cst_rc _ (by omega)] at h1
    exact h1.trans (rnd_congr (rN_rounds r hr a k (by omega)))

theorem rN_keccak (turbo : Bool) (a : Nat → BitVec 64) : Eq25 (rN (if turbo then 12 else 24) a (if turbo then 12 else 24)) (keccak rcF turbo a) := by
  cases turbo
  · exact rN_rounds 24 (by omega) a 24 (by omega)
  · exact rN_rounds 12 (by omega) a 12 (by omega)
theorem byt_congr {a b : Nat → BitVec 64} (h : Eq25 a b) {k : Nat} (hk : k < 200) : byt a k = byt b k := by
  unfold byt; rw [h (k / 8) (by omega)]
end Go.Proofs.YtbnepbdlhpkiiaaDoor
