/- Keccak's round in plain Lean, and a row of lanes in the memory: no conditions but those stated. -/
import Derived.Test.YtbnepbdlhpkiiaaDoorSxArr
namespace Go.Sx

/-! ### Keccak, in plain Lean: lanes are told by a function of their number x + 5 y -/
def rotl (x : BitVec 64) (n : Nat) : BitVec 64 := x <<< n ||| x >>> (64 - n)

def colP (a : Nat → BitVec 64) (x : Nat) : BitVec 64 := a x ^^^ a (x + 5) ^^^ a (x + 10) ^^^ a (x + 15) ^^^ a (x + 20)
/-- theta's turn of a lane, the columns' sums told by 'c' -/
def thD (c : Nat → BitVec 64) (x : Nat) : BitVec 64 := c ((x + 4) % 5) ^^^ rotl (c ((x + 1) % 5)) 1
def thE (c a : Nat → BitVec 64) (k : Nat) : BitVec 64 := a k ^^^ thD c (k % 5)
/-- where a lane behind rho and pi comes from, and by how much it was turned -/
def srcL (k : Nat) : Nat := [0, 6, 12, 18, 24, 3, 9, 10, 16, 22, 1, 7, 13, 19, 20, 4, 5, 11, 17, 23, 2, 8, 14, 15, 21].getD k 0
def offL (k : Nat) : Nat := [0, 44, 43, 21, 14, 28, 20, 3, 45, 61, 1, 6, 25, 8, 18, 27, 36, 10, 15, 56, 62, 55, 39, 41, 2].getD k 0
def rpB (c a : Nat → BitVec 64) (k : Nat) : BitVec 64 := if k = 0 then thE c a 0 else rotl (thE c a (srcL k)) (offL k)
def chi (b : Nat → BitVec 64) (k : Nat) : BitVec 64 := b k ^^^ (b (k / 5 * 5 + (k + 2) % 5) &&& ~~~ b (k / 5 * 5 + (k + 1) % 5))
/-- a round, the columns' sums told by 'c' -/
def rndC (rc : BitVec 64) (c a : Nat → BitVec 64) (k : Nat) : BitVec 64 := if k = 0 then chi (rpB c a) 0 ^^^ rc else chi (rpB c a) k
def rnd (rc : BitVec 64) (a : Nat → BitVec 64) : Nat → BitVec 64 := rndC rc (colP a) a

/-- a row of lanes between other cells -/
def lay (pre : List Value) (s : Nat → BitVec 64) (post : List Value) : Array Value := (pre ++ ((arrU 25 s).toList ++ post)).toArray

theorem lay_size (pre : List Value) (s : Nat → BitVec 64) (post : List Value) : (lay pre s post).size = pre.length + (25 + post.length) := by
  simp [lay, arrU_size]
theorem lay_get (pre : List Value) (s : Nat → BitVec 64) (post : List Value) {i : Nat} (h : i < 25) : (lay pre s post)[pre.length + i]? = some (U (s i)) := by
  simp only [lay, List.getElem?_toArray]
  rw [List.getElem?_append_right (by omega), Nat.add_sub_cancel_left, List.getElem?_append_left (by simpa [arrU_size] using h)]
  have := arrU_get s h
  rw [Array.getElem?_toList]; exact this
theorem lay_set (pre : List Value) (s : Nat → BitVec 64) (post : List Value) {i : Nat} (h : i < 25) (x : BitVec 64) : (lay pre s post).setIfInBounds (pre.length + i) (U x) = lay pre (upd s i x) post := by
  simp only [lay, List.setIfInBounds_toArray]
  rw [List.set_append_right _ _ (by omega), Nat.add_sub_cancel_left, List.set_append_left _ _ (by simpa [arrU_size] using h)]
  rw [← arrU_set, Array.toList_setIfInBounds]
theorem lay_ext {pre post : List Value} {s t : Nat → BitVec 64} (h : ∀ i, i < 25 → s i = t i) : lay pre s post = lay pre t post := by
  unfold lay; rw [arrU_ext h]
theorem lay_nil (s : Nat → BitVec 64) : lay [] s [] = arrU 25 s := by simp [lay]

/-- the memory with the lanes in block 'b' -/
def HH (H : Array Obj) (b : Nat) (pre post : List Value) (T : TypeId) (s : Nat → BitVec 64) : Array Obj := H.setIfInBounds b (cellsOf (lay pre s post) T)
theorem HH_ext {H : Array Obj} {b : Nat} {pre post : List Value} {T : TypeId} {s t : Nat → BitVec 64} (h : ∀ i, i < 25 → s i = t i) : HH H b pre post T s = HH H b pre post T t := by
  unfold HH; rw [lay_ext h]

section
variable {P : Program} {H : Array Obj} {L : Env} {ty : TypeId} {b : Nat} {pre post : List Value} {T : TypeId} {s : Nat → BitVec 64}
theorem HH_get (hb : b < H.size) : (HH H b pre post T s)[b]? = some (cellsOf (lay pre s post) T) := by simp [HH, hb]
theorem Yl.lane {t : TypeId} {x : Operand} {d : TypeDesc} {i off : Nat} {v : BitVec 64} (ht : P.underlying t = some d) (hd : aggB d = false) (hb : b < H.size)
    (hx : evL L x = some (ptr b (off + i))) (hoff : off = pre.length) (hi : Nat.blt i 25 = true) (hv : s i = v) : Yl P (HH H b pre post T s) L (.load t x) ty (U v) := by
  subst hv; subst hoff
  exact Yl.load1 ht hd hx (HH_get hb) (lay_get _ _ _ (blt_lt hi))
theorem Ef.lane {t : TypeId} {x y : Operand} {inf : TypeInfo} {i off : Nat} {v : BitVec 64} (hi' : P.info? t = some inf) (h1 : Nat.beq inf.size 1 = true) (hb : b < H.size)
    (hx : evL L x = some (ptr b (off + i))) (hoff : off = pre.length) (hy : evL L y = some (U v)) (hi : Nat.blt i 25 = true) :
    Ef P (HH H b pre post T s) L (.store t x y) ty .skip (HH H b pre post T (upd s i v)) := by
  subst hoff
  have := Ef.store1 (P := P) (ty := ty) hi' h1 hx hy rfl (HH_get (H := H) (pre := pre) (post := post) (T := T) (s := s) hb) (by rw [lay_size]; have := blt_lt hi; omega)
  rw [lay_set _ _ _ (blt_lt hi)] at this
  unfold HH at this ⊢
  rwa [set_set] at this
theorem Yl.rc {t : TypeId} {x : Operand} {d : TypeDesc} {k : Nat} {rcs : Nat → BitVec 64} {T' : TypeId} {fz : Nat × Nat} {g : Nat} (ht : P.underlying t = some d) (hd : aggB d = false) (hg : H[g]? = some (.cells (arrU 24 rcs) T' fz)) (hne : b ≠ g)
    (hx : evL L x = some (ptr g (0 + k))) (hk : k < 24) : Yl P (HH H b pre post T s) L (.load t x) ty (U (rcs k)) := by
  rw [Nat.zero_add] at hx
  refine Yl.load1 (T := T') (fz := fz) ht hd hx ?_ (arrU_get rcs hk)
  unfold HH
  rw [get_set_ne hne]; exact hg
end
end Go.Sx
