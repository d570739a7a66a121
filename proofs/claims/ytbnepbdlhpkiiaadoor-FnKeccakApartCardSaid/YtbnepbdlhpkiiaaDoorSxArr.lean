/- Arrays of words and of bytes told by a function: of no program, without conditions but those stated. -/
import Derived.Test.YtbnepbdlhpkiiaaDoorSxMore
namespace Go.Sx

def upd {α : Type} (f : Nat → α) (i : Nat) (x : α) : Nat → α := fun k => if k = i then x else f k
theorem upd_same {α : Type} (f : Nat → α) (i : Nat) (x : α) : upd f i x i = x := by simp [upd]
theorem upd_ne {α : Type} (f : Nat → α) {i k : Nat} (x : α) (h : k ≠ i) : upd f i x k = f k := by simp [upd, h]

/-- 'n' cells, told by a function -/
def arr (n : Nat) (f : Nat → Value) : Array Value := Array.ofFn (n := n) fun i => f i
def arrU (n : Nat) (f : Nat → BitVec 64) : Array Value := arr n fun i => U (f i)
def arrB (n : Nat) (f : Nat → BitVec 8) : Array Value := arr n fun i => B (f i)

theorem arr_size (n : Nat) (f : Nat → Value) : (arr n f).size = n := by simp [arr]
theorem arrU_size (n : Nat) (f : Nat → BitVec 64) : (arrU n f).size = n := arr_size _ _
theorem arrB_size (n : Nat) (f : Nat → BitVec 8) : (arrB n f).size = n := arr_size _ _
theorem arr_get {n i : Nat} (f : Nat → Value) (h : i < n) : (arr n f)[i]? = some (f i) := by simp [arr, h]
theorem arrU_get {n i : Nat} (f : Nat → BitVec 64) (h : i < n) : (arrU n f)[i]? = some (U (f i)) := arr_get _ h
theorem arrB_get {n i : Nat} (f : Nat → BitVec 8) (h : i < n) : (arrB n f)[i]? = some (B (f i)) := arr_get _ h
theorem arr_get_none {n i : Nat} (f : Nat → Value) (h : n ≤ i) : (arr n f)[i]? = none := by
  rw [Array.getElem?_eq_none]; rw [arr_size]; exact h
theorem arr_ext {n : Nat} {f g : Nat → Value} (h : ∀ i, i < n → f i = g i) : arr n f = arr n g := by
  apply Array.ext (by simp [arr])
  intro i h1 h2
  simp only [arr, Array.getElem_ofFn]
  exact h i (by simpa [arr] using h1)
theorem arrU_ext {n : Nat} {f g : Nat → BitVec 64} (h : ∀ i, i < n → f i = g i) : arrU n f = arrU n g := arr_ext fun i hi => by rw [h i hi]
theorem arrB_ext {n : Nat} {f g : Nat → BitVec 8} (h : ∀ i, i < n → f i = g i) : arrB n f = arrB n g := arr_ext fun i hi => by rw [h i hi]
theorem arr_set {n i : Nat} (f : Nat → Value) (v : Value) : (arr n f).setIfInBounds i v = arr n (upd f i v) := by
  apply Array.ext (by simp [arr])
  intro k h1 h2
  rw [Array.getElem_setIfInBounds (by simpa using h1)]
  simp only [arr, Array.getElem_ofFn, upd]
  by_cases e : i = k
  · subst e; simp
  · rw [if_neg e, if_neg (fun h => e h.symm)]
theorem arrU_set {n i : Nat} (f : Nat → BitVec 64) (x : BitVec 64) : (arrU n f).setIfInBounds i (U x) = arrU n (upd f i x) := by
  unfold arrU; rw [arr_set]; apply arr_ext; intro k _; simp only [upd]; split <;> rfl
theorem arrB_set {n i : Nat} (f : Nat → BitVec 8) (x : BitVec 8) : (arrB n f).setIfInBounds i (B x) = arrB n (upd f i x) := by
  unfold arrB; rw [arr_set]; apply arr_ext; intro k _; simp only [upd]; split <;> rfl
theorem arrU_one {n : Nat} {f : Nat → BitVec 64} : ∀ v ∈ (arrU n f).toList, v.oneCell' = true := by
  intro v hv
  simp only [arrU, arr, Array.mem_toList_iff, Array.mem_ofFn] at hv
  obtain ⟨i, rfl⟩ := hv; rfl
theorem arrB_one {n : Nat} {f : Nat → BitVec 8} : ∀ v ∈ (arrB n f).toList, v.oneCell' = true := by
  intro v hv
  simp only [arrB, arr, Array.mem_toList_iff, Array.mem_ofFn] at hv
  obtain ⟨i, rfl⟩ := hv; rfl
theorem arrU_inj {n : Nat} {f g : Nat → BitVec 64} (h : arrU n f = arrU n g) : ∀ i, i < n → f i = g i := by
  intro i hi
  have := congrArg (fun a : Array Value => a[i]?) h
  simp only [arrU_get _ hi, Option.some.injEq, U, Value.int.injEq, true_and] at this
  exact BitVec.eq_of_toNat_eq (by omega)
theorem arrB_inj {n : Nat} {f g : Nat → BitVec 8} (h : arrB n f = arrB n g) : ∀ i, i < n → f i = g i := by
  intro i hi
  have := congrArg (fun a : Array Value => a[i]?) h
  simp only [arrB_get _ hi, Option.some.injEq, B, Value.int.injEq, true_and] at this
  exact BitVec.eq_of_toNat_eq (by omega)
/-- a zero array as the table of types has it -/
theorem zeroU (n : Nat) : Array.replicate n (.int .u64 0) = arrU n fun _ => 0 := by
  apply Array.ext (by simp [arrU, arr])
  intro i h1 h2; simp [arrU, arr, U]
theorem zeroB (n : Nat) : Array.replicate n (.int .u8 0) = arrB n fun _ => 0 := by
  apply Array.ext (by simp [arrB, arr])
  intro i h1 h2; simp [arrB, arr, B]

/-- where a block stands behind a write or a new block -/
theorem get_set_same {H : Array Obj} {b : Nat} {o o' : Obj} (h : H[b]? = some o) : (H.setIfInBounds b o')[b]? = some o' := by
  have := (Array.getElem?_eq_some_iff.1 h).1
  simp [this]
theorem get_set_ne {H : Array Obj} {b k : Nat} {o' : Obj} (h : b ≠ k) : (H.setIfInBounds b o')[k]? = H[k]? := Array.getElem?_setIfInBounds_ne h
theorem get_push_same {H : Array Obj} {o : Obj} : (H.push o)[H.size]? = some o := by simp
theorem get_push_lt {H : Array Obj} {o : Obj} {k : Nat} (h : k < H.size) : (H.push o)[k]? = H[k]? := by rw [Array.getElem?_push, if_neg (by omega)]
theorem lt_of_get {H : Array Obj} {b : Nat} {o : Obj} (h : H[b]? = some o) : b < H.size := (Array.getElem?_eq_some_iff.1 h).1
theorem set_set {H : Array Obj} {b : Nat} {o o' : Obj} : (H.setIfInBounds b o).setIfInBounds b o' = H.setIfInBounds b o' := by simp
end Go.Sx
