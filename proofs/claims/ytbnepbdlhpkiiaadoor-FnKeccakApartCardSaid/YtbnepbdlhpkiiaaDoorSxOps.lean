/- What plain operations yield (integers, words, bytes, tests, addresses): of no program. Conditions: the operands read as said. -/
import Derived.Test.YtbnepbdlhpkiiaaDoorSxBase
namespace Go.Sx

def I (z : Int) : Value := .int .i64 z
def U (x : BitVec 64) : Value := .int .u64 (x.toNat : Int)
def B (x : BitVec 8) : Value := .int .u8 (x.toNat : Int)
def ptr (b off : Nat) : Value := .pointer (some ⟨b, off, none⟩)

theorem wrap_i64 {z : Int} (h1 : -9223372036854775808 ≤ z) (h2 : z < 9223372036854775808) : IntKind.i64.wrap z = z := by
  simp only [IntKind.wrap, IntKind.bits, IntKind.signed]
  simp
  split <;> omega
theorem wrap_u64_nat (m : Nat) : IntKind.u64.wrap (m : Int) = ((BitVec.ofNat 64 m).toNat : Int) := by
  simp only [IntKind.wrap, IntKind.bits, IntKind.signed]
  simp
theorem wrap_u8_nat (m : Nat) : IntKind.u8.wrap (m : Int) = ((BitVec.ofNat 8 m).toNat : Int) := by
  simp only [IntKind.wrap, IntKind.bits, IntKind.signed]
  simp

section
variable {P : Program} {H : Array Obj} {L : Env} {ty : TypeId}

theorem Yl.move {x : Operand} {v : Value} (hx : evL L x = some v) : Yl P H L (.move x) ty v := by
  intro ρ w dst pos after g ha _; simp [execOp, ha x v hx]
theorem Yl.assign {x : Operand} {v : Value} (hx : evL L x = some v) : Yl P H L (.assign x) ty v := by
  intro ρ w dst pos after g ha _; simp [execOp, ha x v hx]
theorem Yl.pick {c x y : Operand} {b : Bool} {v u : Value} (hc : evL L c = some (.bool b)) (hx : evL L x = some v) (hy : evL L y = some u) :
    Yl P H L (.pick c x y) ty (if b then v else u) := by
  intro ρ w dst pos after g ha _; simp [execOp, ha _ _ hc, ha _ _ hx, ha _ _ hy, asBool]
theorem Yl.pickT {c x y : Operand} {v : Value} (hc : evL L c = some (.bool true)) (hx : evL L x = some v) : Yl P H L (.pick c x y) ty v := by
  intro ρ w dst pos after g ha _; simp [execOp, ha _ _ hc, ha _ _ hx, asBool]
theorem Yl.pickF {c x y : Operand} {v : Value} (hc : evL L c = some (.bool false)) (hy : evL L y = some v) : Yl P H L (.pick c x y) ty v := by
  intro ρ w dst pos after g ha _; simp [execOp, ha _ _ hc, ha _ _ hy, asBool]
theorem Yl.not {x : Operand} {xt : TypeId} {b : Bool} (hx : evL L x = some (.bool b)) : Yl P H L (.unOp .not xt x) ty (.bool (!b)) := by
  intro ρ w dst pos after g ha _; simp [execOp, ha _ _ hx, Op.unary]
theorem Yl.extract {x : Operand} {i : Nat} {vs : Array Value} {v : Value} (hx : evL L x = some (.tuple vs)) (hv : vs[i]? = some v) : Yl P H L (.extract x i) ty v := by
  intro ρ w dst pos after g ha _; simp [execOp, ha _ _ hx, Instr.extract, hv]

/-! ints -/
theorem Yl.addI {x y : Operand} {xt yt : TypeId} {a b : Int} (hx : evL L x = some (I a)) (hy : evL L y = some (I b)) (h1 : -9223372036854775808 ≤ a + b) (h2 : a + b < 9223372036854775808) :
    Yl P H L (.binOp .add xt x y yt) ty (I (a + b)) := by
  intro ρ w dst pos after g ha _
  simp [execOp, ha _ _ hx, ha _ _ hy, I, eqGuard, binOp, Op.intArith, wrap_i64 h1 h2]
theorem Yl.subI {x y : Operand} {xt yt : TypeId} {a b : Int} (hx : evL L x = some (I a)) (hy : evL L y = some (I b)) (h1 : -9223372036854775808 ≤ a - b) (h2 : a - b < 9223372036854775808) :
    Yl P H L (.binOp .sub xt x y yt) ty (I (a - b)) := by
  intro ρ w dst pos after g ha _
  simp [execOp, ha _ _ hx, ha _ _ hy, I, eqGuard, binOp, Op.intArith, wrap_i64 h1 h2]
theorem Yl.mulI {x y : Operand} {xt yt : TypeId} {a b : Int} (hx : evL L x = some (I a)) (hy : evL L y = some (I b)) (h1 : -9223372036854775808 ≤ a * b) (h2 : a * b < 9223372036854775808) :
    Yl P H L (.binOp .mul xt x y yt) ty (I (a * b)) := by
  intro ρ w dst pos after g ha _
  simp [execOp, ha _ _ hx, ha _ _ hy, I, eqGuard, binOp, Op.intArith, wrap_i64 h1 h2]
theorem Yl.quoI {x y : Operand} {xt yt : TypeId} {a b : Int} (hx : evL L x = some (I a)) (hy : evL L y = some (I b)) (h0 : 0 ≤ a) (h1 : a < 9223372036854775808) (h2 : 0 < b) :
    Yl P H L (.binOp .quo xt x y yt) ty (I (a / b)) := by
  intro ρ w dst pos after g ha _
  have h3 : ¬ b = 0 := by omega
  have h4 : a.tdiv b = a / b := Int.tdiv_eq_ediv_of_nonneg h0
  have h5 : 0 ≤ a / b := Int.ediv_nonneg h0 (by omega)
  have h6 : a / b ≤ a := Int.ediv_le_self _ h0
  simp [execOp, ha _ _ hx, ha _ _ hy, I, eqGuard, binOp, Op.intDiv, h3, h4, wrap_i64 (z := a / b) (by omega) (by omega)]
theorem Yl.remI {x y : Operand} {xt yt : TypeId} {a b : Int} (hx : evL L x = some (I a)) (hy : evL L y = some (I b)) (h0 : 0 ≤ a) (h2 : 0 < b) :
    Yl P H L (.binOp .rem xt x y yt) ty (I (a % b)) := by
  intro ρ w dst pos after g ha _
  have h3 : ¬ b = 0 := by omega
  simp [execOp, ha _ _ hx, ha _ _ hy, I, eqGuard, binOp, Op.intDiv, h3, Int.tmod_eq_emod_of_nonneg h0]

/-- bits of small numbers that are not negative -/
theorem bits_i64 (op : Nat → Nat → Nat) (a b : Nat) (h : op a b < 9223372036854775808) : IntKind.i64.wrap ((op a b : Nat) : Int) = (op a b : Nat) := wrap_i64 (by omega) (by omega)
theorem ofInt_toNat (a : Nat) (ha : a < 9223372036854775808) : (BitVec.ofInt 64 (a : Int)).toNat = a := by
  rw [BitVec.ofInt_natCast, BitVec.toNat_ofNat]; omega
theorem intBits_xorI (a b : Nat) (ha : a < 9223372036854775808) (hb : b < 9223372036854775808) (h : a ^^^ b < 9223372036854775808) : Op.intBits .xor .i64 a b = Sem.pure (I ((a ^^^ b : Nat) : Int)) := by
  show Sem.pure (Value.int .i64 (IntKind.i64.wrap ((BitVec.ofInt 64 a ^^^ BitVec.ofInt 64 b : BitVec 64).toNat : Int))) = _
  rw [BitVec.toNat_xor, ofInt_toNat a ha, ofInt_toNat b hb, wrap_i64 (by omega) (by omega)]; rfl
theorem intBits_andI (a b : Nat) (ha : a < 9223372036854775808) (hb : b < 9223372036854775808) : Op.intBits .and .i64 a b = Sem.pure (I ((a &&& b : Nat) : Int)) := by
  have h : a &&& b ≤ a := Nat.and_le_left
  show Sem.pure (Value.int .i64 (IntKind.i64.wrap ((BitVec.ofInt 64 a &&& BitVec.ofInt 64 b : BitVec 64).toNat : Int))) = _
  rw [BitVec.toNat_and, ofInt_toNat a ha, ofInt_toNat b hb, wrap_i64 (by omega) (by omega)]; rfl
theorem Yl.xorI {x y : Operand} {xt yt : TypeId} {a b : Nat} {za zb : Int} (hx : evL L x = some (I za)) (hy : evL L y = some (I zb)) (hza : za = (a : Int)) (hzb : zb = (b : Int)) (ha' : a < 9223372036854775808) (hb' : b < 9223372036854775808)
    (h : a ^^^ b < 9223372036854775808) : Yl P H L (.binOp .xor xt x y yt) ty (I ((a ^^^ b : Nat) : Int)) := by
  intro ρ w dst pos after g ha _
  subst hza; subst hzb
  have h1 := ha _ _ hx; have h2 := ha _ _ hy
  unfold I at h1 h2
  simp only [execOp, h1, h2, eqGuard, binOp, intBits_xorI a b ha' hb' h]
  rfl
theorem Yl.andI {x y : Operand} {xt yt : TypeId} {a b : Nat} {za zb : Int} (hx : evL L x = some (I za)) (hy : evL L y = some (I zb)) (hza : za = (a : Int)) (hzb : zb = (b : Int)) (ha' : a < 9223372036854775808) (hb' : b < 9223372036854775808) :
    Yl P H L (.binOp .and xt x y yt) ty (I ((a &&& b : Nat) : Int)) := by
  intro ρ w dst pos after g ha _
  subst hza; subst hzb
  have h1 := ha _ _ hx; have h2 := ha _ _ hy
  unfold I at h1 h2
  simp only [execOp, h1, h2, eqGuard, binOp, intBits_andI a b ha' hb']
  rfl
/-- twice a number -/
theorem Yl.shl1I {k : IntKind} {x y : Operand} {xt yt : TypeId} {z : Int} (hx : evL L x = some (I z)) (hy : evL L y = some (.int k 1)) (h1 : -4611686018427387904 ≤ z) (h2 : z < 4611686018427387904) :
    Yl P H L (.binOp .shl xt x y yt) ty (I (z * 2)) := by
  intro ρ w dst pos after g ha _
  have e : IntKind.i64.wrap (z * 2) = z * 2 := wrap_i64 (by omega) (by omega)
  simp [execOp, ha _ _ hx, ha _ _ hy, I, eqGuard, binOp, Op.shift, IntKind.bits, e]

/-! comparisons: of whatever integer kind -/
theorem Yl.lss {k : IntKind} {x y : Operand} {xt yt : TypeId} {a b : Int} (hx : evL L x = some (.int k a)) (hy : evL L y = some (.int k b)) :
    Yl P H L (.binOp .lss xt x y yt) ty (.bool (decide (a < b))) := by
  intro ρ w dst pos after g ha _; simp [execOp, ha _ _ hx, ha _ _ hy, eqGuard, binOp, Op.intCmp]
theorem Yl.leq {k : IntKind} {x y : Operand} {xt yt : TypeId} {a b : Int} (hx : evL L x = some (.int k a)) (hy : evL L y = some (.int k b)) :
    Yl P H L (.binOp .leq xt x y yt) ty (.bool (decide (a ≤ b))) := by
  intro ρ w dst pos after g ha _; simp [execOp, ha _ _ hx, ha _ _ hy, eqGuard, binOp, Op.intCmp]
theorem Yl.gtr {k : IntKind} {x y : Operand} {xt yt : TypeId} {a b : Int} (hx : evL L x = some (.int k a)) (hy : evL L y = some (.int k b)) :
    Yl P H L (.binOp .gtr xt x y yt) ty (.bool (decide (a > b))) := by
  intro ρ w dst pos after g ha _; simp [execOp, ha _ _ hx, ha _ _ hy, eqGuard, binOp, Op.intCmp]
theorem Yl.geq {k : IntKind} {x y : Operand} {xt yt : TypeId} {a b : Int} (hx : evL L x = some (.int k a)) (hy : evL L y = some (.int k b)) :
    Yl P H L (.binOp .geq xt x y yt) ty (.bool (decide (a ≥ b))) := by
  intro ρ w dst pos after g ha _; simp [execOp, ha _ _ hx, ha _ _ hy, eqGuard, binOp, Op.intCmp]
theorem Yl.eql {k : IntKind} {x y : Operand} {xt yt : TypeId} {a b : Int} (hx : evL L x = some (.int k a)) (hy : evL L y = some (.int k b)) :
    Yl P H L (.binOp .eql xt x y yt) ty (.bool (decide (a = b))) := by
  intro ρ w dst pos after g ha _
  have : (a == b) = decide (a = b) := by by_cases e : a = b <;> simp [e]
  simp [execOp, ha _ _ hx, ha _ _ hy, eqGuard, binOp, Op.intCmp, this]
theorem Yl.neq {k : IntKind} {x y : Operand} {xt yt : TypeId} {a b : Int} (hx : evL L x = some (.int k a)) (hy : evL L y = some (.int k b)) :
    Yl P H L (.binOp .neq xt x y yt) ty (.bool (decide (a ≠ b))) := by
  intro ρ w dst pos after g ha _
  have : (a != b) = decide (a ≠ b) := by by_cases e : a = b <;> simp [e]
  simp [execOp, ha _ _ hx, ha _ _ hy, eqGuard, binOp, Op.intCmp, this]

/-- A test's outcome, where it is known. -/
theorem Yl.boolT {op : Op} {p : Prop} [Decidable p] (h : Yl P H L op ty (.bool (decide p))) (hp : p) : Yl P H L op ty (.bool true) := by
  rwa [decide_eq_true hp] at h
theorem Yl.boolF {op : Op} {p : Prop} [Decidable p] (h : Yl P H L op ty (.bool (decide p))) (hp : ¬ p) : Yl P H L op ty (.bool false) := by
  rwa [decide_eq_false hp] at h
theorem Yl.as {op : Op} {v v' : Value} (h : Yl P H L op ty v) (e : v = v') : Yl P H L op ty v' := e ▸ h

/-! 64-bit words -/
theorem bv64 (x : BitVec 64) : BitVec.ofInt 64 (x.toNat : Int) = x := by simp
theorem bv8 (x : BitVec 8) : BitVec.ofInt 8 (x.toNat : Int) = x := by simp
theorem back64 (x : BitVec 64) : IntKind.u64.wrap (x.toNat : Int) = (x.toNat : Int) := by rw [wrap_u64_nat]; simp
theorem back8 (x : BitVec 8) : IntKind.u8.wrap (x.toNat : Int) = (x.toNat : Int) := by rw [wrap_u8_nat]; simp
theorem bits_xor (a b : BitVec 64) : Op.intBits .xor .u64 a.toNat b.toNat = Sem.pure (U (a ^^^ b)) := by
  show Sem.pure (Value.int .u64 (IntKind.u64.wrap ((BitVec.ofInt 64 a.toNat ^^^ BitVec.ofInt 64 b.toNat : BitVec 64).toNat : Int))) = _
  rw [bv64, bv64, back64]; rfl
theorem bits_or (a b : BitVec 64) : Op.intBits .or .u64 a.toNat b.toNat = Sem.pure (U (a ||| b)) := by
  show Sem.pure (Value.int .u64 (IntKind.u64.wrap ((BitVec.ofInt 64 a.toNat ||| BitVec.ofInt 64 b.toNat : BitVec 64).toNat : Int))) = _
  rw [bv64, bv64, back64]; rfl
theorem bits_and (a b : BitVec 64) : Op.intBits .and .u64 a.toNat b.toNat = Sem.pure (U (a &&& b)) := by
  show Sem.pure (Value.int .u64 (IntKind.u64.wrap ((BitVec.ofInt 64 a.toNat &&& BitVec.ofInt 64 b.toNat : BitVec 64).toNat : Int))) = _
  rw [bv64, bv64, back64]; rfl
theorem bits_andNot (a b : BitVec 64) : Op.intBits .andNot .u64 a.toNat b.toNat = Sem.pure (U (a &&& ~~~b)) := by
  show Sem.pure (Value.int .u64 (IntKind.u64.wrap ((BitVec.ofInt 64 a.toNat &&& ~~~ BitVec.ofInt 64 b.toNat : BitVec 64).toNat : Int))) = _
  rw [bv64, bv64, back64]; rfl
theorem bits_xor8 (a b : BitVec 8) : Op.intBits .xor .u8 a.toNat b.toNat = Sem.pure (B (a ^^^ b)) := by
  show Sem.pure (Value.int .u8 (IntKind.u8.wrap ((BitVec.ofInt 8 a.toNat ^^^ BitVec.ofInt 8 b.toNat : BitVec 8).toNat : Int))) = _
  rw [bv8, bv8, back8]; rfl
theorem allOnes_xor (a : BitVec 64) : BitVec.allOnes 64 ^^^ a = ~~~ a := by
  ext i h
  simp only [BitVec.getElem_xor, BitVec.getElem_allOnes, BitVec.getElem_not, Bool.true_xor]
theorem bits_not (a : BitVec 64) : Op.intBits .xor .u64 (if IntKind.u64.signed then -1 else IntKind.u64.max) a.toNat = Sem.pure (U (~~~a)) := by
  show Sem.pure (Value.int .u64 (IntKind.u64.wrap ((BitVec.ofInt 64 IntKind.u64.max ^^^ BitVec.ofInt 64 a.toNat : BitVec 64).toNat : Int))) = _
  have : BitVec.ofInt 64 IntKind.u64.max = BitVec.allOnes 64 := by decide
  rw [bv64, this, allOnes_xor, back64]; rfl
theorem Yl.xorU {x y : Operand} {xt yt : TypeId} {a b : BitVec 64} (hx : evL L x = some (U a)) (hy : evL L y = some (U b)) : Yl P H L (.binOp .xor xt x y yt) ty (U (a ^^^ b)) := by
  intro ρ w dst pos after g ha _
  have h1 := ha _ _ hx; have h2 := ha _ _ hy
  unfold U at h1 h2
  simp [execOp, h1, h2, eqGuard, binOp, bits_xor]
theorem Yl.orU {x y : Operand} {xt yt : TypeId} {a b : BitVec 64} (hx : evL L x = some (U a)) (hy : evL L y = some (U b)) : Yl P H L (.binOp .or xt x y yt) ty (U (a ||| b)) := by
  intro ρ w dst pos after g ha _
  have h1 := ha _ _ hx; have h2 := ha _ _ hy
  unfold U at h1 h2
  simp [execOp, h1, h2, eqGuard, binOp, bits_or]
theorem Yl.andU {x y : Operand} {xt yt : TypeId} {a b : BitVec 64} (hx : evL L x = some (U a)) (hy : evL L y = some (U b)) : Yl P H L (.binOp .and xt x y yt) ty (U (a &&& b)) := by
  intro ρ w dst pos after g ha _
  have h1 := ha _ _ hx; have h2 := ha _ _ hy
  unfold U at h1 h2
  simp [execOp, h1, h2, eqGuard, binOp, bits_and]
theorem Yl.andNotU {x y : Operand} {xt yt : TypeId} {a b : BitVec 64} (hx : evL L x = some (U a)) (hy : evL L y = some (U b)) : Yl P H L (.binOp .andNot xt x y yt) ty (U (a &&& ~~~b)) := by
  intro ρ w dst pos after g ha _
  have h1 := ha _ _ hx; have h2 := ha _ _ hy
  unfold U at h1 h2
  simp only [execOp, h1, h2, eqGuard, binOp, bits_andNot]
  rfl
theorem Yl.notU {x : Operand} {xt : TypeId} {a : BitVec 64} (hx : evL L x = some (U a)) : Yl P H L (.unOp .xor xt x) ty (U (~~~ a)) := by
  intro ρ w dst pos after g ha _
  have h1 := ha _ _ hx
  unfold U at h1
  simp only [execOp, h1, Op.unary, bits_not]
  rfl
theorem wrap_shl (a : BitVec 64) (m : Nat) : IntKind.u64.wrap ((a.toNat : Int) * 2 ^ m) = ((a <<< m).toNat : Int) := by
  have : (a.toNat : Int) * 2 ^ m = ((a.toNat * 2 ^ m : Nat) : Int) := by push_cast; rfl
  rw [this, wrap_u64_nat]
  simp [BitVec.toNat_shiftLeft, Nat.shiftLeft_eq]
theorem shl_min (a : BitVec 64) (m : Nat) : a <<< (min m 64) = a <<< m := by
  by_cases h : m ≤ 64
  · rw [Nat.min_eq_left h]
  · rw [Nat.min_eq_right (by omega), BitVec.shiftLeft_eq_zero (Nat.le_refl _), BitVec.shiftLeft_eq_zero (by omega)]
theorem shr_min (a : BitVec 64) (m : Nat) : a >>> (min m 64) = a >>> m := by
  by_cases h : m ≤ 64
  · rw [Nat.min_eq_left h]
  · rw [Nat.min_eq_right (by omega), BitVec.ushiftRight_eq_zero (Nat.le_refl _), BitVec.ushiftRight_eq_zero (by omega)]
theorem fdiv_shr (a : BitVec 64) (m : Nat) : (a.toNat : Int).fdiv (2 ^ m) = ((a >>> m).toNat : Int) := by
  have h2 : (2 : Int) ^ m = ((2 ^ m : Nat) : Int) := by push_cast; rfl
  rw [h2, Int.fdiv_eq_ediv_of_nonneg _ (Int.natCast_nonneg _)]
  simp [BitVec.toNat_ushiftRight, Nat.shiftRight_eq_div_pow]
/-- shifts by whatever count that is not negative, of whatever kind -/
theorem Yl.shlU {k : IntKind} {x y : Operand} {xt yt : TypeId} {a : BitVec 64} {m : Nat} (hx : evL L x = some (U a)) {z : Int} (hy : evL L y = some (.int k z)) (hzi : z = (m : Int)) :
    Yl P H L (.binOp .shl xt x y yt) ty (U (a <<< m)) := by
  intro ρ w dst pos after g ha _
  subst hzi
  have h0 : ¬ (m : Int) < 0 := by omega
  have e : IntKind.u64.wrap ((a.toNat : Int) * 2 ^ (min (m : Int).toNat 64)) = ((a <<< m).toNat : Int) := by
    rw [Int.toNat_natCast, wrap_shl, shl_min]
  simp only [execOp, ha _ _ hx, ha _ _ hy, U, eqGuard, binOp, Op.shift, h0, if_false, IntKind.bits, e]
  simp
theorem Yl.shrU {k : IntKind} {x y : Operand} {xt yt : TypeId} {a : BitVec 64} {m : Nat} (hx : evL L x = some (U a)) {z : Int} (hy : evL L y = some (.int k z)) (hzi : z = (m : Int)) :
    Yl P H L (.binOp .shr xt x y yt) ty (U (a >>> m)) := by
  intro ρ w dst pos after g ha _
  subst hzi
  have h0 : ¬ (m : Int) < 0 := by omega
  have e : (a.toNat : Int).fdiv (2 ^ (min (m : Int).toNat 64)) = ((a >>> m).toNat : Int) := by
    rw [Int.toNat_natCast, fdiv_shr, shr_min]
  simp only [execOp, ha _ _ hx, ha _ _ hy, U, eqGuard, binOp, Op.shift, h0, if_false, IntKind.bits, e]
  simp
theorem Yl.addU {x y : Operand} {xt yt : TypeId} {a b : BitVec 64} (hx : evL L x = some (U a)) (hy : evL L y = some (U b)) : Yl P H L (.binOp .add xt x y yt) ty (U (a + b)) := by
  intro ρ w dst pos after g ha _
  have e : IntKind.u64.wrap ((a.toNat : Int) + (b.toNat : Int)) = ((a + b).toNat : Int) := by
    have : (a.toNat : Int) + (b.toNat : Int) = ((a.toNat + b.toNat : Nat) : Int) := by push_cast; rfl
    rw [this, wrap_u64_nat]; simp
  simp [execOp, ha _ _ hx, ha _ _ hy, U, eqGuard, binOp, Op.intArith, e]
theorem Yl.subU {x y : Operand} {xt yt : TypeId} {a b : BitVec 64} (hx : evL L x = some (U a)) (hy : evL L y = some (U b)) : Yl P H L (.binOp .sub xt x y yt) ty (U (a - b)) := by
  intro ρ w dst pos after g ha _
  have e : IntKind.u64.wrap ((a.toNat : Int) - (b.toNat : Int)) = ((a - b).toNat : Int) := by
    have h1 := a.isLt
    have h2 := b.isLt
    simp only [IntKind.wrap, IntKind.bits, IntKind.signed]
    simp only [BitVec.toNat_sub]
    simp
    omega
  simp [execOp, ha _ _ hx, ha _ _ hy, U, eqGuard, binOp, Op.intArith, e]

/-! bytes -/
theorem Yl.xorB {x y : Operand} {xt yt : TypeId} {a b : BitVec 8} (hx : evL L x = some (B a)) (hy : evL L y = some (B b)) : Yl P H L (.binOp .xor xt x y yt) ty (B (a ^^^ b)) := by
  intro ρ w dst pos after g ha _
  have h1 := ha _ _ hx; have h2 := ha _ _ hy
  unfold B at h1 h2
  simp [execOp, h1, h2, eqGuard, binOp, bits_xor8]

/-! conversions of integers -/
theorem Yl.convBU {s d : TypeId} {x : Operand} {sd : TypeDesc} {a : BitVec 8} (hs : P.underlying s = some sd) (hd : P.underlying d = some (.int .u64)) (hx : evL L x = some (B a)) :
    Yl P H L (.convert s d x) ty (U (a.setWidth 64)) := by
  intro ρ w dst pos after g ha _
  have e : IntKind.u64.wrap (a.toNat : Int) = ((a.setWidth 64).toNat : Int) := by rw [wrap_u64_nat]; simp
  simp [execOp, ha _ _ hx, B, U, convert, underlying, hs, hd, Conv.intToInt, e]
theorem Yl.convUB {s d : TypeId} {x : Operand} {sd : TypeDesc} {a : BitVec 64} (hs : P.underlying s = some sd) (hd : P.underlying d = some (.int .u8)) (hx : evL L x = some (U a)) :
    Yl P H L (.convert s d x) ty (B (a.setWidth 8)) := by
  intro ρ w dst pos after g ha _
  have e : IntKind.u8.wrap (a.toNat : Int) = ((a.setWidth 8).toNat : Int) := by rw [wrap_u8_nat]; simp
  simp [execOp, ha _ _ hx, B, U, convert, underlying, hs, hd, Conv.intToInt, e]
theorem Yl.convIB {s d : TypeId} {x : Operand} {sd : TypeDesc} {m : Nat} (hs : P.underlying s = some sd) (hd : P.underlying d = some (.int .u8)) {z : Int} (hx : evL L x = some (I z)) (hzi : z = (m : Int)) :
    Yl P H L (.convert s d x) ty (B (BitVec.ofNat 8 m)) := by
  intro ρ w dst pos after g ha _
  subst hzi
  have e : IntKind.u8.wrap (m : Int) = ((BitVec.ofNat 8 m).toNat : Int) := wrap_u8_nat m
  simp [execOp, ha _ _ hx, B, I, convert, underlying, hs, hd, Conv.intToInt, e]
theorem Yl.convIU {s d : TypeId} {x : Operand} {sd : TypeDesc} {m : Nat} (hs : P.underlying s = some sd) (hd : P.underlying d = some (.int .u64)) {z : Int} (hx : evL L x = some (I z)) (hzi : z = (m : Int)) :
    Yl P H L (.convert s d x) ty (U (BitVec.ofNat 64 m)) := by
  intro ρ w dst pos after g ha _
  subst hzi
  have e : IntKind.u64.wrap (m : Int) = ((BitVec.ofNat 64 m).toNat : Int) := wrap_u64_nat m
  simp [execOp, ha _ _ hx, U, I, convert, underlying, hs, hd, Conv.intToInt, e]

/-! addresses -/
theorem Yl.nilCheck {x : Operand} {b off : Nat} (hx : evL L x = some (ptr b off)) : Yl P H L (.nilCheck x) ty (ptr b off) := by
  intro ρ w dst pos after g ha _; simp [execOp, ha _ _ hx, ptr]
theorem add_ptr (b off m : Nat) : (⟨b, off, none⟩ : Addr).add m = ⟨b, off + m, none⟩ := by
  unfold Addr.add; split
  · simp [*]
  · rfl
theorem Yl.fieldAddr {s : TypeId} {x : Operand} {i b off : Nat} {fs : Array Field} {f : Field} {inf : TypeInfo} (hs : P.underlying s = some (.struct fs)) (hf : fs[i]? = some f)
    (hi : P.info? f.type = some inf) (hz : Nat.beq inf.size 0 = false) (hx : evL L x = some (ptr b off)) : Yl P H L (.fieldAddr s x i) ty (ptr b (off + f.offset)) := by
  intro ρ w dst pos after g ha _
  have hz' : inf.size ≠ 0 := beq_ne hz
  simp [execOp, ha _ _ hx, ptr, Instr.fieldAt, underlying, hs, hf, Instr.sureAddr, fieldPlace, sizeOf, typeInfo, hi, hz', add_ptr]
/-- the same, the offset told -/
theorem Yl.fieldAddr' {s : TypeId} {x : Operand} {i b off : Nat} (o : Nat) {fs : Array Field} {f : Field} {inf : TypeInfo} (hs : P.underlying s = some (.struct fs)) (hf : fs[i]? = some f)
    (hi : P.info? f.type = some inf) (hz : Nat.beq inf.size 0 = false) (ho : Nat.beq f.offset o = true) (hx : evL L x = some (ptr b off)) : Yl P H L (.fieldAddr s x i) ty (ptr b (off + o)) := by
  have := Nat.eq_of_beq_eq_true ho
  subst this
  exact Yl.fieldAddr hs hf hi hz hx

/-- an element of an array behind a pointer, of one cell -/
theorem Yl.indexArr {t elem : TypeId} {len : Nat} {x y : Operand} {b off i : Nat} {inf : TypeInfo} (ht : P.underlying t = some (.array len elem)) (hi : P.info? elem = some inf) (hz : Nat.beq inf.size 1 = true)
    (hx : evL L x = some (ptr b off)) {z : Int} (hy : evL L y = some (I z)) (hzi : z = (i : Int)) (hlt : i < len) : Yl P H L (.indexAddr t x y) ty (ptr b (off + i)) := by
  intro ρ w dst pos after g ha _
  subst hzi
  have hz' := Nat.eq_of_beq_eq_true hz
  have h2 : (0 : Int) ≤ (i : Int) ∧ (i : Int) < (len : Int) := by omega
  simp [execOp, ha _ _ hx, ha _ _ hy, ptr, I, Instr.indexAt, asIntOf, underlying, ht, Instr.sureAddr, sizeOf, typeInfo, hi, hz', add_ptr, hlt]
/-- an element of a slice, of one cell -/
theorem Yl.indexSl {t elem : TypeId} {len cap : Nat} {x y : Operand} {b off i : Nat} {inf : TypeInfo} (ht : P.underlying t = some (.slice elem)) (hi : P.info? elem = some inf) (hz : Nat.beq inf.size 1 = true)
    (hx : evL L x = some (.slice (some ⟨b, off, none⟩) len cap)) {z : Int} (hy : evL L y = some (I z)) (hzi : z = (i : Int)) (hlt : i < len) : Yl P H L (.indexAddr t x y) ty (ptr b (off + i)) := by
  intro ρ w dst pos after g ha _
  subst hzi
  have hz' := Nat.eq_of_beq_eq_true hz
  simp [execOp, ha _ _ hx, ha _ _ hy, ptr, I, Instr.indexAt, asIntOf, underlying, ht, sizeOf, typeInfo, hi, hz', add_ptr, hlt]
/-- an element of an array by value, of one cell -/
theorem Yl.index {t elem : TypeId} {len : Nat} {x y : Operand} {i : Nat} {inf : TypeInfo} {ed : TypeDesc} {cs : Array Value} {v : Value} (ht : P.underlying t = some (.array len elem)) (he : P.underlying elem = some ed)
    (hed : (match ed with | .struct _ | .array _ _ => false | _ => true) = true) (hi : P.info? elem = some inf) (hz : Nat.beq inf.size 1 = true)
    (hx : evL L x = some (.agg cs)) {z : Int} (hy : evL L y = some (I z)) (hzi : z = (i : Int)) (hlt : i < len) (hv : cs[i]? = some v) : Yl P H L (.index t x y) ty v := by
  intro ρ w dst pos after g ha _
  subst hzi
  have hz' := Nat.eq_of_beq_eq_true hz
  cases ed <;> simp at hed <;> simp [execOp, ha _ _ hx, ha _ _ hy, I, Instr.index, asIntOf, underlying, ht, he, sizeOf, typeInfo, hi, hz', hlt, part, isAgg, hv]

/-! slices -/
theorem Yl.lenSl {x : Operand} {t : TypeId} {elem : TypeId} {a : Option Addr} {len cap : Nat} (ht : P.underlying t = some (.slice elem)) (hx : evL L x = some (.slice a len cap)) :
    Yl P H L (.call ⟨.builtin .len, #[x], #[t]⟩) ty (I len) := by
  intro ρ w dst pos after g ha _
  simp [execOp, resolve, ha _ _ hx, I, invoke, builtin, Builtin.len_, underlying, ht, goInt]
theorem Yl.minI {x y : Operand} {t t' : TypeId} {a b : Int} (hx : evL L x = some (I a)) (hy : evL L y = some (I b)) :
    Yl P H L (.call ⟨.builtin .min, #[x, y], #[t, t']⟩) ty (I (min a b)) := by
  intro ρ w dst pos after g ha _
  have : (if b < a then b else a) = min a b := by split <;> omega
  simp [execOp, resolve, ha _ _ hx, ha _ _ hy, I, invoke, builtin, Builtin.min_, Builtin.min2, this]
theorem Yl.maxI {x y : Operand} {t t' : TypeId} {a b : Int} (hx : evL L x = some (I a)) (hy : evL L y = some (I b)) :
    Yl P H L (.call ⟨.builtin .max, #[x, y], #[t, t']⟩) ty (I (max a b)) := by
  intro ρ w dst pos after g ha _
  have : (if b > a then b else a) = max a b := by split <;> omega
  simp [execOp, resolve, ha _ _ hx, ha _ _ hy, I, invoke, builtin, Builtin.max_, Builtin.max2, this]

end
end Go.Sx
