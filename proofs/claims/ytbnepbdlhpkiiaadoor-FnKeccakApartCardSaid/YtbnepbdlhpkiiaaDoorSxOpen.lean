/- Arguments opened: an array of bytes by value. -/
import Derived.Test.YtbnepbdlhpkiiaaDoorSxFin
import Derived.OpenShut
import Derived.ChangeShapes
import Derived.Test.YtbnepbdlhpkiiaaDoorSxHeap
namespace Go.Sx
section
variable {H : Type} {enc : TypeId × Value → H} {P : Program} {w : World} {base : Nat} {spare : Nat → Bool} {held : Bool}

def byteOfV : Option Value → BitVec 8
  | some (.int _ z) => BitVec.ofInt 8 z
  | _ => 0
theorem byte_back {z : Int} (h : (Lit.int .u8 z).wf = true) : Value.int .u8 z = B (BitVec.ofInt 8 z) := by
  simp [Lit.wf, IntKind.min, IntKind.max, IntKind.signed, IntKind.bits] at h
  simp only [B, BitVec.toNat_ofInt]
  congr 1
  omega

theorem open_arrB {t e : TypeId} {n : Nat} {r : Reach} {b0 : Nat} {v : Value} {d : DataW H} {ps : List MemPlace} (ht : P.underlying t = some (.array n e)) (he : P.underlying e = some (.int .u8)) (hc : P.cellsOf e = 1) (hct : P.cellsOf t = n)
    (hval : Value.okWide P w r b0 t v) (hd : DataW.Trod enc P w base spare held t v d ps) : ∃ x : Nat → BitVec 8, v = .agg (arrB n x) := by
  simp only [Value.okWide, ht] at hval
  obtain ⟨cs, rfl, hsz, _⟩ := hval
  obtain ⟨fuel, hf⟩ := hd
  obtain ⟨xs, m, rfl, _, hl, _, hx⟩ := DataW.trod_array ht hf
  simp only [Value.cells] at hx hl
  refine ⟨fun i => byteOfV cs[i]?, ?_⟩
  congr 1
  apply Array.ext (by rw [arrB_size, hsz, hct])
  intro i h1 h2
  have hi : i < n := by rwa [arrB_size] at h2
  have h3 := hx i hi
  rw [hc, Nat.mul_one] at h3
  have hxs : i < xs.length := by omega
  rw [List.getElem?_eq_getElem hxs] at h3
  obtain ⟨z, hz, _, hw⟩ := DataW.trod_int he h3
  have h4 : cs[i]? = some (.int .u8 z) := by
    have := congrArg (·[0]?) hz
    simpa [List.getElem?_take, List.getElem?_drop] using this
  have h5 := arrB_get (fun i => byteOfV cs[i]?) hi
  rw [Array.getElem?_eq_getElem h1] at h4
  rw [Array.getElem?_eq_getElem h2] at h5
  have h6 := Option.some.inj h5
  rw [h6, Option.some.inj h4]
  simp only [byteOfV, Array.getElem?_eq_getElem h1, Option.some.inj h4]
  exact byte_back hw
end
end Go.Sx
