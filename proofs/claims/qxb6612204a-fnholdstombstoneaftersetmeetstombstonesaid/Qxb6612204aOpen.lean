/-
  The arguments of the laws, opened: an array of bytes by value.
-/
import Derived.Test.Qxb6612204aKit
import Derived.ProofKit
import Derived.OpenShut
import Derived.Deep.Slices
namespace Go.Proofs.Qxb6612204a
open Go.RowKit Go.ChangeShapes Go.WideShapes

section
variable {H : Type} {enc : TypeId × Value → H} {P : Program} {w : World} {base : Nat} {spare : Nat → Bool} {held : Bool}

theorem bytes_of_ints (cs : List Value) (n : Nat) (hn : cs.length = n) (h : ∀ i, i < n → ∃ z : Int, cs[i]? = some (.int .u8 z) ∧ 0 ≤ z ∧ z < 256) :
    ∃ l : List UInt8, cs = (bv l).toList ∧ l.length = n := by
  induction cs generalizing n with
  | nil => exact ⟨[], rfl, by simpa using hn⟩
  | cons c cs ih =>
    obtain ⟨m, rfl⟩ : ∃ m, n = m + 1 := ⟨cs.length, by simpa using hn.symm⟩
    obtain ⟨l, hl, hll⟩ := ih m (by simpa using hn) (fun i hi => by simpa using h (i + 1) (by omega))
    obtain ⟨z, hz, h0, h1⟩ := h 0 (by omega)
    refine ⟨z.toNat.toUInt8 :: l, ?_, by simp [hll]⟩
    have hz' : c = .int .u8 z := by simpa using hz
    have e : ((z.toNat.toUInt8).toNat : Int) = z := by
      have : z.toNat < 256 := by omega
      simp [Nat.mod_eq_of_lt this]
      omega
    subst hz'
    rw [hl]
    have ez : Value.int .u8 ((z.toNat.toUInt8).toNat : Int) = Value.int .u8 z := by rw [e]
    show Value.int .u8 z :: (bv l).toList = Value.int .u8 ((z.toNat.toUInt8).toNat : Int) :: (bv l).toList
    rw [ez]

/-- The cells of an array of bytes that can be read. -/
theorem trod_bytes {t e : TypeId} {n fuel : Nat} {cs : List Value} {x : DataW H × List MemPlace} (ht : P.underlying t = some (.array n e)) (he : P.underlying e = some (.int .u8)) (hce : P.cellsOf e = 1) (hct : P.cellsOf t = n)
    (h : DataW.trod enc P w base spare held fuel t cs = some x) : ∃ l : List UInt8, cs = (bv l).toList ∧ l.length = n := by
  obtain ⟨xs, m, _, _, hl, hxl, hx⟩ := DataW.trod_array ht h
  refine bytes_of_ints cs n (hl.trans hct) fun i hi => ?_
  have h1 := hx i hi
  rw [hce, Nat.mul_one, List.getElem?_eq_getElem (by omega)] at h1
  obtain ⟨z, hz, _, hw⟩ := DataW.trod_int he h1
  refine ⟨z, ?_, ?_⟩
  · have hlen : i < cs.length := by omega
    rw [List.drop_eq_getElem_cons hlen] at hz
    simp only [List.take_succ_cons, List.take_zero] at hz
    rw [List.getElem?_eq_getElem hlen]
    injection hz with hz _
    rw [hz]
  · have := bounds_u8 hw
    omega

theorem open_bytes {r : Reach} {b0 : Nat} {t e : TypeId} {n : Nat} {v : Value} {d : DataW H} {p : List MemPlace} (ht : P.underlying t = some (.array n e)) (he : P.underlying e = some (.int .u8)) (hce : P.cellsOf e = 1) (hct : P.cellsOf t = n)
    (hv : Value.okWide P w r b0 t v) (h : DataW.Trod enc P w base spare held t v d p) : ∃ l : List UInt8, v = .agg (bv l) ∧ l.length = n := by
  simp only [Value.okWide, ht] at hv
  obtain ⟨cs, rfl, _⟩ := hv
  obtain ⟨fuel, hf⟩ := h
  obtain ⟨l, hl, hn⟩ := trod_bytes ht he hce hct hf
  refine ⟨l, ?_, hn⟩
  simp only [Value.cells] at hl
  have : cs = bv l := Array.ext' hl
  rw [this]
end
end Go.Proofs.Qxb6612204a
