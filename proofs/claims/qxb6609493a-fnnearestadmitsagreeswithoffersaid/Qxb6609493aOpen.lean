/-
  The arguments of the laws, opened: an array of bytes by value; a slice of arrays of bytes.
-/
import Derived.Test.Qxb6609493aKit
import Derived.ProofKit
import Derived.OpenShut
import Derived.Deep.Slices
namespace Go.Proofs.Qxb6609493a
open Go.RowKit Go.ChangeShapes Go.WideShapes

section
variable {H : Type} {enc : TypeId × Value → H} {P : Program} {w : World} {base : Nat} {spare : Nat → Bool} {held : Bool}

theorem bytes_of_ints (cs : List Value) (n : Nat) (hn : cs.length = n) (h : ∀ i, i < n → ∃ z : Int, cs[i]? = some (.int .u8 z) ∧ 0 ≤ z ∧ z < 256) :
    ∃ l : List UInt8, cs = (bv l).toList ∧ l.length = n := by
  induction cs generalizing n with
  | nil => exact ⟨[], rfl, by simpa using hn⟩
  | cons c cs ih =>
    obtain ⟨m, rfl⟩ : ∃ m, n = m + 1 := ⟨cs.length, by simpa using hn.symm⟩
    obtain ⟨l, hl, hll⟩ := ih m (by simpa using hn) (fun i hi => by simpa using h (i + 1) (by omega))
    obtain ⟨z, hz, h0, h1⟩ := h 0 (by omega)
    refine ⟨z.toNat.toUInt8 :: l, ?_, by simp [hll]⟩
    have hz' : c = .int .u8 z := by simpa using hz
    have e : ((z.toNat.toUInt8).toNat : Int) = z := by
      have : z.toNat < 256 := by omega
      simp [Nat.mod_eq_of_lt this]
      omega
    subst hz'
    rw [hl]
    have ez : Value.int .u8 ((z.toNat.toUInt8).toNat : Int) = Value.int .u8 z := by rw [e]
    show Value.int .u8 z :: (bv l).toList = Value.int .u8 ((z.toNat.toUInt8).toNat : Int) :: (bv l).toList
    rw [ez]

/-- The cells of an array of bytes that can be read. -/
theorem trod_bytes {t e : TypeId} {n fuel : Nat} {cs : List Value} {x : DataW H × List MemPlace} (ht : P.underlying t = some (.array n e)) (he : P.underlying e = some (.int .u8)) (hce : P.cellsOf e = 1) (hct : P.cellsOf t = n)
    (h : DataW.trod enc P w base spare held fuel t cs = some x) : ∃ l : List UInt8, cs = (bv l).toList ∧ l.length = n := by
  obtain ⟨xs, m, _, _, hl, hxl, hx⟩ := DataW.trod_array ht h
  refine bytes_of_ints cs n (hl.trans hct) fun i hi => ?_
  have h1 := hx i hi
  rw [hce, Nat.mul_one, List.getElem?_eq_getElem (by omega)] at h1
  obtain ⟨z, hz, _, hw⟩ := DataW.trod_int he h1
  refine ⟨z, ?_, ?_⟩
  · have hlen : i < cs.length := by omega
    rw [List.drop_eq_getElem_cons hlen] at hz
    simp only [List.take_succ_cons, List.take_zero] at hz
    rw [List.getElem?_eq_getElem hlen]
    injection hz with hz _
    rw [hz]
  · have := bounds_u8 hw
    omega

theorem open_bytes {r : Reach} {b0 : Nat} {t e : TypeId} {n : Nat} {v : Value} {d : DataW H} {p : List MemPlace} (ht : P.underlying t = some (.array n e)) (he : P.underlying e = some (.int .u8)) (hce : P.cellsOf e = 1) (hct : P.cellsOf t = n)
    (hv : Value.okWide P w r b0 t v) (h : DataW.Trod enc P w base spare held t v d p) : ∃ l : List UInt8, v = .agg (bv l) ∧ l.length = n := by
  simp only [Value.okWide, ht] at hv
  obtain ⟨cs, rfl, _⟩ := hv
  obtain ⟨fuel, hf⟩ := h
  obtain ⟨l, hl, hn⟩ := trod_bytes ht he hce hct hf
  refine ⟨l, ?_, hn⟩
  simp only [Value.cells] at hl
  have : cs = bv l := Array.ext' hl
  rw [this]

theorem open_offers {t e1 e : TypeId} {n fuel : Nat} {a : Option Addr} {len cap : Nat} {x : DataW H × List MemPlace} (ht : P.underlying t = some (.slice e1)) (h1 : P.underlying e1 = some (.array n e)) (he : P.underlying e = some (.int .u8)) (hce : P.cellsOf e = 1) (hct : P.cellsOf e1 = n)
    (hpos : 0 < n) (h : DataW.trod enc P w base (fun _ => true) held fuel t [.slice a len cap] = some x) :
    ∃ l : List (List UInt8), l.length = len ∧ len ≤ maxLen ∧ (∀ y ∈ l, y.length = n) ∧
      (0 < len → ∃ b off, a = some ⟨b, off, none⟩ ∧ b < w.heap.size ∧ ∀ i, i < l.length → Seg w b (off + i * n) (bv (l.getD i []))) := by
  rcases Deep.open_slice ht h with ⟨hcs, _⟩ | ⟨ad, len', cap', m, k, D, Pl, hcs, _, hl, hm, hmm, _, hx⟩
  · simp only [List.cons.injEq, Value.slice.injEq, and_true] at hcs
    obtain ⟨rfl, rfl, rfl⟩ := hcs
    exact ⟨[], rfl, by unfold maxLen; omega, by simp, fun h => absurd h (Nat.lt_irrefl _)⟩
  · simp only [List.cons.injEq, Value.slice.injEq, and_true] at hcs
    obtain ⟨rfl, rfl, rfl⟩ := hcs
    simp only [if_true] at hmm
    subst hmm
    obtain ⟨f, hf⟩ := Deep.choose_lt (α := List UInt8) (p := fun i l => l.length = n ∧ w.cells? base (ad.add (i * n)) n = some (bv l).toList) (n := m) (fun i hi => by
      obtain ⟨cs', hc1, hc2⟩ := hx i hi
      obtain ⟨l, hl1, hl2⟩ := trod_bytes h1 he hce hct hc2
      rw [hct] at hc1
      exact ⟨l, hl2, by rw [hc1, hl1]⟩)
    refine ⟨(List.range len).map f, by simp, by omega, ?_, ?_⟩
    · intro y hy
      obtain ⟨i, hi, rfl⟩ := List.mem_map.1 hy
      exact (hf i (by have := List.mem_range.1 hi; omega)).1
    · intro hpl
      obtain ⟨b, off, spot⟩ := ad
      have h0 := hf 0 (by omega)
      obtain ⟨_, _, hc0⟩ := World.cells?_some h0.2
      have hc00 := hc0 0 hpos
      rw [Array.getElem?_toList, bv_get (f 0) 0 (by omega)] at hc00
      have hspot : spot = none := by simpa [Addr.add] using World.cell?_spot hc00
      subst hspot
      refine ⟨b, off, rfl, ?_, ?_⟩
      · have := World.block_lt_of_cell? w _ hc00
        simpa [Addr.add] using this
      · intro i hi
        have hi' : i < len := by simpa using hi
        obtain ⟨hl2, hc⟩ := hf i (by omega)
        obtain ⟨_, _, hcc⟩ := World.cells?_some hc
        have e : ((List.range len).map f).getD i [] = f i := by simp [List.getD, hi']
        rw [e]
        intro j hj
        have := hcc j (by rw [bv_size] at hj; omega)
        rw [add_at, add_at] at this
        rw [this]
        simp
end
end Go.Proofs.Qxb6609493a
