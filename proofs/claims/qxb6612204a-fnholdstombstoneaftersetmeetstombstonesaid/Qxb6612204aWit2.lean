/-
  That an input of this shape is there, for the second statement.
-/
import Derived.Test.Qxb6612204aWit
namespace Go.Proofs.Qxb6612204a
open Go.ChangeShapes Go.WideShapes Go.ChangeAt Go.RowKit

section
variable {H : Type} {enc : TypeId × Value → H} {P : Program} {w : World} {base : Nat} {spare : Nat → Bool} {held : Bool}
/-- An array of two uint64, by value. -/
theorem open_two {r : Reach} {b0 : Nat} {t e : TypeId} {v : Value} {d : DataW H} {p : List MemPlace} (ht : P.underlying t = some (.array 2 e)) (he : P.underlying e = some (.int .u64)) (hce : P.cellsOf e = 1) (hct : P.cellsOf t = 2)
    (hv : Value.okWide P w r b0 t v) (h : DataW.Trod enc P w base spare held t v d p) : ∃ a b : Int, v = .agg #[.int .u64 a, .int .u64 b] := by
  simp only [Value.okWide, ht] at hv
  obtain ⟨cs, rfl, _⟩ := hv
  obtain ⟨fuel, hf⟩ := h
  obtain ⟨xs, m, _, _, hl, hxl, hx⟩ := DataW.trod_array ht hf
  simp only [Value.cells] at hl hx
  have hl2 : cs.toList.length = 2 := hl.trans hct
  obtain ⟨l⟩ := cs
  match l, hl2, hx with
  | [c0, c1], _, hx =>
    have h0 := hx 0 (by omega)
    have h1 := hx 1 (by omega)
    rw [hce, List.getElem?_eq_getElem (by omega)] at h0 h1
    obtain ⟨a, ha, _, _⟩ := DataW.trod_int he h0
    obtain ⟨b, hb, _, _⟩ := DataW.trod_int he h1
    refine ⟨a, b, ?_⟩
    have e0 : c0 = .int .u64 a := by simpa using ha
    have e1 : c1 = .int .u64 b := by simpa using hb
    rw [e0, e1]
end

/-- the input: two empty texts, three arrays of zeros, no ranks -/
noncomputable def inp5 : Input := ⟨#[], #[.string ByteArray.empty, .string ByteArray.empty, .agg (bv Plain.zeros), .agg (bv Plain.zeros), .agg (bv Plain.zeros), .agg #[.int .u64 0, .int .u64 0], .int .i64 0, .int .u64 0], []⟩

theorem ok5 (w : World) (base : Nat) : Input.okWide Try.prog w .any base 5 ⟨#[], inp5.args, []⟩ := by
  refine ⟨fun o ho => by simp at ho, fun gv hgv => by simp at hgv, by kernel_rfl, Try.f5, Try.func5, by kernel_rfl, by kernel_rfl, by kernel_rfl, by kernel_rfl, ?_⟩
  intro j t v hj hv
  rw [Try.params5] at hj
  match j, hj, hv with
  | 0, hj, hv =>
    obtain rfl : 9 = t := Option.some.inj hj
    obtain rfl : Value.string ByteArray.empty = v := Option.some.inj hv
    exact Value.okWide_of_okWideB (by kernel_rfl)
  | 1, hj, hv =>
    obtain rfl : 9 = t := Option.some.inj hj
    obtain rfl : Value.string ByteArray.empty = v := Option.some.inj hv
    exact Value.okWide_of_okWideB (by kernel_rfl)
  | 2, hj, hv =>
    obtain rfl : 22 = t := Option.some.inj hj
    obtain rfl : Value.agg (bv Plain.zeros) = v := Option.some.inj hv
    exact row22 w base _ rfl
  | 3, hj, hv =>
    obtain rfl : 22 = t := Option.some.inj hj
    obtain rfl : Value.agg (bv Plain.zeros) = v := Option.some.inj hv
    exact row22 w base _ rfl
  | 4, hj, hv =>
    obtain rfl : 22 = t := Option.some.inj hj
    obtain rfl : Value.agg (bv Plain.zeros) = v := Option.some.inj hv
    exact row22 w base _ rfl
  | 5, hj, hv =>
    obtain rfl : 24 = t := Option.some.inj hj
    obtain rfl : Value.agg #[.int .u64 0, .int .u64 0] = v := Option.some.inj hv
    exact Value.okWide_of_okWideB (by kernel_rfl)
  | 6, hj, hv =>
    obtain rfl : 3 = t := Option.some.inj hj
    obtain rfl : Value.int .i64 0 = v := Option.some.inj hv
    exact Value.okWide_of_okWideB (by kernel_rfl)
  | 7, hj, hv =>
    obtain rfl : 23 = t := Option.some.inj hj
    obtain rfl : Value.int .u64 0 = v := Option.some.inj hv
    exact Value.okWide_of_okWideB (by kernel_rfl)
  | n + 8, hj, hv => simp at hj

set_option maxRecDepth 100000 in
theorem wit5 (os : Os) (H : Type) (enc : TypeId × Value → H) :
    ∃ (w : World) (tape : Tape) (i : Input), w.os = os ∧ (w.forCall tape i).Shaped Try.checked.prog ∧ i.vars = [] ∧ Input.okWide Try.checked.prog (w.forCall tape i) .any w.heap.size 5 i ∧
      Rows.fnHoldsTombstoneAfterSetMeetsTombstoneSpec.pre6 enc Try.checked.prog Try.f5 Rows.fnHoldsTombstoneAfterSetMeetsTombstoneRow.domain false (w.forCall tape i).memory i.args ∧ ({ modest := false } : Assume).holds Try.checked.prog (lone (Frame.enter Try.checked.prog 5 i.args .normal) [] (w.forCall tape i)) :=
  ⟨World.holding Try.prog os inp5, fun _ _ => 0, ⟨#[], inp5.args, []⟩, rfl, World.shaped_of_B (by kernel_rfl) (by kernel_rfl), rfl, ok5 _ _,
    ⟨ChangeSpec.pre_of_preB (fuel := 8) (by kernel_rfl), sizedMet_of_sizedB (fuel := 8) (by kernel_rfl)⟩, by
    simp only [Assume.holds]
    exact ⟨by simp, by simp, fun _ => Modest.zero, by simp, by simp⟩⟩
end Go.Proofs.Qxb6612204a
