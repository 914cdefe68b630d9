/-
  That an input of this shape is there: the kit's witness, with 'okWide' shown by hand for the long arrays.
-/
import Derived.Test.Qxb6612204aRows
import Derived.Test.Qxb6612204aOpen
import Derived.ChangeOld
import Derived.Test.Qxb6612204aRegs
namespace Go.Proofs.Qxb6612204a
open Go.ChangeShapes Go.WideShapes Go.ChangeAt Go.RowKit

theorem types22 : Try.prog.cellTypes Try.prog.depth 22 = some (List.replicate 1024 5) := by kernel_rfl
theorem cellsOf22 : Try.prog.cellsOf 22 = 1024 := by kernel_rfl
theorem cell5 (w : World) (base : Nat) : Cell.okWide Try.prog w .any base 5 (.int .u8 0) := by
  have h : Value.okWide Try.prog w .any base 5 (.int .u8 0) := Value.okWide_of_okWideB (by kernel_rfl)
  simpa only [Value.okWide, Try.underlying5] using h
theorem row22 (w : World) (base : Nat) (l : List UInt8) (hl : l = Plain.zeros) : Value.okWide Try.prog w .any base 22 (.agg (bv l)) := by
  simp only [Value.okWide, Try.underlying22]
  have hlen : l.length = 1024 := by rw [hl, Plain.zeros_len]
  refine ⟨bv l, rfl, by rw [bv_size, hlen, cellsOf22], List.replicate 1024 5, types22, ⟨1, by rw [bv_size, hlen, List.length_replicate]⟩, ?_⟩
  intro i v hv
  have hi : i < 1024 := by
    have := (Array.getElem?_eq_some_iff.1 hv).1
    rw [bv_size, hlen] at this
    exact this
  have e : v = .int .u8 0 := by
    rw [bv_get l i (by omega)] at hv
    have : l.getD i 0 = 0 := by rw [hl, Plain.zeros_get]
    rw [this] at hv
    exact (Option.some.inj hv).symm
  refine ⟨5, ?_, e ▸ cell5 w base⟩
  rw [List.length_replicate, Nat.mod_eq_of_lt hi, List.getElem?_replicate, if_pos hi]

/-- the input: two empty texts, two arrays of zeros -/
noncomputable def inp7 : Input := ⟨#[], #[.string ByteArray.empty, .string ByteArray.empty, .agg (bv Plain.zeros), .agg (bv Plain.zeros)], []⟩

theorem ok7 (w : World) (base : Nat) : Input.okWide Try.prog w .any base 7 ⟨#[], inp7.args, []⟩ := by
  refine ⟨fun o ho => by simp at ho, fun gv hgv => by simp at hgv, by kernel_rfl, Try.f7, Try.func7, by kernel_rfl, by kernel_rfl, by kernel_rfl, by kernel_rfl, ?_⟩
  intro j t v hj hv
  rw [Try.params7] at hj
  match j, hj, hv with
  | 0, hj, hv =>
    obtain rfl : 9 = t := Option.some.inj hj
    obtain rfl : Value.string ByteArray.empty = v := Option.some.inj hv
    exact Value.okWide_of_okWideB (by kernel_rfl)
  | 1, hj, hv =>
    obtain rfl : 9 = t := Option.some.inj hj
    obtain rfl : Value.string ByteArray.empty = v := Option.some.inj hv
    exact Value.okWide_of_okWideB (by kernel_rfl)
  | 2, hj, hv =>
    obtain rfl : 22 = t := Option.some.inj hj
    obtain rfl : Value.agg (bv Plain.zeros) = v := Option.some.inj hv
    exact row22 w base _ rfl
  | 3, hj, hv =>
    obtain rfl : 22 = t := Option.some.inj hj
    obtain rfl : Value.agg (bv Plain.zeros) = v := Option.some.inj hv
    exact row22 w base _ rfl
  | n + 4, hj, hv => simp at hj

set_option maxRecDepth 100000 in
theorem wit7 (os : Os) (H : Type) (enc : TypeId × Value → H) :
    ∃ (w : World) (tape : Tape) (i : Input), w.os = os ∧ (w.forCall tape i).Shaped Try.checked.prog ∧ i.vars = [] ∧ Input.okWide Try.checked.prog (w.forCall tape i) .any w.heap.size 7 i ∧
      Rows.fnRecordOrderFreeTwoSetsSpec.pre6 enc Try.checked.prog Try.f7 Rows.fnRecordOrderFreeTwoSetsRow.domain false (w.forCall tape i).memory i.args ∧ ({ modest := false } : Assume).holds Try.checked.prog (lone (Frame.enter Try.checked.prog 7 i.args .normal) [] (w.forCall tape i)) :=
  ⟨World.holding Try.prog os inp7, fun _ _ => 0, ⟨#[], inp7.args, []⟩, rfl, World.shaped_of_B (by kernel_rfl) (by kernel_rfl), rfl, ok7 _ _,
    ⟨ChangeSpec.pre_of_preB (fuel := 8) (by kernel_rfl), sizedMet_of_sizedB (fuel := 8) (by kernel_rfl)⟩, by
    simp only [Assume.holds]
    exact ⟨by simp, by simp, fun _ => Modest.zero, by simp, by simp⟩⟩
end Go.Proofs.Qxb6612204a
