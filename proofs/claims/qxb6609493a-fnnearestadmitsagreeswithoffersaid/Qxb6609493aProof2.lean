/-
  THE SECOND STATEMENT OF THE SEAT, PROVED: 'Rows.FnNearestAdmitsAgreesWithOfferSaid'. The frame after the guide's shells.
-/
import Derived.Test.Qxb6609493aRows
import Derived.Test.Qxb6609493aWalkE
import Derived.Test.Qxb6609493aOpen
import Derived.ChangeOld
import Derived.Below
namespace Go.Proofs.Qxb6609493a
open Go.ChangeShapes Go.WideShapes Go.ChangeAt Go.RowKit
set_option linter.unusedVariables false

theorem own : ownKnob Try.prog.godebug = none := by kernel_rfl
theorem laidOut : laidOutB Try.prog = true := by kernel_rfl
theorem cells5 : Try.prog.cellsOf 5 = 1 := by kernel_rfl
theorem cells30 : Try.prog.cellsOf 30 = 20 := by kernel_rfl

set_option maxRecDepth 100000 in
theorem lifted2 (os : Os) (started : os.Started) (H : Type) (enc : TypeId × Value → H) :
    ReturnsInHanded {} Try.checked os 5 .any (Rows.fnNearestAdmitsAgreesWithOfferSpec.pre6 enc Try.prog Try.f5 Rows.fnNearestAdmitsAgreesWithOfferRow.domain false) (Rows.fnNearestAdmitsAgreesWithOfferSpec.post enc Try.prog Try.f5 false true false false) := by
  refine returnsInHanded_of_change (C := Try.checked) own started (by kernel_rfl) Try.func5
    (ChangeSpec.witness6 (enc := enc) (C := Try.checked) false ⟨#[], #[.slice none 0 0, .agg (bv (List.replicate 20 0))], []⟩ 8 (by kernel_rfl) (by kernel_rfl) (by kernel_rfl) (by kernel_rfl)) ?_
  intro W base args ds gs before hval0 hW hcnd _
  have hval : ∀ (j : Nat) t v, Try.f5.params[j]? = some t → args[j]? = some v → Value.okWide Try.prog W .any base t v := hval0
  have hW' := hW
  obtain ⟨p, q, hA0, hV, rfl, hfz, hnd⟩ := hW
  have hA : DataW.TrodAll enc Try.prog W 0 (fun _ => true) true Try.f5.params.toList args.toList ds p := hA0
  rw [Try.params5] at hA hval
  obtain ⟨v0, vs0, d0, ds0, p0, q0, hargs, rfl, rfl, h0, r0⟩ := trodAll_cons hA
  obtain ⟨v1, vs1, d1, ds1, p1, q1, rfl, rfl, rfl, h1, r1⟩ := trodAll_cons r0
  obtain ⟨rfl, rfl, rfl⟩ := trodAll_nil r1
  obtain rfl : args = #[v0, v1] := by cases args; simp_all
  obtain ⟨rfl, rfl⟩ := trodVars_none hV
  obtain ⟨a0, len0, cap0, rfl⟩ := okWide_slice Try.underlying29 (hval 0 29 v0 rfl rfl)
  have k0 := h0
  have k1 := h1
  have lt0 : ∀ x ∈ p0, x.block < W.heap.size := by obtain ⟨m, hm⟩ := k0; exact DataW.trod_lt m _ _ _ hm
  have lt1 : ∀ x ∈ p1, x.block < W.heap.size := by obtain ⟨m, hm⟩ := k1; exact DataW.trod_lt m _ _ _ hm
  obtain ⟨l, hl, hlm, h20, hseg⟩ : ∃ l : List (List UInt8), l.length = len0 ∧ len0 ≤ maxLen ∧ (∀ y ∈ l, y.length = 20) ∧
      (0 < len0 → ∃ b off, a0 = some ⟨b, off, none⟩ ∧ b < W.heap.size ∧ ∀ i, i < l.length → Seg W b (off + i * 20) (bv (l.getD i []))) := by
    obtain ⟨fuel, hf⟩ := h0
    exact open_offers Try.underlying29 Try.underlying30 Try.underlying5 cells5 cells30 (by omega) hf
  obtain ⟨x, rfl, hx⟩ := open_bytes Try.underlying30 Try.underlying5 cells5 cells30 (hval 1 30 v1 rfl rfl) h1
  clear hA0 hval0
  have walk : Calls Try.prog 5 #[.slice a0 len0 cap0, .agg (bv x)] W fun e w' => e = .returned (.bool true) ∧ Below W.heap.size W w' := by
    by_cases hp : 0 < len0
    · obtain ⟨b, off, rfl, hb, hs⟩ := hseg hp
      exact law2_walk _ b off len0 cap0 l x W hl (by unfold maxLen at hlm; omega) h20 hx (fun _ => rfl) hs (fun _ => hb)
    · obtain rfl : len0 = 0 := by omega
      exact law2_walk a0 0 0 0 cap0 l x W hl (by omega) h20 hx (fun h => absurd h (Nat.lt_irrefl _)) (fun i hi => by omega) (fun h => by omega)
  refine walk.mono fun e W' ⟨he, bel⟩ => ?_
  subst he
  exact ⟨_, rfl, _, _, _, [], _, [], hW', trodAll_mk1 (shut_bool Try.underlying4 _), (trodAll_cons_mk (Below.trod laidOut (by kernel_rfl) (of_decide_eq_true (by kernel_rfl)) k0 bel lt0) (trodAll_cons_mk (Below.trod laidOut (by kernel_rfl) (of_decide_eq_true (by kernel_rfl)) k1 bel lt1) trodAll_mk0)), rfl, bel.frame _, fun h => by cases h⟩

theorem over2 : Rows.fnNearestAdmitsAgreesWithOfferRow.holds Try.pinned (OpenSpec.ofChange Rows.fnNearestAdmitsAgreesWithOfferSpec) :=
  OpenClaim.holds_of_wide 5 Try.f5 rfl rfl rfl rfl rfl rfl rfl ⟨rfl, rfl, rfl, rfl, rfl⟩ rfl rfl rfl rfl rfl (by kernel_rfl) Try.func5 (by kernel_rfl)
    (of_decide_eq_true (by kernel_rfl)) (by unfold Func.isWrapper; first | (rw [if_pos (by decide +kernel)]; kernel_rfl) | (rw [if_neg (by decide +kernel)]; exact ⟨rfl, rfl⟩))
    (fun os started H enc _ => lifted2 os started H enc)

/-- THE STATEMENT -/
theorem fnNearestAdmitsAgreesWithOffer_proved : Rows.FnNearestAdmitsAgreesWithOfferSaid := over2
end Go.Proofs.Qxb6609493a
