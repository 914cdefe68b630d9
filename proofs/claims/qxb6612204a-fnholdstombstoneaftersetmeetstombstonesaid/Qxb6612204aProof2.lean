/-
  'Rows.FnHoldsTombstoneAfterSetMeetsTombstoneSaid'. The frame after the guide's shells.
-/
import Derived.Test.Qxb6612204aRows
import Derived.Test.Qxb6612204aFvK
import Derived.Test.Qxb6612204aOpen
import Derived.Test.Qxb6612204aWit2
import Derived.ChangeOld
import Derived.Below
import Derived.ShutString
namespace Go.Proofs.Qxb6612204a
open Go.ChangeShapes Go.WideShapes Go.ChangeAt Go.RowKit
open Go.ChangeMaps (open_string shut_string)
set_option linter.unusedVariables false

theorem own2 : ownKnob Try.prog.godebug = none := by kernel_rfl
theorem laidOut2 : laidOutB Try.prog = true := by kernel_rfl
theorem cells5b : Try.prog.cellsOf 5 = 1 := by kernel_rfl
theorem cells22b : Try.prog.cellsOf 22 = 1024 := by kernel_rfl
theorem cells23b : Try.prog.cellsOf 23 = 1 := by kernel_rfl
theorem cells24b : Try.prog.cellsOf 24 = 2 := by kernel_rfl

set_option maxRecDepth 100000 in
theorem lifted2 (os : Os) (started : os.Started) (H : Type) (enc : TypeId × Value → H) :
    ReturnsInHanded {} Try.checked os 5 .any (Rows.fnHoldsTombstoneAfterSetMeetsTombstoneSpec.pre6 enc Try.prog Try.f5 Rows.fnHoldsTombstoneAfterSetMeetsTombstoneRow.domain false) (Rows.fnHoldsTombstoneAfterSetMeetsTombstoneSpec.post enc Try.prog Try.f5 false true false false) := by
  refine returnsInHanded_of_change (C := Try.checked) own2 started (by kernel_rfl) Try.func5
    (wit5 os H enc) ?_
  intro W base args ds gs before hval0 hW hcnd _
  have hval : ∀ (j : Nat) t v, Try.f5.params[j]? = some t → args[j]? = some v → Value.okWide Try.prog W .any base t v := hval0
  have hW' := hW
  obtain ⟨p, q, hA0, hV, rfl, hfz, hnd⟩ := hW
  have hA : DataW.TrodAll enc Try.prog W 0 (fun _ => true) true Try.f5.params.toList args.toList ds p := hA0
  rw [Try.params5] at hA hval
  obtain ⟨v0, vs0, d0, ds0, p0, q0, hargs, rfl, rfl, h0, r0⟩ := trodAll_cons hA
  obtain ⟨v1, vs1, d1, ds1, p1, q1, rfl, rfl, rfl, h1, r1⟩ := trodAll_cons r0
  obtain ⟨v2, vs2, d2, ds2, p2, q2, rfl, rfl, rfl, h2, r2⟩ := trodAll_cons r1
  obtain ⟨v3, vs3, d3, ds3, p3, q3, rfl, rfl, rfl, h3, r3⟩ := trodAll_cons r2
  obtain ⟨v4, vs4, d4, ds4, p4, q4, rfl, rfl, rfl, h4, r4⟩ := trodAll_cons r3
  obtain ⟨v5, vs5, d5, ds5, p5, q5, rfl, rfl, rfl, h5, r5⟩ := trodAll_cons r4
  obtain ⟨v6, vs6, d6, ds6, p6, q6, rfl, rfl, rfl, h6, r6⟩ := trodAll_cons r5
  obtain ⟨v7, vs7, d7, ds7, p7, q7, rfl, rfl, rfl, h7, r7⟩ := trodAll_cons r6
  obtain ⟨rfl, rfl, rfl⟩ := trodAll_nil r7
  obtain rfl : args = #[v0, v1, v2, v3, v4, v5, v6, v7] := by cases args; simp_all
  obtain ⟨rfl, rfl⟩ := trodVars_none hV
  have k2 := h2
  have k3 := h3
  have k4 := h4
  have k5 := h5
  have lt2 : ∀ x ∈ p2, x.block < W.heap.size := by obtain ⟨m, hm⟩ := k2; exact DataW.trod_lt m _ _ _ hm
  have lt3 : ∀ x ∈ p3, x.block < W.heap.size := by obtain ⟨m, hm⟩ := k3; exact DataW.trod_lt m _ _ _ hm
  have lt4 : ∀ x ∈ p4, x.block < W.heap.size := by obtain ⟨m, hm⟩ := k4; exact DataW.trod_lt m _ _ _ hm
  have lt5 : ∀ x ∈ p5, x.block < W.heap.size := by obtain ⟨m, hm⟩ := k5; exact DataW.trod_lt m _ _ _ hm
  obtain ⟨s0, rfl, rfl, rfl, w0⟩ := open_string Try.underlying9 (hval 0 9 v0 rfl rfl) h0
  obtain ⟨s1, rfl, rfl, rfl, w1⟩ := open_string Try.underlying9 (hval 1 9 v1 rfl rfl) h1
  obtain ⟨x2, rfl, hx2⟩ := open_bytes Try.underlying22 Try.underlying5 cells5b cells22b (hval 2 22 v2 rfl rfl) h2
  obtain ⟨x3, rfl, hx3⟩ := open_bytes Try.underlying22 Try.underlying5 cells5b cells22b (hval 3 22 v3 rfl rfl) h3
  obtain ⟨x4, rfl, hx4⟩ := open_bytes Try.underlying22 Try.underlying5 cells5b cells22b (hval 4 22 v4 rfl rfl) h4
  obtain ⟨a, b, rfl⟩ := open_two Try.underlying24 Try.underlying23 cells23b cells24b (hval 5 24 v5 rfl rfl) h5
  obtain ⟨n6, rfl, rfl, rfl, w6⟩ := open_int Try.underlying3 (hval 6 3 v6 rfl rfl) h6
  obtain ⟨n7, rfl, rfl, rfl, w7⟩ := open_int Try.underlying23 (hval 7 23 v7 rfl rfl) h7
  clear hA0 hval0
  have bd := bounds_u64 w7
  refine (law5 s0 s1 x2 x3 x4 a b n6 n7 W hx2 hx3 hx4 w0 w1 bd.1 bd.2).mono fun e W' ⟨he, bel⟩ => ?_
  subst he
  exact ⟨_, rfl, _, _, _, [], _, [], hW', trodAll_mk1 (shut_bool Try.underlying4 _), (trodAll_cons_mk (shut_string Try.underlying9 w0) (trodAll_cons_mk (shut_string Try.underlying9 w1) (trodAll_cons_mk (Below.trod laidOut2 (by kernel_rfl) (of_decide_eq_true (by kernel_rfl)) k2 bel lt2) (trodAll_cons_mk (Below.trod laidOut2 (by kernel_rfl) (of_decide_eq_true (by kernel_rfl)) k3 bel lt3) (trodAll_cons_mk (Below.trod laidOut2 (by kernel_rfl) (of_decide_eq_true (by kernel_rfl)) k4 bel lt4) (trodAll_cons_mk (Below.trod laidOut2 (by kernel_rfl) (of_decide_eq_true (by kernel_rfl)) k5 bel lt5) (trodAll_cons_mk (shut_int Try.underlying3 w6) (trodAll_cons_mk (shut_int Try.underlying23 w7) trodAll_mk0)))))))), rfl, bel.frame _, fun h => by cases h⟩

theorem over2 : Rows.fnHoldsTombstoneAfterSetMeetsTombstoneRow.holds Try.pinned (OpenSpec.ofChange Rows.fnHoldsTombstoneAfterSetMeetsTombstoneSpec) :=
  OpenClaim.holds_of_wide 5 Try.f5 rfl rfl rfl rfl rfl rfl rfl ⟨rfl, rfl, rfl, rfl, rfl⟩ rfl rfl rfl rfl rfl (by kernel_rfl) Try.func5 (by kernel_rfl)
    (of_decide_eq_true (by kernel_rfl)) (by unfold Func.isWrapper; first | (rw [if_pos (by decide +kernel)]; kernel_rfl) | (rw [if_neg (by decide +kernel)]; exact ⟨rfl, rfl⟩))
    (fun os started H enc _ => lifted2 os started H enc)

/-- THE STATEMENT -/
theorem fnHoldsTombstoneAfterSetMeetsTombstone_proved : Rows.FnHoldsTombstoneAfterSetMeetsTombstoneSaid := over2
end Go.Proofs.Qxb6612204a
