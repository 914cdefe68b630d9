import Derived.Test.Qxb6612204aLowF
namespace Go.Proofs.Qxb6612204a
open Go.RowKit Plain
set_option linter.unusedVariables false
set_option linter.unusedSimpArgs false

set_option maxRecDepth 10000 in
set_option maxHeartbeats 1000000 in
theorem lowest_any (f0 f1 own : Int) (n : Nat) (hn : n ≤ 2) (w : World) :
    Calls Try.prog 22 #[.agg #[.int .u64 f0, .int .u64 f1], .int .i64 (n : Int), .int .u64 own] w fun e w' => e = .returned (.tuple #[.agg #[.int .u64 ((Rk.zero.merge ⟨f0, f1, n⟩).add own).r0, .int .u64 ((Rk.zero.merge ⟨f0, f1, n⟩).add own).r1], .int .i64 (((Rk.zero.merge ⟨f0, f1, n⟩).add own).n : Int)]) ∧ Below w.heap.size w w' := by
  have h3 := heap3 w (.cells #[.int .u64 f0, .int .u64 f1] 24) (.cells #[.int .u64 0, .int .u64 0] 24) (.cells #[.int .u64 0, .int .u64 0, .int .u64 0] 78)
  have hb : Below w.heap.size w (((w.alloc (.cells #[.int .u64 f0, .int .u64 f1] 24)).alloc (.cells #[.int .u64 0, .int .u64 0] 24)).alloc (.cells #[.int .u64 0, .int .u64 0, .int .u64 0] 78)) := (((Below.refl _ _).alloc (Nat.le_refl _) _).alloc (by simp) _).alloc (by simp; omega) _
  have hL : Lw w (w.heap.size + 1) (w.heap.size + 2) 0 0 0 (((w.alloc (.cells #[.int .u64 f0, .int .u64 f1] 24)).alloc (.cells #[.int .u64 0, .int .u64 0] 24)).alloc (.cells #[.int .u64 0, .int .u64 0, .int .u64 0] 78)) := ⟨h3.2.2, h3.2.1, by omega, by omega, by omega, hb⟩
  have HL : Hid _ := hL
  have HP : Hid _ := h3.1
  clear h3 hb hL
  go_enter Try.func22, Try.ntmps22
  generalize hQe : (bodyPost Try.prog Try.f22 fun e w' => e = .returned (.tuple #[.agg #[.int .u64 ((Rk.zero.merge ⟨f0, f1, n⟩).add own).r0, .int .u64 ((Rk.zero.merge ⟨f0, f1, n⟩).add own).r1], .int .i64 (((Rk.zero.merge ⟨f0, f1, n⟩).add own).n : Int)]) ∧ Below w.heap.size w w') = Q
  have HQ : Hid _ := hQe.symm
  clear hQe
  apply wp_seq_k; intro K0 aK0
  have HK0 : Hid (∀ a w, _ → K0 a w) := aK0
  clear aK0
  go_wp2_with fail
  refine HK0.out _ _ ?_
  clear HK0 K0
  apply wp_seq_k; intro K0 aK0
  have HK0 : Hid (∀ a w, _ → K0 a w) := aK0
  clear aK0
  go_wp2_with fail
  refine HK0.out _ _ ?_
  clear HK0 K0
  apply wp_seq_k; intro K0 aK0
  have HK0 : Hid (∀ a w, _ → K0 a w) := aK0
  clear aK0
  go_wp2_with fail
  refine HK0.out _ _ ?_
  clear HK0 K0
  have hL := HL.out
  have hP := HP.out
  clear HL HP
  generalize ((w.alloc (.cells #[.int .u64 f0, .int .u64 f1] 24)).alloc (.cells #[.int .u64 0, .int .u64 0] 24)).alloc (.cells #[.int .u64 0, .int .u64 0, .int .u64 0] 78) = w1 at hL hP ⊢
  obtain rfl | rfl | rfl : n = 0 ∨ n = 1 ∨ n = 2 := by omega
  · exact low3_0 (w.heap.size + 1) (w.heap.size + 2) w.heap.size f0 f1 own w w1 hL hP (by omega) Q HQ.out
  · exact low3_1 (w.heap.size + 1) (w.heap.size + 2) w.heap.size f0 f1 own w w1 hL hP (by omega) Q HQ.out
  · by_cases hf : f0 = f1
    · exact low3_2a (w.heap.size + 1) (w.heap.size + 2) w.heap.size f0 f1 own w w1 hL hP (by omega) hf Q HQ.out
    · exact low3_2b (w.heap.size + 1) (w.heap.size + 2) w.heap.size f0 f1 own w w1 hL hP (by omega) hf Q HQ.out
end Go.Proofs.Qxb6612204a
