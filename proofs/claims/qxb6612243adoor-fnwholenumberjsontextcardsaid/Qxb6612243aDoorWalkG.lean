import Derived.Test.Qxb6612243aDoorWalkF
namespace Go.Proofs.Qxb6612243aDoor
open Go.RowKit
set_option linter.unusedVariables false

theorem mdl_r10 (L : List UInt8) : mdl L = r10 (isNeg L) (digits L).length (off L + span dig (L.drop (off L))) L.length (sig L) := rfl

set_option maxRecDepth 10000 in
set_option maxHeartbeats 1000000 in
theorem model_any (s : ByteArray) (hs : s.size ≤ 1048576) (w : World) :
    Calls Tryd.prog 5 #[.string s] w fun e w' => e = .returned (.tuple #[.int .i64 (mdl s.data.toList).1, .bool (mdl s.data.toList).2]) ∧ ∃ n, w' = w.drewN n := by
  have T : ∀ (Q : Exit → Act → World → Prop), Post w (mdl s.data.toList) Q → Post w (r10 (isNeg s.data.toList) (digits s.data.toList).length (off s.data.toList + span dig (s.data.toList.drop (off s.data.toList))) s.data.toList.length (sig s.data.toList)) Q := fun Q h => by rw [← mdl_r10]; exact h
  go_enter Tryd.func5, Tryd.ntmps5
  have HT : Hid (Post w (r10 (isNeg s.data.toList) (digits s.data.toList).length (off s.data.toList + span dig (s.data.toList.drop (off s.data.toList))) s.data.toList.length (sig s.data.toList)) _) := T _ rfl
  clear T
  generalize (bodyPost Tryd.prog Tryd.f5 fun e w' => e = .returned (.tuple #[.int .i64 (mdl s.data.toList).1, .bool (mdl s.data.toList).2]) ∧ ∃ n, w' = w.drewN n) = Q at HT ⊢
  apply wp_seq_k; intro K0 aK0
  have HK0 : Hid (∀ a w, _ → K0 a w) := aK0
  clear aK0
  go_wp2_with fail
  refine HK0.out _ _ ?_
  clear HK0 K0
  apply wp_seq_k; intro K0 aK0
  have HK0 : Hid (∀ a w, _ → K0 a w) := aK0
  clear aK0
  go_wp2_with fail
  refine HK0.out _ _ ?_
  clear HK0 K0
  apply wp_seq_k; intro K0 aK0
  have HK0 : Hid (∀ a w, _ → K0 a w) := aK0
  clear aK0
  go_wp2_with fail
  refine HK0.out _ _ ?_
  clear HK0 K0

  by_cases h0 : 0 < s.size
  · have h0' : (0 : Int) < (s.size : Int) := by omega
    have eL : s.data.toList = s[0] :: s.data.toList.drop 1 := by have := drop_cons s 0 h0; simpa using this
    by_cases h1 : (s[0].toNat : Int) = 43
    · have eo : off s.data.toList = 1 := by rw [eL]; unfold off; dsimp only; rw [if_pos (by omega)]
      have en : isNeg s.data.toList = false := by rw [eL]; unfold isNeg; dsimp only; exact decide_eq_false (by omega)
      have hT := HT.out
      unfold sig digits at hT
      rw [eo, en] at hT
      have HT1 : Hid _ := hT
      clear hT HT eo en
      apply wp_seq_k; intro K0 aK0
      have HK0 : Hid (∀ a w, _ → K0 a w) := aK0
      clear aK0
      go_wp2_with fail
      exact HK0.out _ _ (tail4 false s 1 hs (by omega) w _ HT1.out)
    · by_cases h2 : (s[0].toNat : Int) = 45
      · have eo : off s.data.toList = 1 := by rw [eL]; unfold off; dsimp only; rw [if_pos (by omega)]
        have en : isNeg s.data.toList = true := by rw [eL]; unfold isNeg; dsimp only; exact decide_eq_true (by omega)
        have hT := HT.out
        unfold sig digits at hT
        rw [eo, en] at hT
        have HT1 : Hid _ := hT
        clear hT HT eo en
        apply wp_seq_k; intro K0 aK0
        have HK0 : Hid (∀ a w, _ → K0 a w) := aK0
        clear aK0
        go_wp2_with fail
        exact HK0.out _ _ (tail4 true s 1 hs (by omega) w _ HT1.out)
      · have hb1 : ((s[0].toNat : Int) == 43) = false := by rw [beq_eq_false_iff_ne]; exact h1
        have hb2 : ((s[0].toNat : Int) == 45) = false := by rw [beq_eq_false_iff_ne]; exact h2
        have eo : off s.data.toList = 0 := by rw [eL]; unfold off; dsimp only; rw [if_neg (by omega)]
        have en : isNeg s.data.toList = false := by rw [eL]; unfold isNeg; dsimp only; exact decide_eq_false (by omega)
        have hT := HT.out
        unfold sig digits at hT
        rw [eo, en] at hT
        have HT1 : Hid _ := hT
        clear hT HT eo en
        apply wp_seq_k; intro K0 aK0
        have HK0 : Hid (∀ a w, _ → K0 a w) := aK0
        clear aK0
        go_wp2_with fail
        exact HK0.out _ _ (tail4 false s 0 hs (by omega) w _ HT1.out)
  · have h0' : ¬ (0 : Int) < (s.size : Int) := by omega
    have eL : s.data.toList = [] := List.eq_nil_of_length_eq_zero (by rw [len_eq]; omega)
    have eo : off s.data.toList = 0 := by rw [eL]; rfl
    have en : isNeg s.data.toList = false := by rw [eL]; rfl
    have hT := HT.out
    unfold sig digits at hT
    rw [eo, en] at hT
    have HT1 : Hid _ := hT
    clear hT HT eo en
    apply wp_seq_k; intro K0 aK0
    have HK0 : Hid (∀ a w, _ → K0 a w) := aK0
    clear aK0
    go_wp2_with fail
    exact HK0.out _ _ (tail4 false s 0 hs (by omega) w _ HT1.out)
end Go.Proofs.Qxb6612243aDoor
