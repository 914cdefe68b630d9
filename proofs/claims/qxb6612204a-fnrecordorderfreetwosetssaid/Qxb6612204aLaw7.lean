import Derived.Test.Qxb6612204aTail7
namespace Go.Proofs.Qxb6612204a
open Go.RowKit Plain
set_option linter.unusedVariables false
set_option linter.unusedSimpArgs false

set_option maxRecDepth 10000 in
set_option maxHeartbeats 4000000 in
theorem law7 (node set : ByteArray) (a b : List UInt8) (w : World) (hs : node.size ≤ maxLen) (ht : set.size ≤ maxLen) (ha : a.length = 1024) (hb : b.length = 1024) :
    Calls Try.prog 7 #[.string node, .string set, .agg (bv a), .agg (bv b)] w fun e w' => e = .returned (.bool true) ∧ Below w.heap.size w w' := by
  have hbl0 : Hid (Below w.heap.size w ((w.alloc (.cells (bv a) 22)).alloc (.cells (bv b) 22))) := ((Below.refl _ _).alloc (Nat.le_refl _) _).alloc (by simp) _
  have HNS : Hid (node.size ≤ maxLen) := hs
  have HTS : Hid (set.size ≤ maxLen) := ht
  unfold maxLen at hs ht
  have hs' : (node.size : Int) ≤ 9223372036854775807 := by omega
  have ht' : (set.size : Int) ≤ 9223372036854775807 := by omega
  clear hs ht
  go_enter Try.func7, Try.ntmps7
  go_wp2_with (first
    | (refine wpList_load_seg rfl 22 (.tmp 6) rfl _ _ rfl (bv a) _ ?_ Try.underlying22 rfl ?_ ?_; (exact seg_row (heap_alloc2_old _ _ _)); (rw [Try.info22, bv_size, ha]); simp only [Act.put, List.setIfInBounds_toArray, List.set_cons_succ, List.set_cons_zero])
    | (refine wpList_load_seg rfl 22 (.tmp 7) rfl _ _ rfl (bv b) _ ?_ Try.underlying22 rfl ?_ ?_; (exact seg_row (heap_alloc2_new _ _ _)); (rw [Try.info22, bv_size, hb]); simp only [Act.put, List.setIfInBounds_toArray, List.set_cons_succ, List.set_cons_zero]))
  refine (zzbytes33 node set (bv a) (bv b) _ HNS.out HTS.out).mono ?_
  rintro e w1 ⟨rfl | rfl, hb1⟩
  rotate_left
  · go_wp2
    go_ret
    exact ⟨rfl, hbl0.out.trans (hb1.mono (by simp; omega))⟩
  by_cases g1 : (65536 : Int) < node.size
  · go_wp2
    go_ret
    exact ⟨rfl, hbl0.out.trans (hb1.mono (by simp; omega))⟩
  by_cases g2 : (65536 : Int) < set.size
  · go_wp2
    go_ret
    exact ⟨rfl, hbl0.out.trans (hb1.mono (by simp; omega))⟩
  have HE0 : Hid _ := env_start w w1 a b hb1
  clear hb1 hbl0
  rename_i K2 aK2 K1 aK1 K0 aK0
  have HK2 : Hid (∀ a w, _ → K2 a w) := aK2
  clear aK2
  go_wp2_with fail
  refine HK2.out _ _ ?_
  apply wp_seq_k
  intro K3 aK3
  have HK3 : Hid (∀ a w, _ → K3 a w) := aK3
  clear aK3
  go_wp2_with fail
  refine HK3.out _ _ ?_
  apply wp_seq_k
  intro K5 aK5
  have HK5 : Hid (∀ a w, _ → K5 a w) := aK5
  clear aK5
  go_wp2_with (first | (refine wpList_alloc_row rfl 22 rfl (.agg (bv zeros)) zero22 ?_; rw [cells_agg]; simp only [Act.put, List.setIfInBounds_toArray, List.set_cons_succ, List.set_cons_zero]))
  refine HK5.out _ _ ?_
  apply wp_seq_k
  intro K6 aK6
  have HK6 : Hid (∀ a w, _ → K6 a w) := aK6
  clear aK6
  go_wp2_with fail
  exact HK6.out _ _ (tail7 node set a b w1.heap.size w _ HNS.out HTS.out ha hb HE0.out _ rfl)
end Go.Proofs.Qxb6612204a
