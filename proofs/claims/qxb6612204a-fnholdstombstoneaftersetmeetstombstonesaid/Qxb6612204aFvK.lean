import Derived.Test.Qxb6612204aFvJ
namespace Go.Proofs.Qxb6612204a
open Go.RowKit Plain
set_option linter.unusedVariables false
set_option linter.unusedSimpArgs false

set_option maxRecDepth 10000 in
set_option maxHeartbeats 1000000 in
theorem law5 (node set : ByteArray) (rec T R : List UInt8) (f0 f1 n E : Int) (w : World) (hrec : rec.length = 1024) (hT : T.length = 1024) (hR : R.length = 1024) (hs : node.size ≤ maxLen) (ht : set.size ≤ maxLen) (hE0 : 0 ≤ E) (hE1 : E ≤ 18446744073709551615) :
    Calls Try.prog 5 #[.string node, .string set, .agg (bv rec), .agg (bv T), .agg (bv R), .agg #[.int .u64 f0, .int .u64 f1], .int .i64 n, .int .u64 E] w fun e w' => e = .returned (.bool true) ∧ Below w.heap.size w w' := by
  have H4 : Hid _ := heap4 w (.cells (bv rec) 22) (.cells (bv T) 22) (.cells (bv R) 22) (.cells #[.int .u64 f0, .int .u64 f1] 24)
  have HB : Hid (Below w.heap.size w ((((w.alloc (.cells (bv rec) 22)).alloc (.cells (bv T) 22)).alloc (.cells (bv R) 22)).alloc (.cells #[.int .u64 f0, .int .u64 f1] 24))) := ((((Below.refl _ _).alloc (Nat.le_refl _) _).alloc (by simp) _).alloc (by simp; omega) _).alloc (by simp; omega) _
  go_enter Try.func5, Try.ntmps5
  generalize hQe : (bodyPost Try.prog Try.f5 fun e w' => e = .returned (.bool true) ∧ Below w.heap.size w w') = Q
  have HQ : Hid _ := hQe.symm
  clear hQe
  apply wp_seq_k; intro K0 aK0
  have HK0 : Hid (∀ a w, _ → K0 a w) := aK0
  clear aK0
  go_wp2_with fail
  refine HK0.out _ _ ?_
  clear HK0 K0
  have h4 := H4.out
  have hb := HB.out
  clear H4 HB
  generalize (((w.alloc (.cells (bv rec) 22)).alloc (.cells (bv T) 22)).alloc (.cells (bv R) 22)).alloc (.cells #[.int .u64 f0, .int .u64 f1] 24) = w1 at h4 hb ⊢
  have H4 : Hid _ := h4
  have HB : Hid _ := hb
  have HSA : Hid _ := seg_row h4.1
  have HSB : Hid _ := seg_row h4.2.1
  have HSC : Hid _ := seg_row h4.2.2.1
  have HSD : Hid _ := seg_row h4.2.2.2
  have hsz : w.heap.size + 3 < w1.heap.size := (Array.getElem?_eq_some_iff.1 h4.2.2.2).1
  have HC : Hid _ := zzbytes29 node set (bv rec) (bv T) (bv R) #[.int .u64 f0, .int .u64 f1] n E w1 hs ht
  clear h4 hb
  apply wp_seq_k; intro K0 aK0
  have HK0 : Hid (∀ a w, _ → K0 a w) := aK0
  clear aK0
  go_wp2_with (first
    | (refine wpList_load_seg rfl 22 (.tmp 10) rfl _ _ rfl (bv rec) _ (by exact HSA.out) Try.underlying22 rfl (by rw [Try.info22, bv_size, hrec]) ?_; simp only [Act.put, List.setIfInBounds_toArray, List.set_cons_succ, List.set_cons_zero])
    | (refine wpList_load_seg rfl 22 (.tmp 11) rfl _ _ rfl (bv T) _ (by exact HSB.out) Try.underlying22 rfl (by rw [Try.info22, bv_size, hT]) ?_; simp only [Act.put, List.setIfInBounds_toArray, List.set_cons_succ, List.set_cons_zero])
    | (refine wpList_load_seg rfl 22 (.tmp 12) rfl _ _ rfl (bv R) _ (by exact HSC.out) Try.underlying22 rfl (by rw [Try.info22, bv_size, hR]) ?_; simp only [Act.put, List.setIfInBounds_toArray, List.set_cons_succ, List.set_cons_zero])
    | (refine wpList_load_seg rfl 24 (.tmp 13) rfl _ _ rfl #[.int .u64 f0, .int .u64 f1] _ (by exact HSD.out) Try.underlying24 rfl info24 ?_; simp only [Act.put, List.setIfInBounds_toArray, List.set_cons_succ, List.set_cons_zero]))
  refine Calls.mono HC.out ?_
  rintro e w2 ⟨hor, hb2⟩
  have hr1 := (hb2.block _ (by omega)).trans H4.out.1
  have hr2 := (hb2.block _ (by omega)).trans H4.out.2.1
  have hr3 := (hb2.block _ (by omega)).trans H4.out.2.2.1
  have hr4 := (hb2.block _ (by omega)).trans H4.out.2.2.2
  have HB2 : Hid (Below w.heap.size w w2) := HB.out.trans (hb2.mono HB.out.size)
  have HR4 : Hid (w2.heap[w.heap.size]? = some (.cells (bv rec) 22) ∧ w2.heap[w.heap.size + 1]? = some (.cells (bv T) 22) ∧ w2.heap[w.heap.size + 2]? = some (.cells (bv R) 22) ∧ w2.heap[w.heap.size + 3]? = some (.cells #[.int .u64 f0, .int .u64 f1] 24)) := ⟨hr1, hr2, hr3, hr4⟩
  clear hr1 hr2 hr3 hr4 hb2 HC HSA HSB HSC HSD H4 HB
  rcases hor with rfl | rfl
  · go_wp2_with fail
    exact HK0.out _ _ (five2 node set rec T R f0 f1 n E w w2 hrec hT hR hs ht hE0 hE1 HR4.out.1 HR4.out.2.1 HR4.out.2.2.1 HR4.out.2.2.2 HB2.out Q HQ.out)
  · have hQ := HQ.out
    subst hQ
    go_wp2
    go_ret
    exact ⟨rfl, HB2.out⟩
end Go.Proofs.Qxb6612204a
