import Derived.Test.Qxb6612204aWalkF
namespace Go.Proofs.Qxb6612204a
open Go.RowKit Plain
set_option linter.unusedVariables false

set_option maxHeartbeats 400000 in
theorem zzbytes33 (s t : ByteArray) (a b : Array Value) (w : World) (hs : s.size ≤ maxLen) (ht : t.size ≤ maxLen) :
    Calls Try.prog 33 #[.string s, .string t, .agg a, .agg b] w fun e w' => (e = .returned (.bool true) ∨ e = .returned (.bool false)) ∧ Below w.heap.size w w' := by
  unfold maxLen at hs ht
  by_cases h1 : (s.size : Int) ≤ 1048576
  · by_cases h2 : (t.size : Int) ≤ 1048576
    · by_cases h3 : (s.size : Int) + (t.size : Int) ≤ 1048576
      · go_enter Try.func33, Try.ntmps33
        go_wp2
        go_ret
        exact ⟨Or.inl rfl, ((Below.refl _ _).alloc (Nat.le_refl _) _).alloc (by simp) _⟩
      · go_enter Try.func33, Try.ntmps33
        go_wp2
        go_ret
        exact ⟨Or.inr rfl, ((Below.refl _ _).alloc (Nat.le_refl _) _).alloc (by simp) _⟩
    · go_enter Try.func33, Try.ntmps33
      go_wp2
      go_ret
      exact ⟨Or.inr rfl, ((Below.refl _ _).alloc (Nat.le_refl _) _).alloc (by simp) _⟩
  · go_enter Try.func33, Try.ntmps33
    go_wp2
    go_ret
    exact ⟨Or.inr rfl, ((Below.refl _ _).alloc (Nat.le_refl _) _).alloc (by simp) _⟩

set_option maxHeartbeats 400000 in
theorem record_any (g : Nat) (w : World) :
    Calls Try.prog 30 #[.pointer (some ⟨g, 0, none⟩)] w fun e w' => e = .returned (.pointer (some ⟨g, 4, none⟩)) ∧ w' = w := by
  go_enter Try.func30, Try.ntmps30
  go_wp2
  go_ret
  exact ⟨rfl, rfl⟩

set_option maxHeartbeats 400000 in
theorem newSketch_any (a : List UInt8) (w : World) (ha : a.length = 1024) :
    Calls Try.prog 25 #[.agg (bv a)] w fun e w' => e = .returned (.pointer (some ⟨w.heap.size + 1, 0, none⟩)) ∧ w'.heap[w.heap.size + 1]? = some (.cells (bv a) 57) ∧ Below w.heap.size w w' ∧ w.heap.size + 1 < w'.heap.size := by
  go_enter Try.func25, Try.ntmps25
  go_wp2_with (first
    | (refine wpList_load_seg rfl 22 (.tmp 1) rfl _ _ rfl (bv a) _ (by exact seg_row (heap_alloc_new _ _)) Try.underlying22 rfl (by rw [Try.info22, bv_size, ha]) ?_)
    | (refine wpList_build_as rfl 57 #[(0, .tmp 3)] rfl (bv a) ?_ ?_; (simp [Act.eval]; exact built57 a ha)))
  go_ret
  exact ⟨rfl, heap_alloc2_new _ _ _, ((Below.refl _ _).alloc (Nat.le_refl _) _).alloc (by simp) _, by simp⟩

set_option maxHeartbeats 400000 in
theorem sketchReg_any (g o : Nat) (a : List UInt8) (w : World) (ha : a.length = 1024) (hs : Seg w g o (bv a)) (hg : g < w.heap.size) :
    Calls Try.prog 27 #[.pointer (some ⟨g, o, none⟩)] w fun e w' => e = .returned (.agg (bv a)) ∧ Below w.heap.size w w' := by
  have HS : Hid (Seg (w.alloc (.cells (bv zeros) 22)) g o (bv a)) := hs.below ((Below.refl w.heap.size _).alloc (Nat.le_refl _) _) hg
  have HR : Hid ((w.alloc (.cells (bv zeros) 22)).heap[w.heap.size]? = some (.cells (bv zeros) 22)) := heap_alloc_new _ _
  clear hs
  go_enter Try.func27, Try.ntmps27
  go_wp2_with (first
    | (refine wpList_alloc_row rfl 22 rfl (.agg (bv zeros)) zero22 ?_; rw [cells_agg])
    | (refine wpList_load_seg rfl 22 (.tmp 5) rfl _ _ rfl (bv a) _ (by exact HS.out) Try.underlying22 rfl (by rw [Try.info22, bv_size, ha]) ?_)
    | (refine wpList_store_seg rfl 22 (.tmp 2) (.tmp 6) rfl _ _ (bv a) rfl rfl _ _ (by exact HR.out) (by rw [Try.info22, bv_size, ha]) (by rw [bv_size, bv_size, ha, zeros_len]; omega) (bv_one _) ?_))
  refine bodyPost_ret (v := .agg (bv a)) ?_ rfl ⟨rfl, ?_⟩
  · refine results_cell_row (P := Try.prog) rfl _ _ w.heap.size 22 (bv a) (0, 0) _ rfl ?_ Try.underlying22 rfl (by rw [Try.info22, bv_size, ha])
    have e := over_all (bv zeros) (bv a) (by rw [bv_size, bv_size, ha, zeros_len])
    exact (setRow_heap _ _ _ _ _ _ HR.out).trans (by rw [e])
  · exact ((Below.refl _ _).alloc (Nat.le_refl _) _).trans ⟨rfl, rfl, rfl, by simp, fun q hq => setRow_other _ _ _ _ (by omega)⟩

theorem heap4 (w : World) (a b c d : Obj) : ((((w.alloc a).alloc b).alloc c).alloc d).heap[w.heap.size]? = some a ∧ ((((w.alloc a).alloc b).alloc c).alloc d).heap[w.heap.size + 1]? = some b ∧
    ((((w.alloc a).alloc b).alloc c).alloc d).heap[w.heap.size + 2]? = some c ∧ ((((w.alloc a).alloc b).alloc c).alloc d).heap[w.heap.size + 3]? = some d := by
  refine ⟨?_, ?_, ?_, ?_⟩
  · rw [Below.heap_alloc _ _ _ (by simp; omega), Below.heap_alloc _ _ _ (by simp; omega), Below.heap_alloc _ _ _ (by simp), heap_alloc_new]
  · rw [Below.heap_alloc _ _ _ (by simp), Below.heap_alloc _ _ _ (by simp)]
    have := heap_alloc_new (w.alloc a) b
    simpa using this
  · rw [Below.heap_alloc _ _ _ (by simp)]
    have := heap_alloc_new ((w.alloc a).alloc b) c
    simpa using this
  · have := heap_alloc_new (((w.alloc a).alloc b).alloc c) d
    simpa using this

set_option maxHeartbeats 1000000 in
theorem newState_any (node set : ByteArray) (rank holds : Int) (rec T R : List UInt8) (r0 r1 n e : Int) (w : World) (hr : rec.length = 1024) (hT : T.length = 1024) (hR : R.length = 1024) :
    Calls Try.prog 10 #[.string node, .string set, .int .u64 rank, .int .i64 holds, .agg (bv rec), .agg (bv T), .agg (bv R), .agg #[.int .u64 r0, .int .u64 r1], .int .i64 n, .int .u64 e] w fun e' w' =>
      e' = .returned (.pointer (some ⟨w.heap.size + 4, 0, none⟩)) ∧ w'.heap[w.heap.size + 4]? = some (.cells (stRow node set rank holds rec (tombRow T R r0 r1 n e)) 64) ∧ Below w.heap.size w w' ∧ w.heap.size + 4 < w'.heap.size := by
  have H4 : Hid _ := heap4 w (.cells (bv rec) 22) (.cells (bv T) 22) (.cells (bv R) 22) (.cells #[.int .u64 r0, .int .u64 r1] 24)
  go_enter Try.func10, Try.ntmps10
  go_wp2_with (first
    | (refine wpList_load_seg rfl 22 (.tmp 14) rfl _ _ rfl (bv rec) _ (by exact seg_row H4.out.1) Try.underlying22 rfl (by rw [Try.info22, bv_size, hr]) ?_; simp only [Act.put, List.setIfInBounds_toArray, List.set_cons_succ, List.set_cons_zero])
    | (refine wpList_load_seg rfl 22 (.tmp 15) rfl _ _ rfl (bv T) _ (by exact seg_row H4.out.2.1) Try.underlying22 rfl (by rw [Try.info22, bv_size, hT]) ?_; simp only [Act.put, List.setIfInBounds_toArray, List.set_cons_succ, List.set_cons_zero])
    | (refine wpList_load_seg rfl 22 (.tmp 16) rfl _ _ rfl (bv R) _ (by exact seg_row H4.out.2.2.1) Try.underlying22 rfl (by rw [Try.info22, bv_size, hR]) ?_; simp only [Act.put, List.setIfInBounds_toArray, List.set_cons_succ, List.set_cons_zero])
    | (refine wpList_build_as rfl 57 #[(0, .tmp 25)] rfl (bv rec) ?_ ?_; (simp [Act.eval]; exact built57 rec hr); simp only [Act.put, List.setIfInBounds_toArray, List.set_cons_succ, List.set_cons_zero])
    | (refine wpList_build_as rfl 57 #[(0, .tmp 27)] rfl (bv T) ?_ ?_; (simp [Act.eval]; exact built57 T hT); simp only [Act.put, List.setIfInBounds_toArray, List.set_cons_succ, List.set_cons_zero])
    | (refine wpList_build_as rfl 57 #[(0, .tmp 29)] rfl (bv R) ?_ ?_; (simp [Act.eval]; exact built57 R hR); simp only [Act.put, List.setIfInBounds_toArray, List.set_cons_succ, List.set_cons_zero])
    | (refine wpList_build_as rfl 61 #[(0, .tmp 28), (1, .tmp 30), (2, .tmp 33), (3, .tmp 34)] rfl (tombRow T R r0 r1 n e) ?_ ?_; (simp [Act.eval]; exact built61 T R r0 r1 n e hT hR); simp only [Act.put, List.setIfInBounds_toArray, List.set_cons_succ, List.set_cons_zero])
    | (refine wpList_build_as rfl 64 #[(0, .tmp 21), (1, .tmp 22), (2, .tmp 23), (3, .tmp 24), (4, .tmp 26), (5, .tmp 35)] rfl (stRow node set rank holds rec (tombRow T R r0 r1 n e)) ?_ ?_; (simp [Act.eval]; exact built64 node set rank holds rec (tombRow T R r0 r1 n e) hr (tombRow_size _ _ _ _ _ _ hT hR)); simp only [Act.put, List.setIfInBounds_toArray, List.set_cons_succ, List.set_cons_zero]))
  go_ret
  refine ⟨rfl, ?_, ?_, by simp⟩
  · have := heap_alloc_new ((((w.alloc (.cells (bv rec) 22)).alloc (.cells (bv T) 22)).alloc (.cells (bv R) 22)).alloc (.cells #[.int .u64 r0, .int .u64 r1] 24)) (.cells (stRow node set rank holds rec (tombRow T R r0 r1 n e)) 64)
    simpa using this
  · exact (((((Below.refl _ _).alloc (Nat.le_refl _) _).alloc (by simp) _).alloc (by simp; omega) _).alloc (by simp; omega) _).alloc (by simp; omega) _
end Go.Proofs.Qxb6612204a
