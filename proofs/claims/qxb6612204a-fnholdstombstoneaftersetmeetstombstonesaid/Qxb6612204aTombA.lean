import Derived.Test.Qxb6612204aWalkZ
namespace Go.Proofs.Qxb6612204a
open Go.RowKit Plain
set_option linter.unusedVariables false
set_option linter.unusedSimpArgs false

theorem results_5 {P : Program} {fn : Func} {a b c d e : Tmp} {t1 t2 t3 : TypeId} (h : fn.results = #[.cell a t1, .cell b t2, .cell c t3, .tmp d, .tmp e]) (tmps : Array Value) (w : World)
    {pa pb pc : Addr} {v1 v2 v3 : Value} (ha : tmps.getD a undef = .pointer (some pa)) (hb : tmps.getD b undef = .pointer (some pb)) (hc : tmps.getD c undef = .pointer (some pc))
    (h1 : (loadVar t1 pa).run P w = .ok v1 w) (h2 : (loadVar t2 pb).run P w = .ok v2 w) (h3 : (loadVar t3 pc).run P w = .ok v3 w) :
    (results fn tmps).run P w = .ok (.tuple #[v1, v2, v3, tmps.getD d undef, tmps.getD e undef]) w := by
  have ha' : tmps[a]?.getD undef = .pointer (some pa) := by simpa using ha
  have hb' : tmps[b]?.getD undef = .pointer (some pb) := by simpa using hb
  have hc' : tmps[c]?.getD undef = .pointer (some pc) := by simpa using hc
  simp [results, h, ha', hb', hc', asAddr, h1, h2, h3]
theorem results_ct {P : Program} {fn : Func} {a d : Tmp} {t1 : TypeId} (h : fn.results = #[.cell a t1, .tmp d]) (tmps : Array Value) (w : World)
    {pa : Addr} {v1 : Value} (ha : tmps.getD a undef = .pointer (some pa))
    (h1 : (loadVar t1 pa).run P w = .ok v1 w) :
    (results fn tmps).run P w = .ok (.tuple #[v1, tmps.getD d undef]) w := by
  have ha' : tmps[a]?.getD undef = .pointer (some pa) := by simpa using ha
  simp [results, h, ha', asAddr, h1]

theorem heap3 (w : World) (a b c : Obj) : (((w.alloc a).alloc b).alloc c).heap[w.heap.size]? = some a ∧ (((w.alloc a).alloc b).alloc c).heap[w.heap.size + 1]? = some b ∧
    (((w.alloc a).alloc b).alloc c).heap[w.heap.size + 2]? = some c := by
  refine ⟨?_, ?_, ?_⟩
  · rw [Below.heap_alloc _ _ _ (by simp; omega), Below.heap_alloc _ _ _ (by simp), heap_alloc_new]
  · rw [Below.heap_alloc _ _ _ (by simp)]
    have := heap_alloc_new (w.alloc a) b
    simpa using this
  · have := heap_alloc_new ((w.alloc a).alloc b) c
    simpa using this

set_option maxHeartbeats 1000000 in
theorem newTomb_any (T R : List UInt8) (r0 r1 n e : Int) (w : World) (hT : T.length = 1024) (hR : R.length = 1024) :
    Calls Try.prog 9 #[.agg (bv T), .agg (bv R), .agg #[.int .u64 r0, .int .u64 r1], .int .i64 n, .int .u64 e] w fun e' w' =>
      e' = .returned (.pointer (some ⟨w.heap.size + 3, 0, none⟩)) ∧ w'.heap[w.heap.size + 3]? = some (.cells (tombRow T R r0 r1 n e) 61) ∧ Below w.heap.size w w' := by
  have H3 : Hid _ := heap3 w (.cells (bv T) 22) (.cells (bv R) 22) (.cells #[.int .u64 r0, .int .u64 r1] 24)
  go_enter Try.func9, Try.ntmps9
  go_wp2_with (first
    | (refine wpList_load_seg rfl 22 (.tmp 5) rfl _ _ rfl (bv T) _ (by exact seg_row H3.out.1) Try.underlying22 rfl (by rw [Try.info22, bv_size, hT]) ?_; simp only [Act.put, List.setIfInBounds_toArray, List.set_cons_succ, List.set_cons_zero])
    | (refine wpList_load_seg rfl 22 (.tmp 6) rfl _ _ rfl (bv R) _ (by exact seg_row H3.out.2.1) Try.underlying22 rfl (by rw [Try.info22, bv_size, hR]) ?_; simp only [Act.put, List.setIfInBounds_toArray, List.set_cons_succ, List.set_cons_zero])
    | (refine wpList_build_as rfl 57 #[(0, .tmp 11)] rfl (bv T) ?_ ?_; (simp [Act.eval]; exact built57 T hT); simp only [Act.put, List.setIfInBounds_toArray, List.set_cons_succ, List.set_cons_zero])
    | (refine wpList_build_as rfl 57 #[(0, .tmp 13)] rfl (bv R) ?_ ?_; (simp [Act.eval]; exact built57 R hR); simp only [Act.put, List.setIfInBounds_toArray, List.set_cons_succ, List.set_cons_zero])
    | (refine wpList_build_as rfl 61 #[(0, .tmp 12), (1, .tmp 14), (2, .tmp 17), (3, .tmp 18)] rfl (tombRow T R r0 r1 n e) ?_ ?_; (simp [Act.eval]; exact built61 T R r0 r1 n e hT hR); simp only [Act.put, List.setIfInBounds_toArray, List.set_cons_succ, List.set_cons_zero]))
  go_ret
  refine ⟨rfl, ?_, ?_⟩
  · have := heap_alloc_new (((w.alloc (.cells (bv T) 22)).alloc (.cells (bv R) 22)).alloc (.cells #[.int .u64 r0, .int .u64 r1] 24)) (.cells (tombRow T R r0 r1 n e) 61)
    simpa using this
  · exact ((((Below.refl _ _).alloc (Nat.le_refl _) _).alloc (by simp) _).alloc (by simp; omega) _).alloc (by simp; omega) _
end Go.Proofs.Qxb6612204a
