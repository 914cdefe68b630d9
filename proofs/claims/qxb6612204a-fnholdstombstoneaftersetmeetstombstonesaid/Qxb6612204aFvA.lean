import Derived.Test.Qxb6612204aReachB
namespace Go.Proofs.Qxb6612204a
open Go.RowKit Plain
set_option linter.unusedVariables false
set_option linter.unusedSimpArgs false

theorem maxL_zeros (l : List UInt8) (h : l.length = 1024) : maxL zeros l = l := by
  refine ext_getD ?_ (fun i hi => ?_)
  · rw [maxL_len _ _ (by rw [zeros_len, h]), zeros_len, h]
  · rw [maxL_get _ _ (by rw [zeros_len, h]) i (by rw [maxL_len _ _ (by rw [zeros_len, h])] at hi; exact hi), zeros_get, umax_zero]

set_option maxHeartbeats 400000 in
theorem zzbytes29 (s t : ByteArray) (a b c d : Array Value) (n E : Int) (w : World) (hs : s.size ≤ maxLen) (ht : t.size ≤ maxLen) :
    Calls Try.prog 29 #[.string s, .string t, .agg a, .agg b, .agg c, .agg d, .int .i64 n, .int .u64 E] w fun e w' => (e = .returned (.bool true) ∨ e = .returned (.bool false)) ∧ Below w.heap.size w w' := by
  have hB : ∀ W, W = (((w.alloc (.cells a 22)).alloc (.cells b 22)).alloc (.cells c 22)).alloc (.cells d 24) → Below w.heap.size w W := fun W h => by
    rw [h]; exact ((((Below.refl _ _).alloc (Nat.le_refl _) _).alloc (by simp) _).alloc (by simp; omega) _).alloc (by simp; omega) _
  have HB : Hid _ := hB
  clear hB
  unfold maxLen at hs ht
  by_cases h1 : (s.size : Int) ≤ 1048576
  · by_cases h2 : (t.size : Int) ≤ 1048576
    · by_cases h3 : (s.size : Int) + (t.size : Int) ≤ 1048576
      · go_enter Try.func29, Try.ntmps29
        go_wp2
        go_ret
        exact ⟨Or.inl rfl, HB.out _ rfl⟩
      · go_enter Try.func29, Try.ntmps29
        go_wp2
        go_ret
        exact ⟨Or.inr rfl, HB.out _ rfl⟩
    · go_enter Try.func29, Try.ntmps29
      go_wp2
      go_ret
      exact ⟨Or.inr rfl, HB.out _ rfl⟩
  · go_enter Try.func29, Try.ntmps29
    go_wp2
    go_ret
    exact ⟨Or.inr rfl, HB.out _ rfl⟩

/-- The law's own rows: the four boxes, the zero registers, the zero ranks. -/
structure Ev (w : World) (rec T R : List UInt8) (f0 f1 : Int) (Z : Nat) (wi : World) : Prop where
  a : wi.heap[w.heap.size]? = some (.cells (bv rec) 22)
  b : wi.heap[w.heap.size + 1]? = some (.cells (bv T) 22)
  c : wi.heap[w.heap.size + 2]? = some (.cells (bv R) 22)
  d : wi.heap[w.heap.size + 3]? = some (.cells #[.int .u64 f0, .int .u64 f1] 24)
  z : wi.heap[Z]? = some (.cells (bv zeros) 22)
  o : wi.heap[Z + 1]? = some (.cells #[.int .u64 0, .int .u64 0] 24)
  lt : w.heap.size + 3 < Z
  below : Below w.heap.size w wi
namespace Ev
variable {w wi w2 : World} {rec T R : List UInt8} {f0 f1 : Int} {Z : Nat}
theorem size (h : Ev w rec T R f0 f1 Z wi) : Z + 1 < wi.heap.size := (Array.getElem?_eq_some_iff.1 h.o).1
theorem later (h : Ev w rec T R f0 f1 Z wi) (hb : Below wi.heap.size wi w2) : Ev w rec T R f0 f1 Z w2 :=
  have := h.size
  have := h.lt
  ⟨(hb.block _ (by omega)).trans h.a, (hb.block _ (by omega)).trans h.b, (hb.block _ (by omega)).trans h.c, (hb.block _ (by omega)).trans h.d, (hb.block _ (by omega)).trans h.z, (hb.block _ (by omega)).trans h.o, h.lt, h.below.trans (hb.mono h.below.size)⟩
theorem but {g : Nat} (h : Ev w rec T R f0 f1 Z wi) (hb : But g wi w2) (hg : Z + 1 < g) : Ev w rec T R f0 f1 Z w2 :=
  have := h.size
  have := h.lt
  ⟨(hb.block _ (by omega) (by omega)).trans h.a, (hb.block _ (by omega) (by omega)).trans h.b, (hb.block _ (by omega) (by omega)).trans h.c, (hb.block _ (by omega) (by omega)).trans h.d, (hb.block _ (by omega) (by omega)).trans h.z, (hb.block _ (by omega) (by omega)).trans h.o, h.lt, h.below.trans (hb.below (by omega) h.below.size)⟩
end Ev
end Go.Proofs.Qxb6612204a
