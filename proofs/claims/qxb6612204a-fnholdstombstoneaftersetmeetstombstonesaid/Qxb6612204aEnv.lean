import Derived.Test.Qxb6612204aWalkI
namespace Go.Proofs.Qxb6612204a
open Go.RowKit Plain
set_option linter.unusedVariables false

/-- The law's own four rows: the two boxes, the zero registers, the zero ranks. -/
structure Env (w : World) (a b : List UInt8) (Z : Nat) (wi : World) : Prop where
  a : wi.heap[w.heap.size]? = some (.cells (bv a) 22)
  b : wi.heap[w.heap.size + 1]? = some (.cells (bv b) 22)
  z : wi.heap[Z]? = some (.cells (bv zeros) 22)
  o : wi.heap[Z + 1]? = some (.cells #[.int .u64 0, .int .u64 0] 24)
  lt : w.heap.size + 1 < Z
  below : Below w.heap.size w wi

namespace Env
variable {w wi w2 : World} {a b : List UInt8} {Z : Nat}
theorem size (h : Env w a b Z wi) : Z + 1 < wi.heap.size := (Array.getElem?_eq_some_iff.1 h.o).1
theorem later (h : Env w a b Z wi) (hb : Below wi.heap.size wi w2) : Env w a b Z w2 :=
  have := h.size
  have := h.lt
  ⟨(hb.block _ (by omega)).trans h.a, (hb.block _ (by omega)).trans h.b, (hb.block _ (by omega)).trans h.z, (hb.block _ (by omega)).trans h.o, h.lt, h.below.trans (hb.mono h.below.size)⟩
theorem but {g : Nat} (h : Env w a b Z wi) (hb : But g wi w2) (hg : Z + 1 < g) : Env w a b Z w2 :=
  have := h.size
  have := h.lt
  ⟨(hb.block _ (by omega) (by omega)).trans h.a, (hb.block _ (by omega) (by omega)).trans h.b, (hb.block _ (by omega) (by omega)).trans h.z, (hb.block _ (by omega) (by omega)).trans h.o, h.lt, h.below.trans (hb.below (by omega) h.below.size)⟩
end Env

theorem range_bv {w : World} {g : Nat} {t : TypeId} {x : List UInt8} (h : w.heap[g]? = some (.cells (bv x) t (0, 0))) : w.rangeAt g 0 (bv x).toList := by
  intro j v hv
  rw [cell_of_row w g _ _ _ _ h, Nat.zero_add]
  simpa using hv

theorem range24 {w : World} {g : Nat} {t : TypeId} (h : w.heap[g]? = some (.cells #[.int .u64 0, .int .u64 0] t (0, 0))) : w.rangeAt g 0 [.int .u64 0, .int .u64 0] := by
  intro j v hv
  rw [cell_of_row w g _ _ _ _ h, Nat.zero_add]
  simpa using hv

theorem env_start (w w1 : World) (a b : List UInt8) (h : Below ((w.alloc (.cells (bv a) 22)).alloc (.cells (bv b) 22)).heap.size ((w.alloc (.cells (bv a) 22)).alloc (.cells (bv b) 22)) w1) :
    Env w a b w1.heap.size ((w1.alloc (.cells (bv zeros) 22)).alloc (.cells #[.int .u64 0, .int .u64 0] 24)) := by
  have hs : w.heap.size + 2 ≤ w1.heap.size := by have := h.size; simpa using this
  have e1 : ∀ g, g < w1.heap.size → ((w1.alloc (.cells (bv zeros) 22)).alloc (.cells #[.int .u64 0, .int .u64 0] 24)).heap[g]? = w1.heap[g]? := fun g hg => by
    rw [Below.heap_alloc _ _ _ (by simp; omega), Below.heap_alloc _ _ _ hg]
  refine ⟨?_, ?_, heap_alloc2_old _ _ _, heap_alloc2_new _ _ _, by omega, ?_⟩
  · rw [e1 _ (by omega), h.block _ (by simp; omega), heap_alloc2_old]
  · rw [e1 _ (by omega), h.block _ (by simp), heap_alloc2_new]
  · have b0 : Below w.heap.size w w1 := (((Below.refl _ _).alloc (Nat.le_refl _) _).alloc (by simp) _).trans (h.mono (by simp; omega))
    exact (b0.alloc (by omega) _).alloc (by simp; omega) _

theorem Env.seg {w wi : World} {a b : List UInt8} {Z : Nat} (h : Env w a b Z wi) : wi.rangeAt Z 0 (bv zeros).toList ∧ wi.cell? ⟨Z + 1, 0, none⟩ = some (.int .u64 0) ∧ wi.cell? ⟨Z + 1, 1, none⟩ = some (.int .u64 0) :=
  ⟨range_bv h.z, by rw [cell_of_row _ _ _ _ _ _ h.o]; rfl, by rw [cell_of_row _ _ _ _ _ _ h.o]; rfl⟩
def st0 (node set : ByteArray) : Array Value := stRow node set (rankL node.data.toList set.data.toList) 0 zeros (tombRow zeros zeros 0 0 0 0)


theorem stRow_seg {w : World} {g : Nat} {node set : ByteArray} {rank holds : Int} {rec : List UInt8} {tomb : Array Value} {t : TypeId} (h : w.heap[g]? = some (.cells (stRow node set rank holds rec tomb) t)) : Seg w g 4 (bv rec) :=
  seg_part h rfl

/-- the rest of a right-nested row of statements -/
def tl : Nat → Code → Code
  | 0, c => c
  | n + 1, .seq _ b => tl n b
  | _ + 1, c => c

abbrev tz : Array Value := tombRow zeros zeros 0 0 0 0

/-- .. and the two states -/
structure Two (w : World) (a b : List UInt8) (Z s1 s2 : Nat) (node set : ByteArray) (rank h1 h2 : Int) (r1 r2 : List UInt8) (wi : World) : Prop where
  env : Env w a b Z wi
  g1 : wi.heap[s1]? = some (.cells (stRow node set rank h1 r1 tz) 64)
  g2 : wi.heap[s2]? = some (.cells (stRow node set rank h2 r2 tz) 64)
  lt1 : Z + 1 < s1
  lt2 : s1 < s2

namespace Two
variable {w wi w2 : World} {a b : List UInt8} {Z s1 s2 : Nat} {node set : ByteArray} {rank h1 h2 : Int} {r1 r2 : List UInt8}
theorem size (h : Two w a b Z s1 s2 node set rank h1 h2 r1 r2 wi) : s2 < wi.heap.size := (Array.getElem?_eq_some_iff.1 h.g2).1
theorem later (h : Two w a b Z s1 s2 node set rank h1 h2 r1 r2 wi) (hb : Below wi.heap.size wi w2) : Two w a b Z s1 s2 node set rank h1 h2 r1 r2 w2 :=
  have := h.size
  have := h.lt2
  ⟨h.env.later hb, (hb.block _ (by omega)).trans h.g1, (hb.block _ (by omega)).trans h.g2, h.lt1, h.lt2⟩
theorem but1 (h : Two w a b Z s1 s2 node set rank h1 h2 r1 r2 wi) (hb : But s1 wi w2) {k1 : Int} {q1 : List UInt8} (hg : w2.heap[s1]? = some (.cells (stRow node set rank k1 q1 tz) 64)) : Two w a b Z s1 s2 node set rank k1 h2 q1 r2 w2 :=
  have := h.size
  have := h.lt2
  ⟨h.env.but hb h.lt1, hg, (hb.block _ (by omega) (by omega)).trans h.g2, h.lt1, h.lt2⟩
theorem but2 (h : Two w a b Z s1 s2 node set rank h1 h2 r1 r2 wi) (hb : But s2 wi w2) {k2 : Int} {q2 : List UInt8} (hg : w2.heap[s2]? = some (.cells (stRow node set rank k2 q2 tz) 64)) : Two w a b Z s1 s2 node set rank h1 k2 r1 q2 w2 :=
  have := h.size
  have := h.lt2
  have := h.lt1
  ⟨h.env.but hb (by omega), (hb.block _ (by omega) (by omega)).trans h.g1, hg, h.lt1, h.lt2⟩
end Two
end Go.Proofs.Qxb6612204a
