/-
  More laws of whatever program: a variable of an array's type is made; a struct is put together, its parts arrays of whatever length.
-/
import Derived.Test.Qxb6612204aKit
namespace Go.Proofs.Qxb6612204a
open Go.RowKit

section
variable {P : Program}

theorem wpList_alloc_row {ops : Array Oper} {rest : List Oper} {o : Oper} {a : Act} {w : World} {Q : Exit → Act → World → Prop} (hgd : o.guard = none) (ty : TypeId) (ho : o.op = .alloc ty)
    (z : Value) (hz : (P.info? ty).map (·.zero) = some (some z))
    (h : wpList P ops Q rest (a.put o.dst (.pointer (some ⟨w.heap.size, 0, none⟩))) (w.alloc (.cells z.cells ty))) : wpList P ops Q (o :: rest) a w := by
  refine wpList_plain hgd fun K hK => ?_
  cases hq : P.info? ty with
  | none => simp [hq] at hz
  | some i =>
    have hz' : i.zero = some z := by simpa [hq] using hz
    have hzv : (zeroValue ty).run P w = .ok z w := by simp [zeroValue, typeInfo, hq, hz']
    unfold Oper.wp execOp
    simp only [ho, Instr.alloc, Sem.run_bind, hzv, Result.andThen_ok, newVar, newRow, newObj, Sem.run_pure]
    exact hK _ _ h

theorem foldl_over (off : Nat) : ∀ (l : List Value) (k : Nat) (cells : Array Value), off + k + l.length ≤ cells.size →
    (l.zipIdx k).foldl (fun cs p => cs.setIfInBounds (off + p.2) p.1) cells = over cells (off + k) l.toArray
  | [], k, cells, _ => by rw [show (([] : List Value).toArray) = #[] from rfl, over_nil]; rfl
  | v :: l, k, cells, h => by
    simp only [List.length_cons] at h
    rw [List.zipIdx_cons, List.foldl_cons, foldl_over off l (k + 1) _ (by simp; omega)]
    unfold over
    apply congrArg List.toArray
    have e := list_seg_step cells.toList (off + k) v l (by simp; omega)
    simp only [Array.toList_setIfInBounds, List.size_toArray, List.length_cons]
    rw [show off + (k + 1) = off + k + 1 by omega]
    exact e

theorem fill_cons (place : Nat → Option (Nat × Nat)) (cells : Array Value) (i : Nat) (v : Value) (rest : List (Nat × Value)) (off size : Nat) (hp : place i = some (off, size)) (hv : v.cells.size = size) (hf : off + size ≤ cells.size) :
    Instr.fill place cells ((i, v) :: rest) = Instr.fill place (over cells off v.cells) rest := by
  have hn : ¬ (decide (v.cells.size ≠ size) || decide (off + v.cells.size > cells.size)) = true := by
    simp [hv]; omega
  rw [Instr.fill]
  simp only [hp]
  rw [if_neg hn]
  congr 1
  have e := foldl_over off v.cells.toList 0 cells (by simp [hv]; omega)
  rw [← Array.foldl_toList, Array.toList_zipIdx]
  simpa using e

theorem built_struct (t : TypeId) (z : Value) (fields : Array Field) (places : List (Nat × Nat)) (parts : List (Nat × Value)) (hz : (P.info? t).map (·.zero) = some (some z)) (hu : P.underlying t = some (.struct fields))
    (hp : fields.toList.mapM (fun f => (P.info? f.type).map fun i => (f.offset, i.size)) = some places) : P.built t parts = Instr.fill (places.toArray[·]?) z.cells parts := by
  cases hq : P.info? t with
  | none => simp [hq] at hz
  | some i =>
    have hz' : i.zero = some z := by simpa [hq] using hz
    unfold Program.built
    simp only [hq, hu, hz', hp]

theorem wpList_build_as {ops : Array Oper} {rest : List Oper} {o : Oper} {a : Act} {w : World} {Q : Exit → Act → World → Prop} (hg : o.guard = none) (t : TypeId) (parts : Array (Nat × Operand)) (ho : o.op = .build t parts)
    (cells : Array Value) (hf : P.built t (parts.map fun (i, x) => (i, a.eval x)).toList = some cells)
    (h : wpList P ops Q rest (a.put o.dst (.agg cells)) w) : wpList P ops Q (o :: rest) a w :=
  wpList_build hg t parts ho (by rw [hf]; rfl) (by rw [hf]; exact h)
end
end Go.Proofs.Qxb6612204a
