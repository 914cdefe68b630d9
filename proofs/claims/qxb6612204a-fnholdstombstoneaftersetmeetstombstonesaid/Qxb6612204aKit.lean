/-
  Laws on rows of cells that are arrays by value: loads and stores of a whole array at an offset in a block; '==' on arrays of bytes; whatever the program.
-/
import Derived.WalkKit
import Derived.WalkLawsBesides
import Derived.Deep.QuietTactic
import Derived.BigQuiet
import Derived.Deep.LoopGhost
import Derived.KernelRfl
import Derived.Lib.Bytealg
import Derived.Deep.RegionHeld3
namespace Go.Proofs.Qxb6612204a
open Go.RowKit

/-- The cells of an array of bytes. -/
def bv (l : List UInt8) : Array Value := (l.map fun x => Value.int .u8 (x.toNat : Int)).toArray

theorem bv_size (l : List UInt8) : (bv l).size = l.length := by simp [bv]
theorem bv_get (l : List UInt8) (k : Nat) (h : k < l.length) : (bv l)[k]? = some (.int .u8 ((l.getD k 0).toNat : Int)) := by
  simp [bv, h, List.getD]
theorem bv_one (l : List UInt8) : (bv l).all (·.oneCell') = true := by
  simp only [bv, Array.all_eq_true_iff_forall_mem, List.mem_toArray, List.mem_map]
  rintro v ⟨x, _, rfl⟩
  rfl
theorem bv_inj {a b : List UInt8} (h : bv a = bv b) : a = b := by
  have h' := congrArg Array.toList h
  simp only [bv] at h'
  have := List.map_inj_right (f := fun x : UInt8 => Value.int .u8 (x.toNat : Int)) (l := a) (l' := b) (by
    intro x y hxy
    simp at hxy
    exact UInt8.toNat_inj.1 (by omega))
  exact this.1 h'

/-- From offset 'off' on block 'g' holds the cells 'cs'. -/
def Seg (w : World) (g off : Nat) (cs : Array Value) : Prop := ∀ j, j < cs.size → w.cell? ⟨g, off + j, none⟩ = cs[j]?

theorem add_at (g o j : Nat) : (⟨g, o, none⟩ : Addr).add j = ⟨g, o + j, none⟩ := by unfold Addr.add; split <;> simp_all

theorem seg_row {w : World} {g : Nat} {cs : Array Value} {t : TypeId} {fr : Nat × Nat} (h : w.heap[g]? = some (.cells cs t fr)) : Seg w g 0 cs := by
  intro j _
  rw [cell_of_row w g (0 + j) cs t fr h, Nat.zero_add]

theorem seg_part {w : World} {g off : Nat} {as cs bs : Array Value} {t : TypeId} {fr : Nat × Nat} (h : w.heap[g]? = some (.cells (as ++ cs ++ bs) t fr)) (ho : off = as.size) : Seg w g off cs := by
  intro j hj
  subst ho
  rw [cell_of_row w g _ _ t fr h]
  rw [Array.getElem?_append_left (by simp; omega), Array.getElem?_append_right (by omega)]
  congr 1
  omega

theorem Seg.below {w w' : World} {B g off : Nat} {cs : Array Value} (h : Seg w g off cs) (hb : Below B w w') (hg : g < B) : Seg w' g off cs :=
  fun j hj => (hb.cell (p := ⟨g, off + j, none⟩) hg).trans (h j hj)

section
variable {P : Program}

theorem run_loadVar_seg (w : World) (g off : Nat) (ty : TypeId) (cs : Array Value) (d : TypeDesc) (hg : Seg w g off cs)
    (hu : P.underlying ty = some d) (hd : (match d with | .struct _ | .array _ _ => true | _ => false) = true) (hi : (P.info? ty).map (·.size) = some cs.size) :
    (loadVar ty ⟨g, off, none⟩).run P w = .ok (.agg cs) w := by
  have hl : (loadCells ⟨g, off, none⟩ cs.toList.length).run P w = .ok cs.toList.toArray w :=
    run_loadCells_list (P := P) w ⟨g, off, none⟩ cs.toList (fun j v hv => by
      rw [add_at]
      have hj : j < cs.size := by
        have := (List.getElem?_eq_some_iff.1 hv).1
        simpa using this
      rw [hg j hj]
      simpa using hv)
  cases hq : P.info? ty with
  | none => simp [hq] at hi
  | some i =>
    have hs : i.size = cs.size := by simpa [hq] using hi
    have hagg : (isAgg ty).run P w = .ok true w := by
      unfold isAgg
      rw [Sem.run_bind, run_underlying hu w]
      cases d <;> simp_all
    simp only [Array.length_toList, Array.toArray_toList] at hl
    simp [loadVar, Sem.run_bind, hagg, sizeOf, typeInfo, hq, hs, hl]

theorem wp_load_seg {o : Oper} {a : Act} {w : World} {K : Act → World → Prop} {Q : Exit → Act → World → Prop} (ty : TypeId) (x : Operand) (ho : o.op = .load ty x)
    (g off : Nat) (hx : a.eval x = .pointer (some ⟨g, off, none⟩)) (cs : Array Value) (d : TypeDesc) (hg : Seg w g off cs)
    (hu : P.underlying ty = some d) (hd : (match d with | .struct _ | .array _ _ => true | _ => false) = true) (hi : (P.info? ty).map (·.size) = some cs.size)
    (h : K (a.put o.dst (.agg cs)) w) : o.wp P a w K Q := by
  unfold Oper.wp execOp
  simp only [ho, hx, Instr.loadAt, Instr.sureAddr, Sem.run_bind, Sem.run_pure, Result.andThen_ok, run_loadVar_seg w g off ty cs d hg hu hd hi]
  exact h

/-- A whole array is read, in the walk. -/
theorem wpList_load_seg {ops : Array Oper} {rest : List Oper} {o : Oper} {a : Act} {w : World} {Q : Exit → Act → World → Prop} (hgd : o.guard = none) (ty : TypeId) (x : Operand) (ho : o.op = .load ty x)
    (g off : Nat) (hx : a.eval x = .pointer (some ⟨g, off, none⟩)) (cs : Array Value) (d : TypeDesc) (hg : Seg w g off cs)
    (hu : P.underlying ty = some d) (hd : (match d with | .struct _ | .array _ _ => true | _ => false) = true) (hi : (P.info? ty).map (·.size) = some cs.size)
    (h : wpList P ops Q rest (a.put o.dst (.agg cs)) w) : wpList P ops Q (o :: rest) a w :=
  wpList_plain hgd fun _ hK => wp_load_seg ty x ho g off hx cs d hg hu hd hi (hK _ _ h)

/-- .. in a region that draws its order and only reads. -/
theorem quiet_load_seg {C : World → Prop} {o : Oper} {a : Act} {K : Act → Prop} (ty : TypeId) (x : Operand) (ho : o.op = .load ty x)
    (g off : Nat) (hx : a.eval x = .pointer (some ⟨g, off, none⟩)) (cs : Array Value) (d : TypeDesc) (hg : ∀ w, C w → Seg w g off cs)
    (hu : P.underlying ty = some d) (hd : (match d with | .struct _ | .array _ _ => true | _ => false) = true) (hi : (P.info? ty).map (·.size) = some cs.size)
    (h : K (a.put o.dst (.agg cs))) : o.quiet P a C K := by
  refine ⟨.agg cs, fun w hw => ?_, h⟩
  unfold Oper.quietAt execOp
  simp only [ho, hx, Instr.loadAt, Instr.sureAddr, Sem.run_bind, Sem.run_pure, Result.andThen_ok, run_loadVar_seg w g off ty cs d (hg w hw) hu hd hi]
  exact ⟨rfl, rfl⟩

/-! A region that draws its order, whose operations read and whose callees may make memory of their own: the class of the worlds in which all that was there is as it was. -/
structure Later (w : World) where
  x : World
  h : Below w.heap.size w x

theorem wp_region_later {id : Nat} {Q : Exit → Act → World → Prop} {a : Act} {w : World} {l : List Oper} (hm : P.follows .mixedOrders = true) (hB : Region.lexB .any l.toArray = true)
    (h : wpQuiet P l.toArray (fun w' => ∃ e : Later w, w' = e.x) (fun a' => ∀ e : Later w, Q .normal a' e.x) l a) : (Code.region id l.toArray true).wp P Q a w := by
  refine wp_region_quiet (C := fun w' => ∃ e : Later w, w' = e.x) hm hB ⟨⟨w.drew, (Below.refl _ _).drew⟩, rfl⟩ ?_
  have e : (fun a' => ∀ w', (∃ e : Later w, w' = e.x) → Q .normal a' w') = (fun a' => ∀ e : Later w, Q .normal a' e.x) := by
    funext a'
    apply propext
    exact ⟨fun h e => h _ ⟨e, rfl⟩, fun h w' ⟨e, he⟩ => he ▸ h e⟩
  rw [e]
  exact h

theorem later_some (w : World) : Nonempty (Later w) := ⟨⟨w, Below.refl _ _⟩⟩

theorem later_call {w : World} (e : Later w) {f : FuncId} {args : Array Value} {v : Value}
    (h : Calls P f args e.x fun x w' => x = .returned v ∧ Below e.x.heap.size e.x w') : Calls P f args e.x fun x w'' => x = .returned v ∧ ∃ e2 : Later w, w'' = e2.x :=
  h.mono fun _ w' ⟨hx, hb⟩ => ⟨hx, ⟨w', e.h.trans (hb.mono e.h.size)⟩, rfl⟩

theorem later_load {w0 : World} {o : Oper} {a : Act} {K : Act → Prop} (ty : TypeId) (x : Operand) (ho : o.op = .load ty x)
    (g off : Nat) (hx : a.eval x = .pointer (some ⟨g, off, none⟩)) (cs : Array Value) (d : TypeDesc) (hg : ∀ e : Later w0, Seg e.x g off cs)
    (hu : P.underlying ty = some d) (hd : (match d with | .struct _ | .array _ _ => true | _ => false) = true) (hi : (P.info? ty).map (·.size) = some cs.size)
    (h : K (a.put o.dst (.agg cs))) : o.quiet P a (fun w' => ∃ e : Later w0, w' = e.x) K :=
  quiet_load_seg ty x ho g off hx cs d (fun _ ⟨e, he⟩ => he ▸ hg e) hu hd hi h

/-- The cells 'vs' laid from 'o' on over 'cur'. -/
def over (cur : Array Value) (o : Nat) (vs : Array Value) : Array Value := (cur.toList.take o ++ vs.toList ++ cur.toList.drop (o + vs.size)).toArray

theorem over_mid (A C D vs : Array Value) (h : vs.size = C.size) : over (A ++ C ++ D) A.size vs = A ++ vs ++ D := by
  unfold over
  apply Array.ext'
  simp only [Array.toList_append]
  rw [List.append_assoc A.toList, List.take_append_of_le_length (by simp), List.drop_append, List.drop_append]
  rw [List.take_of_length_le (by simp), @List.drop_eq_nil_of_le _ A.toList _ (by simp), @List.drop_eq_nil_of_le _ C.toList _ (by simp; omega)]
  simp [h]

theorem over_nil (cur : Array Value) (o : Nat) : over cur o #[] = cur := by
  unfold over
  apply Array.ext'
  simp
theorem set_over (cur : Array Value) (o : Nat) (v : Value) (h : o < cur.size) : cur.setIfInBounds o v = over cur o #[v] := by
  unfold over
  apply Array.ext'
  rw [Array.toList_setIfInBounds, List.set_eq_take_append_cons_drop, if_pos (by simpa using h)]
  simp

theorem run_storeVar_seg (w : World) (g off : Nat) (t ty : TypeId) (cur cells : Array Value) (hg : w.heap[g]? = some (.cells cur t (0, 0))) (hi : (P.info? ty).map (·.size) = some cells.size)
    (ho : off + cells.size ≤ cur.size) (h1 : cells.all (·.oneCell') = true) :
    (storeVar ty ⟨g, off, none⟩ (.agg cells)).run P w = .ok () (w.setRow g (over cur off cells)) := by
  have := run_storeCells_at (P := P) g off t cells.toList 0 cur w hg (by simpa using ho) (fun v hv => (Array.all_eq_true_iff_forall_mem.1 h1) v (by simpa using hv))
  cases hq : P.info? ty with
  | none => simp [hq] at hi
  | some i =>
    have hs : cells.size = i.size := by simp [hq] at hi; omega
    simp only [storeVar, sizeOf, typeInfo, Sem.run_bind, run_program, Result.andThen_ok, hq, Value.cells, hs, Sem.run_pure, ne_eq, not_true_eq_false, if_false]
    rw [this]
    simp [over]

theorem wp_store_seg {o : Oper} {a : Act} {w : World} {K : Act → World → Prop} {Q : Exit → Act → World → Prop} (ty : TypeId) (x y : Operand) (ho : o.op = .store ty x y)
    (g off : Nat) (cells : Array Value) (hx : a.eval x = .pointer (some ⟨g, off, none⟩)) (hy : a.eval y = .agg cells)
    (t : TypeId) (cur : Array Value) (hg : w.heap[g]? = some (.cells cur t (0, 0))) (hi : (P.info? ty).map (·.size) = some cells.size)
    (hold : off + cells.size ≤ cur.size) (h1 : cells.all (·.oneCell') = true)
    (h : K (a.put o.dst undef) (w.setRow g (over cur off cells))) : o.wp P a w K Q := by
  unfold Oper.wp execOp
  simp only [ho, hx, hy, Instr.storeAt, Instr.sureAddr, Sem.run_bind, Sem.run_pure, Result.andThen_ok, run_storeVar_seg w g off t ty cur cells hg hi hold h1]
  exact h

theorem wpList_store_seg {ops : Array Oper} {rest : List Oper} {o : Oper} {a : Act} {w : World} {Q : Exit → Act → World → Prop} (hgd : o.guard = none) (ty : TypeId) (x y : Operand) (ho : o.op = .store ty x y)
    (g off : Nat) (cells : Array Value) (hx : a.eval x = .pointer (some ⟨g, off, none⟩)) (hy : a.eval y = .agg cells)
    (t : TypeId) (cur : Array Value) (hg : w.heap[g]? = some (.cells cur t (0, 0))) (hi : (P.info? ty).map (·.size) = some cells.size)
    (hold : off + cells.size ≤ cur.size) (h1 : cells.all (·.oneCell') = true)
    (h : wpList P ops Q rest (a.put o.dst undef) (w.setRow g (over cur off cells))) : wpList P ops Q (o :: rest) a w :=
  wpList_plain hgd fun _ hK => wp_store_seg ty x y ho g off cells hx hy t cur hg hi hold h1 (hK _ _ h)

/-! copy, of elements of whatever size, into the middle of a row -/
theorem run_copy_seg (w : World) (dT sT ty elem : TypeId) (size g o dLen dCap g2 o2 sLen sCap : Nat) (cur cs : Array Value) (t : TypeId)
    (hu : P.underlying dT = some (.slice elem)) (hs : (P.info? elem).map (·.size) = some size)
    (hg : w.heap[g]? = some (.cells cur t (0, 0))) (hn : cs.size = Nat.min sLen dLen * size) (hsrc : Seg w g2 o2 cs) (hfit : o + cs.size ≤ cur.size) (h1 : cs.all (·.oneCell') = true) :
    (Builtin.copy_ #[dT, sT] ty #[.slice (some ⟨g, o, none⟩) dLen dCap, .slice (some ⟨g2, o2, none⟩) sLen sCap]).run P w =
      .ok (goInt (Nat.min sLen dLen)) (w.setRow g (over cur o cs)) := by
  have hl := run_loadCells_list (P := P) w ⟨g2, o2, none⟩ cs.toList (fun j v hv => by
      rw [add_at]
      have hj : j < cs.size := by
        have := (List.getElem?_eq_some_iff.1 hv).1
        simpa using this
      rw [hsrc j hj]
      simpa using hv)
  have hst := run_storeCells_at P g o t cs.toList 0 cur w hg (by simpa using hfit) (fun v hv => (Array.all_eq_true_iff_forall_mem.1 h1) v (by simpa using hv))
  rw [Array.length_toList, Array.toArray_toList] at hl
  cases hq : P.info? elem with
  | none => simp [hq] at hs
  | some i =>
    have hi : i.size = size := by simpa [hq] using hs
    simp only [Builtin.copy_, List.getElem?_toArray, List.getElem?_cons_zero, List.getElem?_cons_succ, Sem.run_bind, run_underlying hu, Result.andThen_ok, Builtin.lenOf, Builtin.firstCells, sizeOf, typeInfo, run_program, hq, hi, Sem.run_pure, ← hn, hl, hst]
    simp [over]

theorem step_copy_seg {ops : Array Oper} {op : Oper} {a : Act} {w : World} {K : Act → World → Prop} {Q : Exit → Act → World → Prop} {E : Prop}
    (hgd : op.guard = none) (x y : Operand) (t1 : TypeId) (hop : op.op = Op.call { callee := Callee.builtin Builtin.copy, args := #[x, y], argTypes := #[t1, t1] })
    (elem : TypeId) (size g o dLen dCap g2 o2 sLen sCap : Nat) (cur cs : Array Value) (t : TypeId)
    (hx : a.eval x = .slice (some ⟨g, o, none⟩) dLen dCap) (hy : a.eval y = .slice (some ⟨g2, o2, none⟩) sLen sCap)
    (hu : P.underlying t1 = some (.slice elem)) (hs : (P.info? elem).map (·.size) = some size)
    (hg : w.heap[g]? = some (.cells cur t (0, 0))) (hn : cs.size = Nat.min sLen dLen * size) (hsrc : Seg w g2 o2 cs) (hfit : o + cs.size ≤ cur.size) (h1 : cs.all (·.oneCell') = true)
    (hK : K (a.put op.dst (goInt (Nat.min sLen dLen))) (w.setRow g (over cur o cs))) :
    if Region.wanted op (yielded ops a.tmps) = true then Oper.wp P op a w K Q else E := by
  have hw : Region.wanted op (yielded ops a.tmps) = true := by simp [Region.wanted, hgd]
  rw [if_pos hw]
  have hrun := run_copy_seg (P := P) w t1 t1 op.type elem size g o dLen dCap g2 o2 sLen sCap cur cs t hu hs hg hn hsrc hfit h1
  unfold Oper.wp
  simp [execOp, hop, resolve, invoke, builtin, hx, hy, hrun, Result.andThen]
  exact hK

/-! internal/bytealg.Compare on two rows of bytes -/
theorem run_loadBytes_bv (w : World) : ∀ (l : List UInt8) (a : Addr) (acc : ByteArray), (∀ j x, l[j]? = some x → w.cell? (a.add j) = some (.int .u8 (x.toNat : Int))) →
    (Extern.Bytes.loadBytes a l.length acc).run P w = .ok ⟨acc.data ++ l.toArray⟩ w
  | [], a, acc, _ => by simp [Extern.Bytes.loadBytes]
  | x :: l, a, acc, h => by
    have h0 : w.cell? a = some (.int .u8 (x.toNat : Int)) := by
      have := h 0 x rfl
      simpa [Addr.add] using this
    have ih := run_loadBytes_bv w l (a.add 1) (acc.push x) (fun j y hy => by
      have := h (j + 1) y (by simpa using hy)
      have e : (a.add 1).add j = a.add (j + 1) := by
        unfold Addr.add
        by_cases hj : j = 0
        · subst hj; simp
        · simp [hj]; omega
      rw [e]; exact this)
    have hx : ((x.toNat : Int).toNat).toUInt8 = x := by simp
    simp only [List.length_cons, Extern.Bytes.loadBytes, Sem.run_bind, run_load, h0, Result.andThen, hx, ih]
    congr 2
    apply Array.ext'
    simp [ByteArray.push]

theorem run_compare_bv (w : World) (a b : List UInt8) (g1 g2 o1 o2 c1 c2 : Nat) (h1 : Seg w g1 o1 (bv a)) (h2 : Seg w g2 o2 (bv b)) :
    (Extern.BytealgCompare.compare #[.slice (some ⟨g1, o1, none⟩) a.length c1, .slice (some ⟨g2, o2, none⟩) b.length c2]).run P w = .ok (.int .i64 (Lib.compareBytes a b)) w := by
  have key : ∀ (l : List UInt8) (g o : Nat), Seg w g o (bv l) → ∀ j x, l[j]? = some x → w.cell? ((⟨g, o, none⟩ : Addr).add j) = some (.int .u8 (x.toNat : Int)) := by
    intro l g o h j x hx
    have hj := (List.getElem?_eq_some_iff.1 hx).1
    rw [add_at, h j (by rw [bv_size]; exact hj), bv_get l j hj]
    simp [List.getD, hx]
  change Sem.run P (do pure (goInt (Extern.BytealgCompare.cmp (← Extern.Bytes.bytesOf (.slice (some ⟨g1, o1, none⟩) a.length c1)) (← Extern.Bytes.bytesOf (.slice (some ⟨g2, o2, none⟩) b.length c2))))) w = _
  simp only [Extern.Bytes.bytesOf, Sem.run_bind, run_loadBytes_bv w a _ _ (key a g1 o1 h1), run_loadBytes_bv w b _ _ (key b g2 o2 h2), Result.andThen_ok, Sem.run_pure, Lib.cmp_eq]
  simp [goInt, ByteArray.empty, ByteArray.emptyWithCapacity]
  rfl

/-! '==' on arrays of bytes -/
theorem part_bv (w : World) (e : TypeId) (he : P.underlying e = some (.int .u8)) (a : List UInt8) (i : Nat) (h : i < a.length) :
    (part e (bv a) i).run P w = .ok (.int .u8 ((a.getD i 0).toNat : Int)) w := by
  have hagg : (isAgg e).run P w = .ok false w := by
    unfold isAgg
    rw [Sem.run_bind, run_underlying he w]
    rfl
  unfold part
  simp only [Sem.run_bind, hagg, Result.andThen_ok, Bool.false_eq_true, if_false, bv_get a i h]
  rfl

theorem eq_loop (w : World) (d : Nat) (e : TypeId) (he : P.underlying e = some (.int .u8)) (a b : List UInt8) (hab : a.length = b.length) : ∀ (n i : Nat), i + n = a.length →
    (∀ j, j < i → a.getD j 0 = b.getD j 0) →
    ((forIn (List.range' i n 1) ((none, ()) : Option Bool × Unit) fun i _ => do
        let x ← part e (bv a) (i * 1)
        let y ← part e (bv b) (i * 1)
        let c ← Op.equalIn (d + 1) e x y
        if (!c) = true then pure (ForInStep.done (some false, ())) else pure (ForInStep.yield (none, ()))).run P w) =
      .ok (if a = b then (none, ()) else (some false, ())) w
  | 0, i, hi, hpre => by
    have e : a = b := by
      apply List.ext_getElem?
      intro j
      by_cases hj : j < a.length
      · have := hpre j (by omega)
        have hj' : j < b.length := by omega
        simp only [List.getD, List.getElem?_eq_getElem hj, List.getElem?_eq_getElem hj', Option.getD_some] at this
        simp [List.getElem?_eq_getElem hj, List.getElem?_eq_getElem hj', this]
      · rw [List.getElem?_eq_none (by omega), List.getElem?_eq_none (by omega)]
    simp [e]
  | n + 1, i, hi, hpre => by
    rw [List.range'_succ, List.forIn_cons]
    simp only [Nat.mul_one, Sem.run_bind, part_bv w e he a i (by omega), part_bv w e he b i (by omega), Result.andThen_ok, run_equalIn_int w d e .u8 .u8 _ _ he]
    by_cases hc : a.getD i 0 = b.getD i 0
    · have ih := eq_loop w d e he a b hab n (i + 1) (by omega) (fun j hj => by
        rcases Nat.lt_succ_iff_lt_or_eq.1 hj with h | rfl
        · exact hpre j h
        · exact hc)
      simp only [Nat.mul_one] at ih
      simp only [hc, beq_self_eq_true, Bool.not_true, Bool.false_eq_true, if_false, Sem.run_pure, Result.andThen_ok]
      exact ih
    · have hne : a ≠ b := fun h => hc (by rw [h])
      have hb : ((((a.getD i 0).toNat : Int) == ((b.getD i 0).toNat : Int))) = false := by
        rw [beq_eq_false_iff_ne]
        intro h
        exact hc (UInt8.toNat_inj.1 (by omega))
      simp only [hb, hne, Bool.not_false, if_true, if_false, Sem.run_pure, Result.andThen_ok]

theorem equalIn_bv (w : World) (d : Nat) (t e : TypeId) (n : Nat) (ht : P.underlying t = some (.array n e)) (he : P.underlying e = some (.int .u8)) (hs : (P.info? e).map (·.size) = some 1)
    (a b : List UInt8) (ha : a.length = n) (hb : b.length = n) :
    (Op.equalIn (d + 2) t (.agg (bv a)) (.agg (bv b))).run P w = .ok (decide (a = b)) w := by
  cases hq : P.info? e with
  | none => simp [hq] at hs
  | some i =>
    have hsz : i.size = 1 := by simpa [hq] using hs
    have hl := eq_loop (P := P) w d e he a b (by omega) n 0 (by omega) (fun j hj => absurd hj (Nat.not_lt_zero _))
    rw [Op.equalIn]
    simp only [Sem.run_bind, run_underlying ht, Result.andThen_ok, sizeOf, typeInfo, run_program, hq, Sem.run_pure, hsz]
    rw [Std.Legacy.Range.forIn_eq_forIn_range']
    simp only [Std.Legacy.Range.size, Nat.sub_zero, Nat.add_sub_cancel, Nat.div_one]
    rw [hl]
    by_cases h : a = b <;> simp [h]
end
end Go.Proofs.Qxb6612204a
