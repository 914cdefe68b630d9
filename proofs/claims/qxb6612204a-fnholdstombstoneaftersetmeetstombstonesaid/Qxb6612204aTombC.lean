import Derived.Test.Qxb6612204aTombB
namespace Go.Proofs.Qxb6612204a
open Go.RowKit Plain
set_option linter.unusedVariables false
set_option linter.unusedSimpArgs false

theorem eqg22 : Try.prog.eqGuardType Try.prog.depth 22 = false := by kernel_rfl
theorem eqg24 : Try.prog.eqGuardType Try.prog.depth 24 = false := by kernel_rfl
theorem eqg26 : Try.prog.eqGuardType Try.prog.depth 26 = false := by kernel_rfl
theorem in24' (d : Nat) (a b : Int) (w : World) : (Op.equalIn (d + 2) 24 (.agg #[.int .u64 a, .int .u64 b]) (.agg #[.int .u64 a, .int .u64 b])).run Try.prog w = .ok true w := by
  have hs : (sizeOf 23).run Try.prog w = .ok 1 w := by kernel_rfl
  simp [Op.equalIn, run_underlying Try.underlying24, run_underlying Try.underlying23, hs, Std.Legacy.Range.forIn_eq_forIn_range', Std.Legacy.Range.size, List.range', go_sem]
theorem in24 (a b : Int) (w : World) : (Op.equalIn 10000 24 (.agg #[.int .u64 a, .int .u64 b]) (.agg #[.int .u64 a, .int .u64 b])).run Try.prog w = .ok true w := in24' 9998 a b w
theorem nil26' (d : Nat) (a : Addr) (w : World) : (Op.equalIn (d + 1) 26 (.pointer (some a)) (.pointer none)).run Try.prog w = .ok false w := by simp [Op.equalIn, run_underlying Try.underlying26]
theorem nil26 (a : Addr) (w : World) : (Op.equalIn 10000 26 (.pointer (some a)) (.pointer none)).run Try.prog w = .ok false w := nil26' 9999 a w
theorem nn26' (d : Nat) (w : World) : (Op.equalIn (d + 1) 26 (.pointer none) (.pointer none)).run Try.prog w = .ok true w := by simp [Op.equalIn, run_underlying Try.underlying26]
theorem nn26 (w : World) : (Op.equalIn 10000 26 (.pointer none) (.pointer none)).run Try.prog w = .ok true w := nn26' 9999 w
theorem eql26_nil (a : Addr) (w : World) : (binOp .eql 26 (.pointer (some a)) (.pointer none)).run Try.prog w = .ok (.bool false) w := by
  simp only [binOp]
  simp [Op.equal, Op.maxDepth, nil26 a w]
theorem eql26_nn (w : World) : (binOp .eql 26 (.pointer none) (.pointer none)).run Try.prog w = .ok (.bool true) w := by
  simp only [binOp]
  simp [Op.equal, Op.maxDepth, nn26 w]
theorem info5c : (Try.prog.info? 5).map (·.size) = some 1 := by kernel_rfl
theorem info24 : (Try.prog.info? 24).map (·.size) = some 2 := by kernel_rfl
theorem in22 (a : List UInt8) (ha : a.length = 1024) (w : World) : (Op.equalIn 10000 22 (.agg (bv a)) (.agg (bv a))).run Try.prog w = .ok true w := by
  rw [equalIn_bv (P := Try.prog) w 9998 22 5 1024 Try.underlying22 Try.underlying5 info5c _ _ ha ha]; simp

theorem wpList_load_want {P : Program} {ops : Array Oper} {rest : List Oper} {o : Oper} {a : Act} {w : World} {Q : Exit → Act → World → Prop} (hw : Region.wanted o (yielded ops a.tmps) = true) (ty : TypeId) (x : Operand) (ho : o.op = .load ty x)
    (g off : Nat) (hx : a.eval x = .pointer (some ⟨g, off, none⟩)) (cs : Array Value) (d : TypeDesc) (hg : Seg w g off cs)
    (hu : P.underlying ty = some d) (hd : (match d with | .struct _ | .array _ _ => true | _ => false) = true) (hi : (P.info? ty).map (·.size) = some cs.size)
    (h : wpList P ops Q rest (a.put o.dst (.agg cs)) w) : wpList P ops Q (o :: rest) a w :=
  BigFrame.wpList_want hw fun _ hK => wp_load_seg ty x ho g off hx cs d hg hu hd hi (hK _ _ h)

set_option maxRecDepth 10000 in
set_option maxHeartbeats 1000000 in
theorem tombIs_t3 (p s : Nat) (T R : List UInt8) (q0 q1 n E : Int) (w0 w : World) (hT : T.length = 1024) (hR : R.length = 1024) (hb : Below w0.heap.size w0 w)
    (a0 : w.heap[p]? = some (.cells (bv T) 22)) (a1 : w.heap[p + 1]? = some (.cells (bv R) 22)) (a2 : w.heap[p + 2]? = some (.cells #[.int .u64 q0, .int .u64 q1] 24))
    (b0 : w.heap[s]? = some (.cells (bv T) 22)) (b1 : w.heap[s + 1]? = some (.cells (bv R) 22)) (b2 : w.heap[s + 2]? = some (.cells #[.int .u64 q0, .int .u64 q1] 24))
    {u0 u1 u2 u3 u6 u10 u11 u12 u18 u19 u20 u21 u22 u23 u24 u25 u26 u27 u28 u29 u30 u31 u32 u33 u34 u35 u36 u37 u38 u39 u40 u41 u42 u43 u44 u45 u46 u47 u48 u49 u50 : Value} (Q : Exit → Act → World → Prop) (hQ : Q = bodyPost Try.prog Try.f15 fun e w' => e = .returned (.bool true) ∧ Below w0.heap.size w0 w') :
    Code.wp Try.prog (tl 3 (Try.f15.body.getD .skip)) Q ⟨#[u0, u1, u2, u3, .int .i64 n, .int .u64 E, u6, .pointer (some ⟨p, 0, none⟩), .pointer (some ⟨p + 1, 0, none⟩), .pointer (some ⟨p + 2, 0, none⟩), u10, u11, u12, .pointer (some ⟨s, 0, none⟩), .pointer (some ⟨s + 1, 0, none⟩), .pointer (some ⟨s + 2, 0, none⟩), .int .i64 n, .int .u64 E, u18, u19, u20, u21, u22, u23, u24, u25, u26, u27, u28, u29, u30, u31, u32, u33, u34, u35, u36, u37, u38, u39, u40, u41, u42, u43, u44, u45, u46, u47, u48, u49, u50], []⟩ w := by
  delta Try.f15
  dsimp only [tl, Option.getD_some]
  have A0 : Hid _ := seg_row a0
  have A1 : Hid _ := seg_row a1
  have A2 : Hid _ := seg_row a2
  have B0 : Hid _ := seg_row b0
  have B1 : Hid _ := seg_row b1
  have B2 : Hid _ := seg_row b2
  have HB : Hid _ := hb
  have heg := eqg22
  have heg24 := eqg24
  have e22T : ∀ w, (Op.equalIn 10000 22 (.agg (bv T)) (.agg (bv T))).run Try.prog w = .ok true w := in22 T hT
  have e22R : ∀ w, (Op.equalIn 10000 22 (.agg (bv R)) (.agg (bv R))).run Try.prog w = .ok true w := in22 R hR
  have e24 : ∀ w, (Op.equalIn 10000 24 (.agg #[.int .u64 q0, .int .u64 q1]) (.agg #[.int .u64 q0, .int .u64 q1])).run Try.prog w = .ok true w := in24 q0 q1
  clear a0 a1 a2 b0 b1 b2 hb
  subst hQ
  go_wp2_with (first
    | (refine wpList_load_seg rfl 22 (.tmp 13) rfl _ _ rfl (bv T) _ (by exact B0.out) Try.underlying22 rfl (by rw [Try.info22, bv_size, hT]) ?_; simp only [Act.put, List.setIfInBounds_toArray, List.set_cons_succ, List.set_cons_zero])
    | (refine wpList_load_seg rfl 22 (.tmp 7) rfl _ _ rfl (bv T) _ (by exact A0.out) Try.underlying22 rfl (by rw [Try.info22, bv_size, hT]) ?_; simp only [Act.put, List.setIfInBounds_toArray, List.set_cons_succ, List.set_cons_zero])
    | (refine wpList_load_want (by rfl) 22 (.tmp 14) rfl _ _ rfl (bv R) _ (by exact B1.out) Try.underlying22 rfl (by rw [Try.info22, bv_size, hR]) ?_; simp only [Act.put, List.setIfInBounds_toArray, List.set_cons_succ, List.set_cons_zero])
    | (refine wpList_load_want (by rfl) 22 (.tmp 8) rfl _ _ rfl (bv R) _ (by exact A1.out) Try.underlying22 rfl (by rw [Try.info22, bv_size, hR]) ?_; simp only [Act.put, List.setIfInBounds_toArray, List.set_cons_succ, List.set_cons_zero])
    | (refine wpList_load_want (by rfl) 24 (.tmp 15) rfl _ _ rfl #[.int .u64 q0, .int .u64 q1] _ (by exact B2.out) Try.underlying24 rfl info24 ?_; simp only [Act.put, List.setIfInBounds_toArray, List.set_cons_succ, List.set_cons_zero])
    | (refine wpList_load_want (by rfl) 24 (.tmp 9) rfl _ _ rfl #[.int .u64 q0, .int .u64 q1] _ (by exact A2.out) Try.underlying24 rfl info24 ?_; simp only [Act.put, List.setIfInBounds_toArray, List.set_cons_succ, List.set_cons_zero]))
  go_ret
  exact ⟨rfl, HB.out⟩
end Go.Proofs.Qxb6612204a
