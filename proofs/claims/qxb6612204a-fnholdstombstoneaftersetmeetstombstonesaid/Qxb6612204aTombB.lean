import Derived.Test.Qxb6612204aTombA
namespace Go.Proofs.Qxb6612204a
open Go.RowKit Plain
set_option linter.unusedVariables false
set_option linter.unusedSimpArgs false

theorem yields_cell {P : Program} {ops : Array Oper} {S : World → Prop} {op : Oper} {a : Act} (hw : Region.wanted op (yielded ops a.tmps) = true) (ty : TypeId) (x : Operand) (ho : op.op = .load ty x)
    (b o : Nat) (hx : a.eval x = .pointer (some ⟨b, o, none⟩)) (v : Value) (hS : ∀ w, S w → w.cell? ⟨b, o, none⟩ = some v) {d : TypeDesc}
    (hu : P.underlying ty = some d) (hd : (match d with | .struct _ | .array _ _ => true | _ => false) = false) : YieldsIf P ops S op v a :=
  .inl ⟨hw, fun w hw' => by
    have hc := hS w hw'
    have hagg : (isAgg ty).run P w = .ok false w := by
      unfold isAgg
      rw [Sem.run_bind, run_underlying hu w]
      cases d <;> simp_all
    unfold execOp
    simp [ho, hx, Instr.loadAt, Instr.sureAddr, loadVar, Sem.run_bind, hagg, hc]⟩

/-- what stays of the tombstone while its fields are read out -/
structure TbS (g o : Nat) (T R : List UInt8) (q0 q1 n E : Int) (w : World) : Prop where
  t : w.rangeAt g o (bv T).toList
  r : w.rangeAt g (o + 1024) (bv R).toList
  f : w.rangeAt g (o + 2048) [.int .u64 q0, .int .u64 q1]
  n : w.cell? ⟨g, o + 2048 + 2, none⟩ = some (.int .i64 n)
  e : w.cell? ⟨g, o + 2051, none⟩ = some (.int .u64 E)
  lt : g < w.heap.size

theorem TbS.of_block {g o : Nat} {T R : List UInt8} {q0 q1 n E : Int} {w w' : World} (h : TbS g o T R q0 q1 n E w) (hb : w'.heap[g]? = w.heap[g]?) : TbS g o T R q0 q1 n E w' := by
  have hc : ∀ k, w'.cell? ⟨g, k, none⟩ = w.cell? ⟨g, k, none⟩ := fun k => World.cell?_of_block (a := ⟨g, k, none⟩) (w := w) hb
  refine ⟨fun j v hv => (hc _).trans (h.t j v hv), fun j v hv => (hc _).trans (h.r j v hv), fun j v hv => (hc _).trans (h.f j v hv), (hc _).trans h.n, (hc _).trans h.e, ?_⟩
  rw [Array.getElem?_eq_getElem h.lt] at hb
  exact (Array.getElem?_eq_some_iff.1 hb).1

set_option maxRecDepth 10000 in
set_option maxHeartbeats 4000000 in
theorem tombFields_any (g o : Nat) (T R : List UInt8) (q0 q1 n E : Int) (w : World) (hT : T.length = 1024) (hR : R.length = 1024) (hS : TbS g o T R q0 q1 n E w) :
    Calls Try.prog 43 #[.pointer (some ⟨g, o, none⟩)] w fun e w' => e = .returned (.tuple #[.agg (bv T), .agg (bv R), .agg #[.int .u64 q0, .int .u64 q1], .int .i64 n, .int .u64 E]) ∧ Below w.heap.size w w' := by
  obtain ⟨z, hz⟩ : ∃ z, z = zeros := ⟨_, rfl⟩
  have lz : z.length = 1024 := by rw [hz, zeros_len]
  have z22 : (Try.prog.info? 22).map (·.zero) = some (some (.agg (bv z))) := by rw [hz]; exact zero22
  clear hz
  have hiT : (Try.prog.info? 22).map (·.size) = some (bv T).toList.length := by rw [Array.length_toList, bv_size, hT]; exact Try.info22
  have hiR : (Try.prog.info? 22).map (·.size) = some (bv R).toList.length := by rw [Array.length_toList, bv_size, hR]; exact Try.info22
  have HS : Hid _ := hS
  have hlt := hS.lt
  have H3 : Hid _ := heap3 w (.cells (bv z) 22) (.cells (bv z) 22) (.cells #[.int .u64 0, .int .u64 0] 24)
  have HZ22 : Hid _ := z22
  clear hS z22
  go_enter Try.func43, Try.ntmps43
  go_wp2_with (first
    | (refine wpList_alloc_row rfl 22 rfl (.agg (bv z)) HZ22.out ?_; rw [cells_agg]; simp only [Act.put, List.setIfInBounds_toArray, List.set_cons_succ, List.set_cons_zero]))
  have R0 := H3.out.1
  have R1 := H3.out.2.1
  have R2 := H3.out.2.2
  have hB1 : Below w.heap.size w (((w.alloc (.cells (bv z) 22)).alloc (.cells (bv z) 22)).alloc (.cells #[.int .u64 0, .int .u64 0] 24)) := (((Below.refl _ _).alloc (Nat.le_refl _) _).alloc (by simp) _).alloc (by simp; omega) _
  have hS1 : TbS g o T R q0 q1 n E (((w.alloc (.cells (bv z) 22)).alloc (.cells (bv z) 22)).alloc (.cells #[.int .u64 0, .int .u64 0] 24)) := HS.out.of_block (hB1.block _ hlt)
  clear H3 HS HZ22
  generalize ((w.alloc (.cells (bv z) 22)).alloc (.cells (bv z) 22)).alloc (.cells #[.int .u64 0, .int .u64 0] 24) = w1 at R0 R1 R2 hB1 hS1 ⊢
  obtain ⟨p, hp⟩ : ∃ p, p = w.heap.size := ⟨_, rfl⟩
  have n0 : g ≠ p := by omega
  have n1 : g ≠ p + 1 := by omega
  have n2 : g ≠ p + 2 := by omega
  have e3 : (w.alloc (.cells (bv z) 22)).heap.size = w.heap.size + 1 := by simp
  rw [e3]
  rw [← hp] at R0 R1 R2 hB1 ⊢
  clear e3
  have HB1 : Hid _ := hB1
  have HS1 : Hid _ := hS1
  have HR0 : Hid _ := R0
  have HR1 : Hid _ := R1
  have HR2 : Hid _ := R2
  have HP : Hid (p = w.heap.size) := hp
  rename_i K1 aK1
  have HK : Hid (∀ a w, _ → K1 a w) := aK1
  clear aK1 R0 R1 R2 hB1 hS1 hp hlt
  refine wp_region_held_drew (S := TbS g o T R q0 q1 n E) Try.follows (HS1.out.of_block rfl) (fun hHeld => ?_)
  refine wpAnyH_take (i := 0) (oi := { dst := some 7, op := .move (.tmp 0), type := 26, pos := "zzexport.go:16", after := #[], guard := none }) rfl (by kernel_rfl) (by kernel_rfl) (by kernel_rfl) (fun _ _ _ h => h) (show YieldsIf Try.prog _ _ _ (.pointer (some ⟨g, o, none⟩)) _ from Or.inl ⟨by rfl, fun w _ => by rfl⟩) hHeld ?_
  simp only [Act.put, List.setIfInBounds_toArray, List.set_cons_succ, List.set_cons_zero, Array.toArray_toList]
  refine wpAnyH_take (i := 1) (oi := { dst := some 8, op := .nilCheck (.tmp 7), type := 0, pos := "zzexport.go:16", after := #[⟨0, .data⟩], guard := none }) rfl (by kernel_rfl) (by kernel_rfl) (by kernel_rfl) (fun _ _ _ h => h) (show YieldsIf Try.prog _ _ _ (.pointer (some ⟨g, o, none⟩)) _ from Or.inl ⟨by rfl, fun w _ => by rfl⟩) hHeld ?_
  simp only [Act.put, List.setIfInBounds_toArray, List.set_cons_succ, List.set_cons_zero, Array.toArray_toList]
  refine wpAnyH_take (i := 2) (oi := { dst := some 9, op := .fieldAddr 61 (.tmp 8) 0, type := 0, pos := "zzexport.go:16", after := #[⟨1, .data⟩], guard := none }) rfl (by kernel_rfl) (by kernel_rfl) (by kernel_rfl) (fun _ _ _ h => h) (show YieldsIf Try.prog _ _ _ (.pointer (some ⟨g, o, none⟩)) _ from Or.inl ⟨by kernel_rfl, fun w _ => by kernel_rfl⟩) hHeld ?_
  simp only [Act.put, List.setIfInBounds_toArray, List.set_cons_succ, List.set_cons_zero, Array.toArray_toList]
  refine wpAnyH_take (i := 3) (oi := { dst := some 10, op := .fieldAddr 57 (.tmp 9) 0, type := 0, pos := "zzexport.go:16", after := #[⟨2, .data⟩], guard := none }) rfl (by kernel_rfl) (by kernel_rfl) (by kernel_rfl) (fun _ _ _ h => h) (show YieldsIf Try.prog _ _ _ (.pointer (some ⟨g, o, none⟩)) _ from Or.inl ⟨by kernel_rfl, fun w _ => by kernel_rfl⟩) hHeld ?_
  simp only [Act.put, List.setIfInBounds_toArray, List.set_cons_succ, List.set_cons_zero, Array.toArray_toList]
  refine wpAnyH_take (i := 4) (oi := { dst := some 11, op := .load 22 (.tmp 10), type := 22, pos := "zzexport.go:16", after := #[⟨3, .data⟩], guard := none }) rfl (by kernel_rfl) (by kernel_rfl) (by kernel_rfl) (fun _ _ _ h => h) (yieldsIf_load_mid (by rfl) 22 (.tmp 10) rfl g (o) rfl (bv T).toList _ (fun w h => h.t) Try.underlying22 rfl hiT) hHeld ?_
  simp only [Act.put, List.setIfInBounds_toArray, List.set_cons_succ, List.set_cons_zero, Array.toArray_toList]
  refine wpAnyH_take (i := 5) (oi := { dst := some 12, op := .move (.tmp 0), type := 26, pos := "zzexport.go:16", after := #[⟨24, .gcOnly .lateStores⟩], guard := none }) rfl (by kernel_rfl) (by kernel_rfl) (by kernel_rfl) (fun _ _ _ h => h) (show YieldsIf Try.prog _ _ _ (.pointer (some ⟨g, o, none⟩)) _ from Or.inl ⟨by rfl, fun w _ => by rfl⟩) hHeld ?_
  simp only [Act.put, List.setIfInBounds_toArray, List.set_cons_succ, List.set_cons_zero, Array.toArray_toList]
  refine wpAnyH_take (i := 6) (oi := { dst := some 13, op := .nilCheck (.tmp 12), type := 0, pos := "zzexport.go:16", after := #[⟨5, .data⟩, ⟨24, .gcOnly .lateStores⟩], guard := none }) rfl (by kernel_rfl) (by kernel_rfl) (by kernel_rfl) (fun _ _ _ h => h) (show YieldsIf Try.prog _ _ _ (.pointer (some ⟨g, o, none⟩)) _ from Or.inl ⟨by rfl, fun w _ => by rfl⟩) hHeld ?_
  simp only [Act.put, List.setIfInBounds_toArray, List.set_cons_succ, List.set_cons_zero, Array.toArray_toList]
  refine wpAnyH_take (i := 7) (oi := { dst := some 14, op := .fieldAddr 61 (.tmp 13) 1, type := 0, pos := "zzexport.go:16", after := #[⟨6, .data⟩, ⟨24, .gcOnly .lateStores⟩], guard := none }) rfl (by kernel_rfl) (by kernel_rfl) (by kernel_rfl) (fun _ _ _ h => h) (show YieldsIf Try.prog _ _ _ (.pointer (some ⟨g, o + 1024, none⟩)) _ from Or.inl ⟨by kernel_rfl, fun w _ => by kernel_rfl⟩) hHeld ?_
  simp only [Act.put, List.setIfInBounds_toArray, List.set_cons_succ, List.set_cons_zero, Array.toArray_toList]
  refine wpAnyH_take (i := 8) (oi := { dst := some 15, op := .fieldAddr 57 (.tmp 14) 0, type := 0, pos := "zzexport.go:16", after := #[⟨7, .data⟩, ⟨24, .gcOnly .lateStores⟩], guard := none }) rfl (by kernel_rfl) (by kernel_rfl) (by kernel_rfl) (fun _ _ _ h => h) (show YieldsIf Try.prog _ _ _ (.pointer (some ⟨g, o + 1024, none⟩)) _ from Or.inl ⟨by kernel_rfl, fun w _ => by kernel_rfl⟩) hHeld ?_
  simp only [Act.put, List.setIfInBounds_toArray, List.set_cons_succ, List.set_cons_zero, Array.toArray_toList]
  refine wpAnyH_take (i := 9) (oi := { dst := some 16, op := .load 22 (.tmp 15), type := 22, pos := "zzexport.go:16", after := #[⟨8, .data⟩, ⟨24, .gcOnly .lateStores⟩], guard := none }) rfl (by kernel_rfl) (by kernel_rfl) (by kernel_rfl) (fun _ _ _ h => h) (yieldsIf_load_mid (by rfl) 22 (.tmp 15) rfl g (o + 1024) rfl (bv R).toList _ (fun w h => h.r) Try.underlying22 rfl hiR) hHeld ?_
  simp only [Act.put, List.setIfInBounds_toArray, List.set_cons_succ, List.set_cons_zero, Array.toArray_toList]
  refine wpAnyH_take (i := 10) (oi := { dst := some 17, op := .move (.tmp 0), type := 26, pos := "zzexport.go:16", after := #[⟨25, .gcOnly .lateStores⟩], guard := none }) rfl (by kernel_rfl) (by kernel_rfl) (by kernel_rfl) (fun _ _ _ h => h) (show YieldsIf Try.prog _ _ _ (.pointer (some ⟨g, o, none⟩)) _ from Or.inl ⟨by rfl, fun w _ => by rfl⟩) hHeld ?_
  simp only [Act.put, List.setIfInBounds_toArray, List.set_cons_succ, List.set_cons_zero, Array.toArray_toList]
  refine wpAnyH_take (i := 11) (oi := { dst := some 18, op := .nilCheck (.tmp 17), type := 0, pos := "zzexport.go:16", after := #[⟨10, .data⟩, ⟨25, .gcOnly .lateStores⟩], guard := none }) rfl (by kernel_rfl) (by kernel_rfl) (by kernel_rfl) (fun _ _ _ h => h) (show YieldsIf Try.prog _ _ _ (.pointer (some ⟨g, o, none⟩)) _ from Or.inl ⟨by rfl, fun w _ => by rfl⟩) hHeld ?_
  simp only [Act.put, List.setIfInBounds_toArray, List.set_cons_succ, List.set_cons_zero, Array.toArray_toList]
  refine wpAnyH_take (i := 12) (oi := { dst := some 19, op := .fieldAddr 61 (.tmp 18) 2, type := 0, pos := "zzexport.go:16", after := #[⟨11, .data⟩, ⟨25, .gcOnly .lateStores⟩], guard := none }) rfl (by kernel_rfl) (by kernel_rfl) (by kernel_rfl) (fun _ _ _ h => h) (show YieldsIf Try.prog _ _ _ (.pointer (some ⟨g, o + 2048, none⟩)) _ from Or.inl ⟨by kernel_rfl, fun w _ => by kernel_rfl⟩) hHeld ?_
  simp only [Act.put, List.setIfInBounds_toArray, List.set_cons_succ, List.set_cons_zero, Array.toArray_toList]
  refine wpAnyH_take (i := 13) (oi := { dst := some 20, op := .fieldAddr 59 (.tmp 19) 0, type := 0, pos := "zzexport.go:16", after := #[⟨12, .data⟩, ⟨25, .gcOnly .lateStores⟩], guard := none }) rfl (by kernel_rfl) (by kernel_rfl) (by kernel_rfl) (fun _ _ _ h => h) (show YieldsIf Try.prog _ _ _ (.pointer (some ⟨g, o + 2048, none⟩)) _ from Or.inl ⟨by kernel_rfl, fun w _ => by kernel_rfl⟩) hHeld ?_
  simp only [Act.put, List.setIfInBounds_toArray, List.set_cons_succ, List.set_cons_zero, Array.toArray_toList]
  refine wpAnyH_take (i := 14) (oi := { dst := some 21, op := .load 24 (.tmp 20), type := 24, pos := "zzexport.go:16", after := #[⟨13, .data⟩, ⟨25, .gcOnly .lateStores⟩], guard := none }) rfl (by kernel_rfl) (by kernel_rfl) (by kernel_rfl) (fun _ _ _ h => h) (yieldsIf_load_mid (by rfl) 24 (.tmp 20) rfl g (o + 2048) rfl [.int .u64 q0, .int .u64 q1] _ (fun w h => h.f) Try.underlying24 rfl (by kernel_rfl)) hHeld ?_
  simp only [Act.put, List.setIfInBounds_toArray, List.set_cons_succ, List.set_cons_zero, Array.toArray_toList]
  refine wpAnyH_take (i := 15) (oi := { dst := some 22, op := .move (.tmp 0), type := 26, pos := "zzexport.go:16", after := #[⟨26, .gcOnly .lateStores⟩], guard := none }) rfl (by kernel_rfl) (by kernel_rfl) (by kernel_rfl) (fun _ _ _ h => h) (show YieldsIf Try.prog _ _ _ (.pointer (some ⟨g, o, none⟩)) _ from Or.inl ⟨by rfl, fun w _ => by rfl⟩) hHeld ?_
  simp only [Act.put, List.setIfInBounds_toArray, List.set_cons_succ, List.set_cons_zero, Array.toArray_toList]
  refine wpAnyH_take (i := 16) (oi := { dst := some 23, op := .nilCheck (.tmp 22), type := 0, pos := "zzexport.go:16", after := #[⟨15, .data⟩, ⟨26, .gcOnly .lateStores⟩], guard := none }) rfl (by kernel_rfl) (by kernel_rfl) (by kernel_rfl) (fun _ _ _ h => h) (show YieldsIf Try.prog _ _ _ (.pointer (some ⟨g, o, none⟩)) _ from Or.inl ⟨by rfl, fun w _ => by rfl⟩) hHeld ?_
  simp only [Act.put, List.setIfInBounds_toArray, List.set_cons_succ, List.set_cons_zero, Array.toArray_toList]
  refine wpAnyH_take (i := 17) (oi := { dst := some 24, op := .fieldAddr 61 (.tmp 23) 2, type := 0, pos := "zzexport.go:16", after := #[⟨16, .data⟩, ⟨26, .gcOnly .lateStores⟩], guard := none }) rfl (by kernel_rfl) (by kernel_rfl) (by kernel_rfl) (fun _ _ _ h => h) (show YieldsIf Try.prog _ _ _ (.pointer (some ⟨g, o + 2048, none⟩)) _ from Or.inl ⟨by kernel_rfl, fun w _ => by kernel_rfl⟩) hHeld ?_
  simp only [Act.put, List.setIfInBounds_toArray, List.set_cons_succ, List.set_cons_zero, Array.toArray_toList]
  refine wpAnyH_take (i := 18) (oi := { dst := some 25, op := .fieldAddr 59 (.tmp 24) 1, type := 0, pos := "zzexport.go:16", after := #[⟨17, .data⟩, ⟨26, .gcOnly .lateStores⟩], guard := none }) rfl (by kernel_rfl) (by kernel_rfl) (by kernel_rfl) (fun _ _ _ h => h) (show YieldsIf Try.prog _ _ _ (.pointer (some ⟨g, o + 2048 + 2, none⟩)) _ from Or.inl ⟨by kernel_rfl, fun w _ => by kernel_rfl⟩) hHeld ?_
  simp only [Act.put, List.setIfInBounds_toArray, List.set_cons_succ, List.set_cons_zero, Array.toArray_toList]
  refine wpAnyH_take (i := 19) (oi := { dst := some 26, op := .load 3 (.tmp 25), type := 3, pos := "zzexport.go:16", after := #[⟨18, .data⟩, ⟨26, .gcOnly .lateStores⟩], guard := none }) rfl (by kernel_rfl) (by kernel_rfl) (by kernel_rfl) (fun _ _ _ h => h) (yields_cell (by rfl) 3 (.tmp 25) rfl g (o + 2048 + 2) rfl (.int .i64 n) (fun w h => h.n) Try.underlying3 rfl) hHeld ?_
  simp only [Act.put, List.setIfInBounds_toArray, List.set_cons_succ, List.set_cons_zero, Array.toArray_toList]
  refine wpAnyH_take (i := 20) (oi := { dst := some 27, op := .move (.tmp 0), type := 26, pos := "zzexport.go:16", after := #[⟨27, .gcOnly .lateStores⟩], guard := none }) rfl (by kernel_rfl) (by kernel_rfl) (by kernel_rfl) (fun _ _ _ h => h) (show YieldsIf Try.prog _ _ _ (.pointer (some ⟨g, o, none⟩)) _ from Or.inl ⟨by rfl, fun w _ => by rfl⟩) hHeld ?_
  simp only [Act.put, List.setIfInBounds_toArray, List.set_cons_succ, List.set_cons_zero, Array.toArray_toList]
  refine wpAnyH_take (i := 21) (oi := { dst := some 28, op := .nilCheck (.tmp 27), type := 0, pos := "zzexport.go:16", after := #[⟨20, .data⟩, ⟨27, .gcOnly .lateStores⟩], guard := none }) rfl (by kernel_rfl) (by kernel_rfl) (by kernel_rfl) (fun _ _ _ h => h) (show YieldsIf Try.prog _ _ _ (.pointer (some ⟨g, o, none⟩)) _ from Or.inl ⟨by rfl, fun w _ => by rfl⟩) hHeld ?_
  simp only [Act.put, List.setIfInBounds_toArray, List.set_cons_succ, List.set_cons_zero, Array.toArray_toList]
  refine wpAnyH_take (i := 22) (oi := { dst := some 29, op := .fieldAddr 61 (.tmp 28) 3, type := 0, pos := "zzexport.go:16", after := #[⟨21, .data⟩, ⟨27, .gcOnly .lateStores⟩], guard := none }) rfl (by kernel_rfl) (by kernel_rfl) (by kernel_rfl) (fun _ _ _ h => h) (show YieldsIf Try.prog _ _ _ (.pointer (some ⟨g, o + 2051, none⟩)) _ from Or.inl ⟨by kernel_rfl, fun w _ => by kernel_rfl⟩) hHeld ?_
  simp only [Act.put, List.setIfInBounds_toArray, List.set_cons_succ, List.set_cons_zero, Array.toArray_toList]
  refine wpAnyH_take (i := 23) (oi := { dst := some 30, op := .load 23 (.tmp 29), type := 23, pos := "zzexport.go:16", after := #[⟨22, .data⟩, ⟨27, .gcOnly .lateStores⟩], guard := none }) rfl (by kernel_rfl) (by kernel_rfl) (by kernel_rfl) (fun _ _ _ h => h) (yields_cell (by rfl) 23 (.tmp 29) rfl g (o + 2051) rfl (.int .u64 E) (fun w h => h.e) Try.underlying23 rfl) hHeld ?_
  simp only [Act.put, List.setIfInBounds_toArray, List.set_cons_succ, List.set_cons_zero, Array.toArray_toList]
  have E0 : over (bv z) 0 (bv T) = bv T := over_all _ _ (by rw [bv_size, bv_size, hT, lz])
  have E1 : over (bv z) 0 (bv R) = bv R := over_all _ _ (by rw [bv_size, bv_size, hR, lz])
  have E2 : over #[.int .u64 0, .int .u64 0] 0 #[.int .u64 q0, .int .u64 q1] = #[.int .u64 q0, .int .u64 q1] := over_all _ _ rfl
  refine wpAnyH_ready (rs := [24]) (by kernel_rfl) (by simp) ?_
  refine AllReadyH.cons (o := { dst := none, op := .store 22 (.tmp 2) (.tmp 11), type := 0, pos := "zzexport.go:16", after := #[⟨4, .data⟩, ⟨0, .phase⟩, ⟨1, .phase⟩, ⟨2, .phase⟩, ⟨3, .phase⟩, ⟨4, .phase⟩, ⟨5, .textOnly .lateStores⟩, ⟨6, .textOnly .lateStores⟩, ⟨7, .textOnly .lateStores⟩, ⟨8, .textOnly .lateStores⟩, ⟨9, .textOnly .lateStores⟩, ⟨10, .textOnly .lateStores⟩, ⟨11, .textOnly .lateStores⟩, ⟨12, .textOnly .lateStores⟩, ⟨13, .textOnly .lateStores⟩, ⟨14, .textOnly .lateStores⟩, ⟨15, .textOnly .lateStores⟩, ⟨16, .textOnly .lateStores⟩, ⟨17, .textOnly .lateStores⟩, ⟨18, .textOnly .lateStores⟩, ⟨19, .textOnly .lateStores⟩, ⟨20, .textOnly .lateStores⟩, ⟨21, .textOnly .lateStores⟩, ⟨22, .textOnly .lateStores⟩, ⟨23, .textOnly .lateStores⟩], guard := none }) rfl (fun K hK => ?_) AllReadyH.nil
  rw [if_pos (by rfl)]
  refine wp_store_seg 22 (.tmp 2) (.tmp 11) rfl p 0 (bv T) rfl rfl 22 (bv z) HR0.out (by rw [Try.info22, bv_size, hT]) (by rw [bv_size, bv_size, hT, lz]; omega) (bv_one _) ?_
  rw [E0]
  have A0 : (w1.drew.setRow p (bv T)).heap[p]? = some (.cells (bv T) 22) := setRow_heap _ _ _ _ _ _ HR0.out
  have A1 : (w1.drew.setRow p (bv T)).heap[p + 1]? = some (.cells (bv z) 22) := (setRow_other _ _ _ _ (by omega)).trans HR1.out
  have A2 : (w1.drew.setRow p (bv T)).heap[p + 2]? = some (.cells #[.int .u64 0, .int .u64 0] 24) := (setRow_other _ _ _ _ (by omega)).trans HR2.out
  have AS : TbS g o T R q0 q1 n E (w1.drew.setRow p (bv T)) := hHeld.of_block (setRow_other _ _ _ _ n0)
  have AB : Below p w (w1.drew.setRow p (bv T)) := HB1.out.drew.trans ⟨rfl, rfl, rfl, by simp, fun q hq => setRow_other _ _ _ _ (by omega)⟩
  generalize w1.drew.setRow p (bv T) = w2 at A0 A1 A2 AS AB ⊢
  clear hHeld HR0 HR1 HR2 HB1 HS1
  simp only [Act.put, List.setIfInBounds_toArray, List.set_cons_succ, List.set_cons_zero, Array.toArray_toList]
  refine hK.out _ _ AS (fun hHeld => ?_)
  clear hK K
  refine wpAnyH_ready (rs := [25]) (by kernel_rfl) (by simp) ?_
  refine AllReadyH.cons (o := { dst := none, op := .store 22 (.tmp 3) (.tmp 16), type := 0, pos := "zzexport.go:16", after := #[⟨9, .data⟩, ⟨24, .chain⟩, ⟨0, .phase⟩, ⟨1, .phase⟩, ⟨2, .phase⟩, ⟨3, .phase⟩, ⟨4, .phase⟩, ⟨5, .phase⟩, ⟨6, .phase⟩, ⟨7, .phase⟩, ⟨8, .phase⟩, ⟨9, .phase⟩, ⟨10, .textOnly .lateStores⟩, ⟨11, .textOnly .lateStores⟩, ⟨12, .textOnly .lateStores⟩, ⟨13, .textOnly .lateStores⟩, ⟨14, .textOnly .lateStores⟩, ⟨15, .textOnly .lateStores⟩, ⟨16, .textOnly .lateStores⟩, ⟨17, .textOnly .lateStores⟩, ⟨18, .textOnly .lateStores⟩, ⟨19, .textOnly .lateStores⟩, ⟨20, .textOnly .lateStores⟩, ⟨21, .textOnly .lateStores⟩, ⟨22, .textOnly .lateStores⟩, ⟨23, .textOnly .lateStores⟩, ⟨24, .phase⟩], guard := none }) rfl (fun K hK => ?_) AllReadyH.nil
  rw [if_pos (by rfl)]
  refine wp_store_seg 22 (.tmp 3) (.tmp 16) rfl (p + 1) 0 (bv R) rfl rfl 22 (bv z) A1 (by rw [Try.info22, bv_size, hR]) (by rw [bv_size, bv_size, hR, lz]; omega) (bv_one _) ?_
  rw [E1]
  have B0 : (w2.setRow (p + 1) (bv R)).heap[p]? = some (.cells (bv T) 22) := (setRow_other _ _ _ _ (by omega)).trans A0
  have B1 : (w2.setRow (p + 1) (bv R)).heap[p + 1]? = some (.cells (bv R) 22) := setRow_heap _ _ _ _ _ _ A1
  have B2 : (w2.setRow (p + 1) (bv R)).heap[p + 2]? = some (.cells #[.int .u64 0, .int .u64 0] 24) := (setRow_other _ _ _ _ (by omega)).trans A2
  have BS : TbS g o T R q0 q1 n E (w2.setRow (p + 1) (bv R)) := AS.of_block (setRow_other _ _ _ _ n1)
  have BB : Below p w (w2.setRow (p + 1) (bv R)) := AB.trans ⟨rfl, rfl, rfl, by simp, fun q hq => setRow_other _ _ _ _ (by omega)⟩
  generalize w2.setRow (p + 1) (bv R) = w3 at B0 B1 B2 BS BB ⊢
  clear hHeld A0 A1 A2 AS AB
  simp only [Act.put, List.setIfInBounds_toArray, List.set_cons_succ, List.set_cons_zero, Array.toArray_toList]
  refine hK.out _ _ BS (fun hHeld => ?_)
  clear hK K
  refine wpAnyH_ready (rs := [26]) (by kernel_rfl) (by simp) ?_
  refine AllReadyH.cons (o := { dst := none, op := .store 24 (.tmp 4) (.tmp 21), type := 0, pos := "zzexport.go:16", after := #[⟨14, .data⟩, ⟨25, .chain⟩, ⟨0, .phase⟩, ⟨1, .phase⟩, ⟨2, .phase⟩, ⟨3, .phase⟩, ⟨4, .phase⟩, ⟨5, .phase⟩, ⟨6, .phase⟩, ⟨7, .phase⟩, ⟨8, .phase⟩, ⟨9, .phase⟩, ⟨10, .phase⟩, ⟨11, .phase⟩, ⟨12, .phase⟩, ⟨13, .phase⟩, ⟨14, .phase⟩, ⟨15, .textOnly .lateStores⟩, ⟨16, .textOnly .lateStores⟩, ⟨17, .textOnly .lateStores⟩, ⟨18, .textOnly .lateStores⟩, ⟨19, .textOnly .lateStores⟩, ⟨20, .textOnly .lateStores⟩, ⟨21, .textOnly .lateStores⟩, ⟨22, .textOnly .lateStores⟩, ⟨23, .textOnly .lateStores⟩, ⟨24, .phase⟩, ⟨25, .phase⟩], guard := none }) rfl (fun K hK => ?_) AllReadyH.nil
  rw [if_pos (by rfl)]
  refine wp_store_seg 24 (.tmp 4) (.tmp 21) rfl (p + 2) 0 #[.int .u64 q0, .int .u64 q1] rfl rfl 24 #[.int .u64 0, .int .u64 0] B2 (by kernel_rfl) (by simp) (by simp [Value.oneCell']) ?_
  rw [E2]
  have C0 : (w3.setRow (p + 2) #[.int .u64 q0, .int .u64 q1]).heap[p]? = some (.cells (bv T) 22) := (setRow_other _ _ _ _ (by omega)).trans B0
  have C1 : (w3.setRow (p + 2) #[.int .u64 q0, .int .u64 q1]).heap[p + 1]? = some (.cells (bv R) 22) := (setRow_other _ _ _ _ (by omega)).trans B1
  have C2 : (w3.setRow (p + 2) #[.int .u64 q0, .int .u64 q1]).heap[p + 2]? = some (.cells #[.int .u64 q0, .int .u64 q1] 24) := setRow_heap _ _ _ _ _ _ B2
  have CS : TbS g o T R q0 q1 n E (w3.setRow (p + 2) #[.int .u64 q0, .int .u64 q1]) := BS.of_block (setRow_other _ _ _ _ n2)
  have CB : Below p w (w3.setRow (p + 2) #[.int .u64 q0, .int .u64 q1]) := BB.trans ⟨rfl, rfl, rfl, by simp, fun q hq => setRow_other _ _ _ _ (by omega)⟩
  generalize w3.setRow (p + 2) #[.int .u64 q0, .int .u64 q1] = w4 at C0 C1 C2 CS CB ⊢
  clear hHeld B0 B1 B2 BS BB
  simp only [Act.put, List.setIfInBounds_toArray, List.set_cons_succ, List.set_cons_zero, Array.toArray_toList]
  refine hK.out _ _ CS (fun hHeld => ?_)
  clear hK K
  refine wpAnyH_ready (rs := [27]) (by kernel_rfl) (by simp) ?_
  refine AllReadyH.cons (o := { dst := some 5, op := .assign (.tmp 26), type := 3, pos := "zzexport.go:16", after := #[⟨19, .data⟩, ⟨26, .chain⟩, ⟨0, .phase⟩, ⟨1, .phase⟩, ⟨2, .phase⟩, ⟨3, .phase⟩, ⟨4, .phase⟩, ⟨5, .phase⟩, ⟨6, .phase⟩, ⟨7, .phase⟩, ⟨8, .phase⟩, ⟨9, .phase⟩, ⟨10, .phase⟩, ⟨11, .phase⟩, ⟨12, .phase⟩, ⟨13, .phase⟩, ⟨14, .phase⟩, ⟨15, .phase⟩, ⟨16, .phase⟩, ⟨17, .phase⟩, ⟨18, .phase⟩, ⟨19, .phase⟩, ⟨20, .textOnly .lateStores⟩, ⟨21, .textOnly .lateStores⟩, ⟨22, .textOnly .lateStores⟩, ⟨23, .textOnly .lateStores⟩, ⟨24, .phase⟩, ⟨25, .phase⟩, ⟨26, .phase⟩], guard := none }) rfl (fun K hK => ?_) AllReadyH.nil
  go_simp
  refine hK.out _ _ CS (fun hHeld => ?_)
  clear hK K
  refine wpAnyH_ready (rs := [28]) (by kernel_rfl) (by simp) ?_
  refine AllReadyH.cons (o := { dst := some 6, op := .assign (.tmp 30), type := 23, pos := "zzexport.go:16", after := #[⟨23, .data⟩, ⟨27, .chain⟩, ⟨0, .phase⟩, ⟨1, .phase⟩, ⟨2, .phase⟩, ⟨3, .phase⟩, ⟨4, .phase⟩, ⟨5, .phase⟩, ⟨6, .phase⟩, ⟨7, .phase⟩, ⟨8, .phase⟩, ⟨9, .phase⟩, ⟨10, .phase⟩, ⟨11, .phase⟩, ⟨12, .phase⟩, ⟨13, .phase⟩, ⟨14, .phase⟩, ⟨15, .phase⟩, ⟨16, .phase⟩, ⟨17, .phase⟩, ⟨18, .phase⟩, ⟨19, .phase⟩, ⟨20, .phase⟩, ⟨21, .phase⟩, ⟨22, .phase⟩, ⟨23, .phase⟩, ⟨24, .phase⟩, ⟨25, .phase⟩, ⟨26, .phase⟩, ⟨27, .phase⟩], guard := none }) rfl (fun K hK => ?_) AllReadyH.nil
  go_simp
  refine hK.out _ _ CS (fun hHeld => ?_)
  clear hK K
  refine wpAnyH_done (by kernel_rfl) ?_ _
  clear hHeld CS
  refine HK.out _ _ ?_
  go_wp2_with fail
  refine bodyPost_ret (v := .tuple #[.agg (bv T), .agg (bv R), .agg #[.int .u64 q0, .int .u64 q1], .int .i64 n, .int .u64 E]) ?_ rfl ⟨rfl, ?_⟩
  · refine results_5 (P := Try.prog) (a := 2) (b := 3) (c := 4) (d := 5) (e := 6) rfl _ _ (pa := ⟨p, 0, none⟩) (pb := ⟨p + 1, 0, none⟩) (pc := ⟨p + 2, 0, none⟩) ?_ ?_ ?_ (run_loadVar_seg _ _ _ 22 (bv T) _ (seg_row C0) Try.underlying22 rfl (by rw [Try.info22, bv_size, hT])) (run_loadVar_seg _ _ _ 22 (bv R) _ (seg_row C1) Try.underlying22 rfl (by rw [Try.info22, bv_size, hR])) (run_loadVar_seg _ _ _ 24 #[.int .u64 q0, .int .u64 q1] _ (seg_row C2) Try.underlying24 rfl (by kernel_rfl)) <;> rfl
  · rw [← HP.out]; exact CB
end Go.Proofs.Qxb6612204a
