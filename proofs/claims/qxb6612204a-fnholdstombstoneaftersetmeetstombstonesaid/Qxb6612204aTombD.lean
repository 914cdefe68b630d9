import Derived.Test.Qxb6612204aTombC
namespace Go.Proofs.Qxb6612204a
open Go.RowKit Plain
set_option linter.unusedVariables false
set_option linter.unusedSimpArgs false

set_option maxRecDepth 10000 in
set_option maxHeartbeats 1000000 in
theorem tombIs_t2 (g o p : Nat) (T R : List UInt8) (q0 q1 n E : Int) (w0 w : World) (hT : T.length = 1024) (hR : R.length = 1024) (hb : Below w0.heap.size w0 w) (hS : TbS g o T R q0 q1 n E w)
    (a0 : w.heap[p]? = some (.cells (bv T) 22)) (a1 : w.heap[p + 1]? = some (.cells (bv R) 22)) (a2 : w.heap[p + 2]? = some (.cells #[.int .u64 q0, .int .u64 q1] 24))
    {u1 u2 u3 u6 u10 u11 u12 u13 u14 u15 u16 u17 u18 u19 u20 u21 u22 u23 u24 u25 u26 u27 u28 u29 u30 u31 u32 u33 u34 u35 u36 u37 u38 u39 u40 u41 u42 u43 u44 u45 u46 u47 u48 u49 u50 : Value} (Q : Exit → Act → World → Prop) (hQ : Q = bodyPost Try.prog Try.f15 fun e w' => e = .returned (.bool true) ∧ Below w0.heap.size w0 w') :
    Code.wp Try.prog (tl 2 (Try.f15.body.getD .skip)) Q ⟨#[.pointer (some ⟨g, o, none⟩), u1, u2, u3, .int .i64 n, .int .u64 E, u6, .pointer (some ⟨p, 0, none⟩), .pointer (some ⟨p + 1, 0, none⟩), .pointer (some ⟨p + 2, 0, none⟩), u10, u11, u12, u13, u14, u15, u16, u17, u18, u19, u20, u21, u22, u23, u24, u25, u26, u27, u28, u29, u30, u31, u32, u33, u34, u35, u36, u37, u38, u39, u40, u41, u42, u43, u44, u45, u46, u47, u48, u49, u50], []⟩ w := by
  delta Try.f15
  dsimp only [tl, Option.getD_some]
  have HQ : Hid _ := hQ
  have HC : Hid _ := tombFields_any g o T R q0 q1 n E w hT hR hS
  have A0 : Hid _ := a0
  have A1 : Hid _ := a1
  have A2 : Hid _ := a2
  have HB : Hid _ := hb
  have p0 : p < w.heap.size := (Array.getElem?_eq_some_iff.1 a0).1
  have p1 : p + 1 < w.heap.size := (Array.getElem?_eq_some_iff.1 a1).1
  have p2 : p + 2 < w.heap.size := (Array.getElem?_eq_some_iff.1 a2).1
  obtain ⟨z, hz⟩ : ∃ z, z = zeros := ⟨_, rfl⟩
  have lz : z.length = 1024 := by rw [hz, zeros_len]
  have z22 : (Try.prog.info? 22).map (·.zero) = some (some (.agg (bv z))) := by rw [hz]; exact zero22
  have HZ22 : Hid _ := z22
  clear hz z22 hQ a0 a1 a2 hb hS
  apply wp_seq_k; intro K1 aK1
  have HK : Hid (∀ a w, _ → K1 a w) := aK1
  clear aK1
  go_wp2_with fail
  refine Calls.mono HC.out ?_
  rintro e w1 ⟨rfl, hb1⟩
  have h3 := heap3 w1 (.cells (bv z) 22) (.cells (bv z) 22) (.cells #[.int .u64 0, .int .u64 0] 24)
  have e1 : (w1.alloc (.cells (bv z) 22)).heap.size = w1.heap.size + 1 := by simp
  have E0 : over (bv z) 0 (bv T) = bv T := over_all _ _ (by rw [bv_size, bv_size, hT, lz])
  have E1 : over (bv z) 0 (bv R) = bv R := over_all _ _ (by rw [bv_size, bv_size, hR, lz])
  have E2 : over #[.int .u64 0, .int .u64 0] 0 #[.int .u64 q0, .int .u64 q1] = #[.int .u64 q0, .int .u64 q1] := over_all _ _ rfl
  have r0 : (((w1.alloc (.cells (bv z) 22)).alloc (.cells (bv z) 22)).alloc (.cells #[.int .u64 0, .int .u64 0] 24)).heap[w1.heap.size]? = some (.cells (bv z) 22) := h3.1
  have r1 : ((((w1.alloc (.cells (bv z) 22)).alloc (.cells (bv z) 22)).alloc (.cells #[.int .u64 0, .int .u64 0] 24)).setRow w1.heap.size (bv T)).heap[(w1.alloc (.cells (bv z) 22)).heap.size]? = some (.cells (bv z) 22) := by
    rw [e1, setRow_other _ _ _ _ (by omega)]; exact h3.2.1
  have r2 : (((((w1.alloc (.cells (bv z) 22)).alloc (.cells (bv z) 22)).alloc (.cells #[.int .u64 0, .int .u64 0] 24)).setRow w1.heap.size (bv T)).setRow (w1.alloc (.cells (bv z) 22)).heap.size (bv R)).heap[w1.heap.size + 1 + 1]? = some (.cells #[.int .u64 0, .int .u64 0] 24) := by
    rw [e1, setRow_other _ _ _ _ (by omega), setRow_other _ _ _ _ (by omega)]; exact h3.2.2
  have hv : Below w1.heap.size w1 ((((((w1.alloc (.cells (bv z) 22)).alloc (.cells (bv z) 22)).alloc (.cells #[.int .u64 0, .int .u64 0] 24)).setRow w1.heap.size (bv T)).setRow (w1.alloc (.cells (bv z) 22)).heap.size (bv R)).setRow (w1.heap.size + 1 + 1) #[.int .u64 q0, .int .u64 q1]) := by
    rw [e1]
    have hb0 : Below w1.heap.size w1 (((w1.alloc (.cells (bv z) 22)).alloc (.cells (bv z) 22)).alloc (.cells #[.int .u64 0, .int .u64 0] 24)) := (((Below.refl _ _).alloc (Nat.le_refl _) _).alloc (by simp) _).alloc (by simp; omega) _
    refine hb0.trans ⟨rfl, rfl, rfl, by simp, fun q hq => ?_⟩
    rw [setRow_other _ _ _ _ (by omega), setRow_other _ _ _ _ (by omega), setRow_other _ _ _ _ (by omega)]
  have s0 : ((((((w1.alloc (.cells (bv z) 22)).alloc (.cells (bv z) 22)).alloc (.cells #[.int .u64 0, .int .u64 0] 24)).setRow w1.heap.size (bv T)).setRow (w1.alloc (.cells (bv z) 22)).heap.size (bv R)).setRow (w1.heap.size + 1 + 1) #[.int .u64 q0, .int .u64 q1]).heap[w1.heap.size]? = some (.cells (bv T) 22) := by
    rw [e1, setRow_other _ _ _ _ (by omega), setRow_other _ _ _ _ (by omega)]; exact setRow_heap _ _ _ _ _ _ r0
  have s1 : ((((((w1.alloc (.cells (bv z) 22)).alloc (.cells (bv z) 22)).alloc (.cells #[.int .u64 0, .int .u64 0] 24)).setRow w1.heap.size (bv T)).setRow (w1.alloc (.cells (bv z) 22)).heap.size (bv R)).setRow (w1.heap.size + 1 + 1) #[.int .u64 q0, .int .u64 q1]).heap[w1.heap.size + 1]? = some (.cells (bv R) 22) := by
    rw [setRow_other _ _ _ _ (by omega)]
    have this : (((((w1.alloc (.cells (bv z) 22)).alloc (.cells (bv z) 22)).alloc (.cells #[.int .u64 0, .int .u64 0] 24)).setRow w1.heap.size (bv T)).setRow (w1.alloc (.cells (bv z) 22)).heap.size (bv R)).heap[(w1.alloc (.cells (bv z) 22)).heap.size]? = some (.cells (bv R) 22) := setRow_heap _ _ _ _ _ _ r1
    rwa [e1] at this ⊢
  have s2 : ((((((w1.alloc (.cells (bv z) 22)).alloc (.cells (bv z) 22)).alloc (.cells #[.int .u64 0, .int .u64 0] 24)).setRow w1.heap.size (bv T)).setRow (w1.alloc (.cells (bv z) 22)).heap.size (bv R)).setRow (w1.heap.size + 1 + 1) #[.int .u64 q0, .int .u64 q1]).heap[w1.heap.size + 2]? = some (.cells #[.int .u64 q0, .int .u64 q1] 24) := setRow_heap _ _ _ _ _ _ r2
  have R0 : Hid _ := r0
  have R1 : Hid _ := r1
  have R2 : Hid _ := r2
  have S0 : Hid _ := s0
  have S1 : Hid _ := s1
  have S2 : Hid _ := s2
  have HV : Hid _ := hv
  have HB1 : Hid (Below w.heap.size w w1) := hb1
  have HE1 : Hid _ := e1
  have HE : Hid (over (bv z) 0 (bv T) = bv T ∧ over (bv z) 0 (bv R) = bv R ∧ over #[.int .u64 0, .int .u64 0] 0 #[.int .u64 q0, .int .u64 q1] = #[.int .u64 q0, .int .u64 q1]) := ⟨E0, E1, E2⟩
  clear h3 r0 r1 r2 s0 s1 s2 hv hb1 E0 E1 E2 HC e1
  go_wp2_with (first
    | (refine wpList_alloc_row rfl 22 rfl (.agg (bv z)) HZ22.out ?_; rw [cells_agg]; simp only [Act.put, List.setIfInBounds_toArray, List.set_cons_succ, List.set_cons_zero])
    | (refine wpList_store_seg rfl 22 (.tmp 13) (.tmp 23) rfl _ _ (bv T) rfl rfl _ _ (by exact R0.out) (by rw [Try.info22, bv_size, hT]) (by rw [bv_size, bv_size, hT, lz]; omega) (bv_one _) ?_; rw [HE.out.1]; simp only [Act.put, List.setIfInBounds_toArray, List.set_cons_succ, List.set_cons_zero])
    | (refine wpList_store_seg rfl 22 (.tmp 14) (.tmp 24) rfl _ _ (bv R) rfl rfl _ _ (by exact R1.out) (by rw [Try.info22, bv_size, hR]) (by rw [bv_size, bv_size, hR, lz]; omega) (bv_one _) ?_; rw [HE.out.2.1]; simp only [Act.put, List.setIfInBounds_toArray, List.set_cons_succ, List.set_cons_zero])
    | (refine wpList_store_seg rfl 24 (.tmp 15) (.tmp 25) rfl _ _ #[.int .u64 q0, .int .u64 q1] rfl rfl _ _ (by exact R2.out) info24 (by simp) (by simp [Value.oneCell']) ?_; rw [HE.out.2.2]; simp only [Act.put, List.setIfInBounds_toArray, List.set_cons_succ, List.set_cons_zero]))
  have hs0 := S0.out
  have hs1 := S1.out
  have hs2 := S2.out
  have hvv := HV.out
  clear S0 S1 S2 HV R0 R1 R2
  generalize (((((w1.alloc (.cells (bv z) 22)).alloc (.cells (bv z) 22)).alloc (.cells #[.int .u64 0, .int .u64 0] 24)).setRow w1.heap.size (bv T)).setRow (w1.alloc (.cells (bv z) 22)).heap.size (bv R)).setRow (w1.heap.size + 1 + 1) #[.int .u64 q0, .int .u64 q1] = w3 at hs0 hs1 hs2 hvv ⊢
  rw [HE1.out]
  have sz1 := HB1.out.size
  refine HK.out _ _ (tombIs_t3 p w1.heap.size T R q0 q1 n E w0 w3 hT hR ?_ ?_ ?_ ?_ hs0 hs1 hs2 Q HQ.out)
  · exact HB.out.trans ((HB1.out.trans (hvv.mono sz1)).mono HB.out.size)
  · rw [hvv.block _ (by omega), HB1.out.block _ p0]; exact A0.out
  · rw [hvv.block _ (by omega), HB1.out.block _ p1]; exact A1.out
  · rw [hvv.block _ (by omega), HB1.out.block _ p2]; exact A2.out

set_option maxRecDepth 10000 in
set_option maxHeartbeats 1000000 in
theorem tombIs_any (g o : Nat) (T R : List UInt8) (q0 q1 n E : Int) (w : World) (hT : T.length = 1024) (hR : R.length = 1024) (hS : TbS g o T R q0 q1 n E w) :
    Calls Try.prog 15 #[.pointer (some ⟨g, o, none⟩), .agg (bv T), .agg (bv R), .agg #[.int .u64 q0, .int .u64 q1], .int .i64 n, .int .u64 E] w fun e w' => e = .returned (.bool true) ∧ Below w.heap.size w w' := by
  have h3 := heap3 w (.cells (bv T) 22) (.cells (bv R) 22) (.cells #[.int .u64 q0, .int .u64 q1] 24)
  have e1 : (w.alloc (.cells (bv T) 22)).heap.size = w.heap.size + 1 := by simp
  have hb : Below w.heap.size w (((w.alloc (.cells (bv T) 22)).alloc (.cells (bv R) 22)).alloc (.cells #[.int .u64 q0, .int .u64 q1] 24)) := (((Below.refl _ _).alloc (Nat.le_refl _) _).alloc (by simp) _).alloc (by simp; omega) _
  have hS1 := hS.of_block (hb.block _ hS.lt)
  have H3 : Hid _ := h3
  have HE1 : Hid _ := e1
  have HB : Hid _ := hb
  have HS : Hid _ := hS1
  have hp := eql26_nil ⟨g, o, none⟩
  clear h3 e1 hb hS1 hS
  go_enter Try.func15, Try.ntmps15
  generalize hQe : (bodyPost Try.prog Try.f15 fun e w' => e = .returned (.bool true) ∧ Below w.heap.size w w') = Q
  have HQ : Hid _ := hQe.symm
  clear hQe
  apply wp_seq_k; intro K0 aK0
  have HK0 : Hid (∀ a w, _ → K0 a w) := aK0
  clear aK0
  go_wp2_with fail
  refine HK0.out _ _ ?_
  clear HK0 K0
  apply wp_seq_k; intro K0 aK0
  have HK0 : Hid (∀ a w, _ → K0 a w) := aK0
  clear aK0
  go_wp2_with fail
  refine HK0.out _ _ ?_
  clear HK0 K0
  have h0 := H3.out.1
  have h1 := H3.out.2.1
  have h2 := H3.out.2.2
  have hb := HB.out
  have hs := HS.out
  clear H3 HB HS
  generalize ((w.alloc (.cells (bv T) 22)).alloc (.cells (bv R) 22)).alloc (.cells #[.int .u64 q0, .int .u64 q1] 24) = w1 at h0 h1 h2 hb hs ⊢
  exact tombIs_t2 g o w.heap.size T R q0 q1 n E w w1 hT hR hb hs h0 h1 h2 Q HQ.out
end Go.Proofs.Qxb6612204a
