import Derived.Test.Qxb6612204aReachA
namespace Go.Proofs.Qxb6612204a
open Go.RowKit Plain
set_option linter.unusedVariables false
set_option linter.unusedSimpArgs false

set_option maxRecDepth 10000 in
set_option maxHeartbeats 1000000 in
theorem reach5 (node : ByteArray) (p : Nat) (rec z : List UInt8) (w0 w : World) (hs : node.size ≤ maxLen) (hrec : rec.length = 1024) (lz : z.length = 1024) (hp : w.heap[p]? = some (.cells (bv rec) 22))
    (h1 : w.heap[p + 1]? = some (.cells (bv z) 22)) (h2 : w.heap[p + 2]? = some (.cells (bv z) 22)) (h3 : w.heap[p + 3]? = some (.cells #[.int .u64 0, .int .u64 0] 24)) (h4 : w.heap[p + 4]? = some (.cells (bv z) 22)) (h5 : w.heap[p + 5]? = some (.cells #[.int .u64 0, .int .u64 0] 24)) (hb : Below w0.heap.size w0 w)
    {u2 u3 u4 u5 u8 u9 u14 u15 u16 u19 u20 u21 u22 u23 u24 u25 u26 u27 u28 u29 u30 u31 u32 u33 u34 u35 u36 u37 u38 u39 u40 u41 u42 u43 u44 u45 u46 u47 u48 u49 u50 u51 u52 u53 u54 u55 u56 u57 u58 u59 u60 u61 u62 u63 u64 u65 u66 u67 u68 u69 u70 u71 u72 u73 u74 u75 u76 u77 u78 u79 u80 u81 u82 u83 u84 u85 u86 u87 u88 u89 u90 u91 u92 u93 u94 u95 u96 : Value} (Q : Exit → Act → World → Prop) (hQ : Q = bodyPost Try.prog Try.f24 fun e w' => e = .returned (.bool (decide ((addL rec (Plain.hash node.data.toList)) = rec))) ∧ Below w0.heap.size w0 w') :
    Code.wp Try.prog (tl 5 (Try.f24.body.getD .skip)) Q ⟨#[.string node, .int .i64 1, u2, u3, u4, u5, .int .i64 0, .int .u64 0, u8, u9, .pointer (some ⟨p, 0, none⟩), .pointer (some ⟨p + 1, 0, none⟩), .pointer (some ⟨p + 2, 0, none⟩), .pointer (some ⟨p + 3, 0, none⟩), u14, u15, u16, .pointer (some ⟨p + 4, 0, none⟩), .pointer (some ⟨p + 5, 0, none⟩), u19, u20, u21, u22, u23, u24, u25, u26, u27, u28, u29, u30, u31, u32, u33, u34, u35, u36, u37, u38, u39, u40, u41, u42, u43, u44, u45, u46, u47, u48, u49, u50, u51, u52, u53, u54, u55, u56, u57, u58, u59, u60, u61, u62, u63, u64, u65, u66, u67, u68, u69, u70, u71, u72, u73, u74, u75, u76, u77, u78, u79, u80, u81, u82, u83, u84, u85, u86, u87, u88, u89, u90, u91, u92, u93, u94, u95, u96], []⟩ w := by
  delta Try.f24
  dsimp only [tl, Option.getD_some]
  have H1 : Hid _ := seg_row h1
  have H2 : Hid _ := seg_row h2
  have H3 : Hid _ := seg_row h3
  have H4 : Hid _ := seg_row h4
  have H5 : Hid _ := seg_row h5
  have HP : Hid _ := hp
  have HB : Hid _ := hb
  have HQ : Hid _ := hQ
  have heg := eqg22
  have heg24 := eqg24
  have he : ∀ w, (Op.equalIn 10000 22 (.agg (bv z)) (.agg (bv z))).run Try.prog w = .ok true w := in22 z lz
  have he24 : ∀ w, (Op.equalIn 10000 24 (.agg #[.int .u64 0, .int .u64 0]) (.agg #[.int .u64 0, .int .u64 0])).run Try.prog w = .ok true w := in24 0 0
  clear h1 h2 h3 h4 h5 hp hb hQ
  apply wp_seq_k; intro K1 aK1
  have HK : Hid (∀ a w, _ → K1 a w) := aK1
  clear aK1
  go_wp2_with (first
    | (refine wpList_load_want (by rfl) 22 (.tmp 11) rfl _ _ rfl (bv z) _ (by exact H1.out) Try.underlying22 rfl (by rw [Try.info22, bv_size, lz]) ?_; simp only [Act.put, List.setIfInBounds_toArray, List.set_cons_succ, List.set_cons_zero])
    | (refine wpList_load_want (by rfl) 22 (.tmp 17) rfl _ _ rfl (bv z) _ (by exact H4.out) Try.underlying22 rfl (by rw [Try.info22, bv_size, lz]) ?_; simp only [Act.put, List.setIfInBounds_toArray, List.set_cons_succ, List.set_cons_zero])
    | (refine wpList_load_want (by rfl) 22 (.tmp 12) rfl _ _ rfl (bv z) _ (by exact H2.out) Try.underlying22 rfl (by rw [Try.info22, bv_size, lz]) ?_; simp only [Act.put, List.setIfInBounds_toArray, List.set_cons_succ, List.set_cons_zero])
    | (refine wpList_load_want (by rfl) 24 (.tmp 13) rfl _ _ rfl #[.int .u64 0, .int .u64 0] _ (by exact H3.out) Try.underlying24 rfl info24 ?_; simp only [Act.put, List.setIfInBounds_toArray, List.set_cons_succ, List.set_cons_zero])
    | (refine wpList_load_want (by rfl) 24 (.tmp 18) rfl _ _ rfl #[.int .u64 0, .int .u64 0] _ (by exact H5.out) Try.underlying24 rfl info24 ?_; simp only [Act.put, List.setIfInBounds_toArray, List.set_cons_succ, List.set_cons_zero]))
  exact HK.out _ _ (reach6 node p rec w0 w hs hrec HP.out HB.out Q HQ.out)

theorem heap6 (w : World) (a b c d e f : Obj) : ((((((w.alloc a).alloc b).alloc c).alloc d).alloc e).alloc f).heap[w.heap.size]? = some a ∧ ((((((w.alloc a).alloc b).alloc c).alloc d).alloc e).alloc f).heap[w.heap.size + 1]? = some b ∧
    ((((((w.alloc a).alloc b).alloc c).alloc d).alloc e).alloc f).heap[w.heap.size + 2]? = some c ∧ ((((((w.alloc a).alloc b).alloc c).alloc d).alloc e).alloc f).heap[w.heap.size + 3]? = some d ∧
    ((((((w.alloc a).alloc b).alloc c).alloc d).alloc e).alloc f).heap[w.heap.size + 4]? = some e ∧ ((((((w.alloc a).alloc b).alloc c).alloc d).alloc e).alloc f).heap[w.heap.size + 5]? = some f := by
  have h := heap4 w a b c d
  have e1 : (((((w.alloc a).alloc b).alloc c).alloc d)).heap.size = w.heap.size + 4 := by simp
  refine ⟨?_, ?_, ?_, ?_, ?_, ?_⟩
  · rw [Below.heap_alloc _ _ _ (by simp; omega), Below.heap_alloc _ _ _ (by simp; omega)]; exact h.1
  · rw [Below.heap_alloc _ _ _ (by simp), Below.heap_alloc _ _ _ (by simp)]; exact h.2.1
  · rw [Below.heap_alloc _ _ _ (by simp), Below.heap_alloc _ _ _ (by simp)]; exact h.2.2.1
  · rw [Below.heap_alloc _ _ _ (by simp), Below.heap_alloc _ _ _ (by simp)]; exact h.2.2.2
  · rw [Below.heap_alloc _ _ _ (by simp), ← e1]; exact heap_alloc_new _ _
  · have := heap_alloc_new (((((w.alloc a).alloc b).alloc c).alloc d).alloc e) f
    simpa using this

set_option maxRecDepth 10000 in
set_option maxHeartbeats 1000000 in
theorem reachable_any (node : ByteArray) (rec z : List UInt8) (w : World) (hs : node.size ≤ maxLen) (hrec : rec.length = 1024) (hz : Hid (z = zeros)) :
    Calls Try.prog 24 #[.string node, .int .i64 1, .agg (bv rec), .agg (bv z), .agg (bv z), .agg #[.int .u64 0, .int .u64 0], .int .i64 0, .int .u64 0] w fun e w' => e = .returned (.bool (decide ((addL rec (Plain.hash node.data.toList)) = rec))) ∧ Below w.heap.size w w' := by
  have lz : z.length = 1024 := by rw [hz.out, zeros_len]
  have z22 : (Try.prog.info? 22).map (·.zero) = some (some (.agg (bv z))) := by rw [hz.out]; exact zero22
  have HZ22 : Hid _ := z22
  have HB : Hid (Below w.heap.size w ((((((w.alloc (.cells (bv rec) 22)).alloc (.cells (bv z) 22)).alloc (.cells (bv z) 22)).alloc (.cells #[.int .u64 0, .int .u64 0] 24)).alloc (.cells (bv z) 22)).alloc (.cells #[.int .u64 0, .int .u64 0] 24))) := ((((((Below.refl _ _).alloc (Nat.le_refl _) _).alloc (by simp) _).alloc (by simp; omega) _).alloc (by simp; omega) _).alloc (by simp; omega) _).alloc (by simp; omega) _
  have H6 : Hid _ := heap6 w (.cells (bv rec) 22) (.cells (bv z) 22) (.cells (bv z) 22) (.cells #[.int .u64 0, .int .u64 0] 24) (.cells (bv z) 22) (.cells #[.int .u64 0, .int .u64 0] 24)
  clear z22
  go_enter Try.func24, Try.ntmps24
  generalize hQe : (bodyPost Try.prog Try.f24 fun e w' => e = .returned (.bool (decide ((addL rec (Plain.hash node.data.toList)) = rec))) ∧ Below w.heap.size w w') = Q
  have HQ : Hid _ := hQe.symm
  clear hQe
  apply wp_seq_k; intro K0 aK0
  have HK0 : Hid (∀ a w, _ → K0 a w) := aK0
  clear aK0
  go_wp2_with (first
    | (refine wpList_alloc_row rfl 22 rfl (.agg (bv z)) HZ22.out ?_; rw [cells_agg]; simp only [Act.put, List.setIfInBounds_toArray, List.set_cons_succ, List.set_cons_zero]))
  refine HK0.out _ _ ?_
  clear HK0 K0
  apply wp_seq_k; intro K0 aK0
  have HK0 : Hid (∀ a w, _ → K0 a w) := aK0
  clear aK0
  go_wp2_with (first
    | (refine wpList_alloc_row rfl 22 rfl (.agg (bv z)) HZ22.out ?_; rw [cells_agg]; simp only [Act.put, List.setIfInBounds_toArray, List.set_cons_succ, List.set_cons_zero]))
  refine HK0.out _ _ ?_
  clear HK0 K0
  apply wp_seq_k; intro K0 aK0
  have HK0 : Hid (∀ a w, _ → K0 a w) := aK0
  clear aK0
  go_wp2_with (first
    | (refine wpList_alloc_row rfl 22 rfl (.agg (bv z)) HZ22.out ?_; rw [cells_agg]; simp only [Act.put, List.setIfInBounds_toArray, List.set_cons_succ, List.set_cons_zero]))
  refine HK0.out _ _ ?_
  clear HK0 K0
  apply wp_seq_k; intro K0 aK0
  have HK0 : Hid (∀ a w, _ → K0 a w) := aK0
  clear aK0
  go_wp2_with (first
    | (refine wpList_alloc_row rfl 22 rfl (.agg (bv z)) HZ22.out ?_; rw [cells_agg]; simp only [Act.put, List.setIfInBounds_toArray, List.set_cons_succ, List.set_cons_zero]))
  refine HK0.out _ _ ?_
  clear HK0 K0
  apply wp_seq_k; intro K0 aK0
  have HK0 : Hid (∀ a w, _ → K0 a w) := aK0
  clear aK0
  go_wp2_with (first
    | (refine wpList_alloc_row rfl 22 rfl (.agg (bv z)) HZ22.out ?_; rw [cells_agg]; simp only [Act.put, List.setIfInBounds_toArray, List.set_cons_succ, List.set_cons_zero]))
  refine HK0.out _ _ ?_
  clear HK0 K0
  have e4 : ((((w.alloc (.cells (bv rec) 22)).alloc (.cells (bv z) 22)).alloc (.cells (bv z) 22)).alloc (.cells #[.int .u64 0, .int .u64 0] 24)).heap.size = w.heap.size + 4 := by simp
  have hb := HB.out
  have h6 := H6.out
  clear HB H6
  generalize (((((w.alloc (.cells (bv rec) 22)).alloc (.cells (bv z) 22)).alloc (.cells (bv z) 22)).alloc (.cells #[.int .u64 0, .int .u64 0] 24)).alloc (.cells (bv z) 22)).alloc (.cells #[.int .u64 0, .int .u64 0] 24) = w1 at hb h6 ⊢
  try rw [e4]
  exact reach5 node w.heap.size rec z w w1 hs hrec lz h6.1 h6.2.1 h6.2.2.1 h6.2.2.2.1 h6.2.2.2.2.1 h6.2.2.2.2.2 hb Q HQ.out
end Go.Proofs.Qxb6612204a
