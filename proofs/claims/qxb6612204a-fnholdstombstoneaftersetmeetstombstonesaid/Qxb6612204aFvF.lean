import Derived.Test.Qxb6612204aFvE
namespace Go.Proofs.Qxb6612204a
open Go.RowKit Plain
set_option linter.unusedVariables false
set_option linter.unusedSimpArgs false

set_option maxRecDepth 10000 in
set_option maxHeartbeats 1000000 in
theorem five15 (node set : ByteArray) (rec T R T1 R1 : List UInt8) (f0 f1 : Int) (Z s1 t1 : Nat) (rank E own o1 h : Int) (m : Nat) (lastv : Value) (tb : Array Value) (q : Rk) (w wp wi : World) (hT1 : T1.length = 1024) (hR1 : R1.length = 1024) (hq : q.n ≤ 2) (hR : R.length = 1024) (hs : node.size ≤ maxLen) (ht : set.size ≤ maxLen) (hE0 : 0 ≤ E) (hE1 : E ≤ 18446744073709551615) (hm : m ≤ 2) (x y : Nat) (hF : Fin5 w rec T R f0 f1 Z s1 t1 node set rank h tb (m : Int) E wp) (hx : wp.heap[x]? = some (.cells (bv T1) 22)) (hy : wi.heap[y]? = some (.cells (bv R) 22)) (hY : Way5 (!coversL R1 T1 || q.has own) o1 lastv h tb T1 R1 q E wp) (hb : Below wp.heap.size wp wi) (hyp : wp.heap.size ≤ y) (hR1e : R1 = addL R (Plain.hash node.data.toList)) (hqe : q = (Rk.zero.merge ⟨f0, f1, m⟩).add own) (hrk : rank = (rankL node.data.toList set.data.toList)) (how : own = rankAtI rank E)
    {u2 u3 u4 u5 u8 u9 u10 u11 u12 u14 u15 u16 u20 u23 u26 u27 u28 u29 u30 u31 u32 u33 u34 u35 u36 u37 u38 u39 u40 u41 u42 u43 u44 u45 u46 u47 u48 u49 u50 u51 u52 u53 u54 u55 u56 u57 u58 u59 u60 u61 u62 u63 u64 u65 u66 u67 u68 u69 u70 u71 u72 u73 u74 u75 u76 u77 u78 u79 u80 u81 u82 u83 u84 u85 u86 u87 u88 u89 u90 u91 u92 u93 u94 u95 u96 u97 u98 u99 u100 u101 u102 u103 u104 u105 u106 u107 u108 u109 u110 u111 u112 u113 u114 u115 u116 u117 u118 u119 u120 u121 u122 u123 u124 u125 u126 u127 u128 u129 u130 u131 u132 u133 u134 u135 u136 u137 u138 u139 u140 u141 u142 u143 u144 u145 u146 u147 u148 u149 u150 u151 u152 u153 u154 u155 u156 u157 u158 u159 u160 u161 u162 u163 u164 u165 u166 u167 u168 u169 u170 u171 u172 u173 u174 u175 u176 u177 u178 u179 u180 u181 : Value} (Q : Exit → Act → World → Prop) (hQ : Q = bodyPost Try.prog Try.f5 fun e w' => e = .returned (.bool true) ∧ Below w.heap.size w w') :
    Code.wp Try.prog (tl 15 (Try.f5.body.getD .skip)) Q ⟨#[.string node, .string set, u2, u3, u4, u5, .int .i64 (m : Int), .int .u64 E, u8, u9, u10, u11, u12, .pointer (some ⟨w.heap.size + 3, 0, none⟩), u14, u15, u16, .pointer (some ⟨Z, 0, none⟩), .pointer (some ⟨Z + 1, 0, none⟩), .pointer (some ⟨s1, 0, none⟩), u20, .int .i64 o1, lastv, u23, .pointer (some ⟨x, 0, none⟩), .pointer (some ⟨y, 0, none⟩), u26, u27, u28, u29, u30, u31, u32, u33, u34, u35, u36, u37, u38, u39, u40, u41, u42, u43, u44, u45, u46, u47, u48, u49, u50, u51, u52, u53, u54, u55, u56, u57, u58, u59, u60, u61, u62, u63, u64, u65, u66, u67, u68, u69, u70, u71, u72, u73, u74, u75, u76, u77, u78, u79, u80, u81, u82, u83, u84, u85, u86, u87, u88, u89, u90, u91, u92, u93, u94, u95, u96, u97, u98, u99, u100, u101, u102, u103, u104, u105, u106, u107, u108, u109, u110, u111, u112, u113, u114, u115, u116, u117, u118, u119, u120, u121, u122, u123, u124, u125, u126, u127, u128, u129, u130, u131, u132, u133, u134, u135, u136, u137, u138, u139, u140, u141, u142, u143, u144, u145, u146, u147, u148, u149, u150, u151, u152, u153, u154, u155, u156, u157, u158, u159, u160, u161, u162, u163, u164, u165, u166, u167, u168, u169, u170, u171, u172, u173, u174, u175, u176, u177, u178, u179, u180, u181], []⟩ wi := by
  delta Try.f5
  dsimp only [tl, Option.getD_some]
  have hy0 : wi.heap[y]? = some (.cells (#[] ++ bv R ++ #[]) 22) := by rw [hy]; simp
  have HC : Hid _ := zzadd_any y 0 #[] #[] R 22 node wi hs rfl hR hy0
  rw [← hR1e] at HC
  have HF : Hid _ := hF
  have HX : Hid _ := hx
  have HY : Hid _ := hY
  have HQ : Hid _ := hQ
  have HB : Hid _ := hb
  have HQE : Hid (q = (Rk.zero.merge ⟨f0, f1, m⟩).add own ∧ rank = (rankL node.data.toList set.data.toList) ∧ own = rankAtI rank E) := ⟨hqe, hrk, how⟩
  clear hF hx hy hY hQ hqe hrk how hy0 hR1e hb
  apply wp_seq_k; intro K1 aK1
  have HK : Hid (∀ a w, _ → K1 a w) := aK1
  clear aK1
  go_wp2_with fail
  refine Calls.mono HC.out ?_
  rintro e w1 ⟨rfl, hg1, hb1⟩
  have hg1' : w1.heap[y]? = some (.cells (bv R1) 22) := by rw [hg1]; simp
  have hb2 : Below wp.heap.size wp w1 := HB.out.trans (hb1.below hyp HB.out.size)
  have HG : Hid _ := hg1'
  have HB2 : Hid _ := hb2
  clear hg1 hb1 hg1' hb2 HC
  go_wp2_with fail
  exact HK.out _ _ (five16 node set rec T R T1 R1 f0 f1 Z s1 t1 rank E own o1 h m lastv tb q w w1 hT1 hR1 hq hs ht hE0 hE1 hm x y (HF.out.later HB2.out) ((HB2.out.block _ (Array.getElem?_eq_some_iff.1 HX.out).1).trans HX.out) HG.out (Way5.later HY.out HB2.out) HQE.out.1 HQE.out.2.1 HQE.out.2.2 Q HQ.out)

set_option maxRecDepth 10000 in
set_option maxHeartbeats 1000000 in
theorem five14 (node set : ByteArray) (rec T R T1 R1 : List UInt8) (f0 f1 : Int) (Z s1 t1 : Nat) (rank E own o1 h : Int) (m : Nat) (lastv : Value) (tb : Array Value) (q : Rk) (w wi : World) (hT1 : T1.length = 1024) (hR1 : R1.length = 1024) (hq : q.n ≤ 2) (hR : R.length = 1024) (hs : node.size ≤ maxLen) (ht : set.size ≤ maxLen) (hE0 : 0 ≤ E) (hE1 : E ≤ 18446744073709551615) (hm : m ≤ 2) (x : Nat) (hF : Fin5 w rec T R f0 f1 Z s1 t1 node set rank h tb (m : Int) E wi) (hx : wi.heap[x]? = some (.cells (bv T1) 22)) (hY : Way5 (!coversL R1 T1 || q.has own) o1 lastv h tb T1 R1 q E wi) (hR1e : R1 = addL R (Plain.hash node.data.toList)) (hqe : q = (Rk.zero.merge ⟨f0, f1, m⟩).add own) (hrk : rank = (rankL node.data.toList set.data.toList)) (how : own = rankAtI rank E)
    {u2 u3 u4 u5 u8 u9 u10 u11 u14 u15 u16 u20 u23 u25 u26 u27 u28 u29 u30 u31 u32 u33 u34 u35 u36 u37 u38 u39 u40 u41 u42 u43 u44 u45 u46 u47 u48 u49 u50 u51 u52 u53 u54 u55 u56 u57 u58 u59 u60 u61 u62 u63 u64 u65 u66 u67 u68 u69 u70 u71 u72 u73 u74 u75 u76 u77 u78 u79 u80 u81 u82 u83 u84 u85 u86 u87 u88 u89 u90 u91 u92 u93 u94 u95 u96 u97 u98 u99 u100 u101 u102 u103 u104 u105 u106 u107 u108 u109 u110 u111 u112 u113 u114 u115 u116 u117 u118 u119 u120 u121 u122 u123 u124 u125 u126 u127 u128 u129 u130 u131 u132 u133 u134 u135 u136 u137 u138 u139 u140 u141 u142 u143 u144 u145 u146 u147 u148 u149 u150 u151 u152 u153 u154 u155 u156 u157 u158 u159 u160 u161 u162 u163 u164 u165 u166 u167 u168 u169 u170 u171 u172 u173 u174 u175 u176 u177 u178 u179 u180 u181 : Value} (Q : Exit → Act → World → Prop) (hQ : Q = bodyPost Try.prog Try.f5 fun e w' => e = .returned (.bool true) ∧ Below w.heap.size w w') :
    Code.wp Try.prog (tl 14 (Try.f5.body.getD .skip)) Q ⟨#[.string node, .string set, u2, u3, u4, u5, .int .i64 (m : Int), .int .u64 E, u8, u9, u10, u11, .pointer (some ⟨w.heap.size + 2, 0, none⟩), .pointer (some ⟨w.heap.size + 3, 0, none⟩), u14, u15, u16, .pointer (some ⟨Z, 0, none⟩), .pointer (some ⟨Z + 1, 0, none⟩), .pointer (some ⟨s1, 0, none⟩), u20, .int .i64 o1, lastv, u23, .pointer (some ⟨x, 0, none⟩), u25, u26, u27, u28, u29, u30, u31, u32, u33, u34, u35, u36, u37, u38, u39, u40, u41, u42, u43, u44, u45, u46, u47, u48, u49, u50, u51, u52, u53, u54, u55, u56, u57, u58, u59, u60, u61, u62, u63, u64, u65, u66, u67, u68, u69, u70, u71, u72, u73, u74, u75, u76, u77, u78, u79, u80, u81, u82, u83, u84, u85, u86, u87, u88, u89, u90, u91, u92, u93, u94, u95, u96, u97, u98, u99, u100, u101, u102, u103, u104, u105, u106, u107, u108, u109, u110, u111, u112, u113, u114, u115, u116, u117, u118, u119, u120, u121, u122, u123, u124, u125, u126, u127, u128, u129, u130, u131, u132, u133, u134, u135, u136, u137, u138, u139, u140, u141, u142, u143, u144, u145, u146, u147, u148, u149, u150, u151, u152, u153, u154, u155, u156, u157, u158, u159, u160, u161, u162, u163, u164, u165, u166, u167, u168, u169, u170, u171, u172, u173, u174, u175, u176, u177, u178, u179, u180, u181], []⟩ wi := by
  delta Try.f5
  dsimp only [tl, Option.getD_some]
  obtain ⟨z, hz⟩ : ∃ z, z = zeros := ⟨_, rfl⟩
  have lz : z.length = 1024 := by rw [hz, zeros_len]
  have z22 : (Try.prog.info? 22).map (·.zero) = some (some (.agg (bv z))) := by rw [hz]; exact zero22
  have HZ22 : Hid _ := z22
  have HSC : Hid _ := seg_row hF.ev.c
  have HE0 : Hid (over (bv z) 0 (bv R) = bv R) := over_all _ _ (by rw [bv_size, bv_size, hR, lz])
  have HR0 : Hid ((wi.alloc (.cells (bv z) 22)).heap[wi.heap.size]? = some (.cells (bv z) 22)) := heap_alloc_new _ _
  have hb1 : Below wi.heap.size wi ((wi.alloc (.cells (bv z) 22)).setRow wi.heap.size (bv R)) := ((Below.refl _ _).alloc (Nat.le_refl _) _).trans ⟨rfl, rfl, rfl, by simp, fun q hq => setRow_other _ _ _ _ (by omega)⟩
  have HB1 : Hid _ := hb1
  have HR1 : Hid (((wi.alloc (.cells (bv z) 22)).setRow wi.heap.size (bv R)).heap[wi.heap.size]? = some (.cells (bv R) 22)) := setRow_heap _ _ _ _ _ _ HR0.out
  have HF : Hid _ := hF
  have HX : Hid _ := hx
  have HY : Hid _ := hY
  have HQ : Hid _ := hQ
  have HQE : Hid (R1 = addL R (Plain.hash node.data.toList) ∧ q = (Rk.zero.merge ⟨f0, f1, m⟩).add own ∧ rank = (rankL node.data.toList set.data.toList) ∧ own = rankAtI rank E) := ⟨hR1e, hqe, hrk, how⟩
  clear hz z22 hF hx hY hQ hqe hrk how hR1e hb1
  apply wp_seq_k; intro K1 aK1
  have HK : Hid (∀ a w, _ → K1 a w) := aK1
  clear aK1
  go_wp2_with (first
    | (refine wpList_load_seg rfl 22 (.tmp 12) rfl _ _ rfl (bv R) _ (by exact HSC.out) Try.underlying22 rfl (by rw [Try.info22, bv_size, hR]) ?_; simp only [Act.put, List.setIfInBounds_toArray, List.set_cons_succ, List.set_cons_zero])
    | (refine wpList_alloc_row rfl 22 rfl (.agg (bv z)) HZ22.out ?_; rw [cells_agg]; simp only [Act.put, List.setIfInBounds_toArray, List.set_cons_succ, List.set_cons_zero])
    | (refine wpList_store_seg rfl 22 (.tmp 25) (.tmp 104) rfl _ _ (bv R) rfl rfl _ _ (by exact HR0.out) (by rw [Try.info22, bv_size, hR]) (by rw [bv_size, bv_size, hR, lz]; omega) (bv_one _) ?_; rw [HE0.out]; simp only [Act.put, List.setIfInBounds_toArray, List.set_cons_succ, List.set_cons_zero]))
  exact HK.out _ _ (five15 node set rec T R T1 R1 f0 f1 Z s1 t1 rank E own o1 h m lastv tb q w wi _ hT1 hR1 hq hR hs ht hE0 hE1 hm x wi.heap.size HF.out HX.out HR1.out HY.out HB1.out (Nat.le_refl _) HQE.out.1 HQE.out.2.1 HQE.out.2.2.1 HQE.out.2.2.2 Q HQ.out)

set_option maxRecDepth 10000 in
set_option maxHeartbeats 1000000 in
theorem five13 (node set : ByteArray) (rec T R T1 R1 : List UInt8) (f0 f1 : Int) (Z s1 t1 : Nat) (rank E own o1 h : Int) (m : Nat) (lastv : Value) (tb : Array Value) (q : Rk) (w wi : World) (hT1 : T1.length = 1024) (hR1 : R1.length = 1024) (hq : q.n ≤ 2) (hrec : rec.length = 1024) (hT : T.length = 1024) (hR : R.length = 1024) (hs : node.size ≤ maxLen) (ht : set.size ≤ maxLen) (hE0 : 0 ≤ E) (hE1 : E ≤ 18446744073709551615) (hm : m ≤ 2) (hF : Fin5 w rec T R f0 f1 Z s1 t1 node set rank h tb (m : Int) E wi) (hY : Way5 (!coversL R1 T1 || q.has own) o1 lastv h tb T1 R1 q E wi) (hT1e : T1 = maxL rec T) (hR1e : R1 = addL R (Plain.hash node.data.toList)) (hqe : q = (Rk.zero.merge ⟨f0, f1, m⟩).add own) (hrk : rank = (rankL node.data.toList set.data.toList)) (how : own = rankAtI rank E)
    {u2 u3 u4 u5 u8 u9 u14 u15 u16 u20 u23 u24 u25 u26 u27 u28 u29 u30 u31 u32 u33 u34 u35 u36 u37 u38 u39 u40 u41 u42 u43 u44 u45 u46 u47 u48 u49 u50 u51 u52 u53 u54 u55 u56 u57 u58 u59 u60 u61 u62 u63 u64 u65 u66 u67 u68 u69 u70 u71 u72 u73 u74 u75 u76 u77 u78 u79 u80 u81 u82 u83 u84 u85 u86 u87 u88 u89 u90 u91 u92 u93 u94 u95 u96 u97 u98 u99 u100 u101 u102 u103 u104 u105 u106 u107 u108 u109 u110 u111 u112 u113 u114 u115 u116 u117 u118 u119 u120 u121 u122 u123 u124 u125 u126 u127 u128 u129 u130 u131 u132 u133 u134 u135 u136 u137 u138 u139 u140 u141 u142 u143 u144 u145 u146 u147 u148 u149 u150 u151 u152 u153 u154 u155 u156 u157 u158 u159 u160 u161 u162 u163 u164 u165 u166 u167 u168 u169 u170 u171 u172 u173 u174 u175 u176 u177 u178 u179 u180 u181 : Value} (Q : Exit → Act → World → Prop) (hQ : Q = bodyPost Try.prog Try.f5 fun e w' => e = .returned (.bool true) ∧ Below w.heap.size w w') :
    Code.wp Try.prog (tl 13 (Try.f5.body.getD .skip)) Q ⟨#[.string node, .string set, u2, u3, u4, u5, .int .i64 (m : Int), .int .u64 E, u8, u9, .pointer (some ⟨w.heap.size, 0, none⟩), .pointer (some ⟨w.heap.size + 1, 0, none⟩), .pointer (some ⟨w.heap.size + 2, 0, none⟩), .pointer (some ⟨w.heap.size + 3, 0, none⟩), u14, u15, u16, .pointer (some ⟨Z, 0, none⟩), .pointer (some ⟨Z + 1, 0, none⟩), .pointer (some ⟨s1, 0, none⟩), u20, .int .i64 o1, lastv, u23, u24, u25, u26, u27, u28, u29, u30, u31, u32, u33, u34, u35, u36, u37, u38, u39, u40, u41, u42, u43, u44, u45, u46, u47, u48, u49, u50, u51, u52, u53, u54, u55, u56, u57, u58, u59, u60, u61, u62, u63, u64, u65, u66, u67, u68, u69, u70, u71, u72, u73, u74, u75, u76, u77, u78, u79, u80, u81, u82, u83, u84, u85, u86, u87, u88, u89, u90, u91, u92, u93, u94, u95, u96, u97, u98, u99, u100, u101, u102, u103, u104, u105, u106, u107, u108, u109, u110, u111, u112, u113, u114, u115, u116, u117, u118, u119, u120, u121, u122, u123, u124, u125, u126, u127, u128, u129, u130, u131, u132, u133, u134, u135, u136, u137, u138, u139, u140, u141, u142, u143, u144, u145, u146, u147, u148, u149, u150, u151, u152, u153, u154, u155, u156, u157, u158, u159, u160, u161, u162, u163, u164, u165, u166, u167, u168, u169, u170, u171, u172, u173, u174, u175, u176, u177, u178, u179, u180, u181], []⟩ wi := by
  delta Try.f5
  dsimp only [tl, Option.getD_some]
  obtain ⟨z, hz⟩ : ∃ z, z = zeros := ⟨_, rfl⟩
  have lz : z.length = 1024 := by rw [hz, zeros_len]
  have z22 : (Try.prog.info? 22).map (·.zero) = some (some (.agg (bv z))) := by rw [hz]; exact zero22
  have HZ22 : Hid _ := z22
  have HC : Hid _ := zzmax_any rec T wi hrec hT
  rw [← hT1e] at HC
  have HSA : Hid _ := seg_row hF.ev.a
  have HSB : Hid _ := seg_row hF.ev.b
  have HE0 : Hid (over (bv z) 0 (bv T1) = bv T1) := over_all _ _ (by rw [bv_size, bv_size, hT1, lz])
  have HF : Hid _ := hF
  have HY : Hid _ := hY
  have HQ : Hid _ := hQ
  have HQE : Hid (R1 = addL R (Plain.hash node.data.toList) ∧ q = (Rk.zero.merge ⟨f0, f1, m⟩).add own ∧ rank = (rankL node.data.toList set.data.toList) ∧ own = rankAtI rank E) := ⟨hR1e, hqe, hrk, how⟩
  clear hz z22 hF hY hQ hqe hrk how hR1e hT1e
  apply wp_seq_k; intro K1 aK1
  have HK : Hid (∀ a w, _ → K1 a w) := aK1
  clear aK1
  go_wp2_with (first
    | (refine wpList_load_seg rfl 22 (.tmp 10) rfl _ _ rfl (bv rec) _ (by exact HSA.out) Try.underlying22 rfl (by rw [Try.info22, bv_size, hrec]) ?_; simp only [Act.put, List.setIfInBounds_toArray, List.set_cons_succ, List.set_cons_zero])
    | (refine wpList_load_seg rfl 22 (.tmp 11) rfl _ _ rfl (bv T) _ (by exact HSB.out) Try.underlying22 rfl (by rw [Try.info22, bv_size, hT]) ?_; simp only [Act.put, List.setIfInBounds_toArray, List.set_cons_succ, List.set_cons_zero]))
  refine Calls.mono HC.out ?_
  rintro e w1 ⟨rfl, hb1⟩
  have HR0 : Hid ((w1.alloc (.cells (bv z) 22)).heap[w1.heap.size]? = some (.cells (bv z) 22)) := heap_alloc_new _ _
  have hb2 : Below w1.heap.size w1 ((w1.alloc (.cells (bv z) 22)).setRow w1.heap.size (bv T1)) := ((Below.refl _ _).alloc (Nat.le_refl _) _).trans ⟨rfl, rfl, rfl, by simp, fun q hq => setRow_other _ _ _ _ (by omega)⟩
  have HB2 : Hid (Below wi.heap.size wi ((w1.alloc (.cells (bv z) 22)).setRow w1.heap.size (bv T1))) := hb1.trans (hb2.mono hb1.size)
  have HRT : Hid (((w1.alloc (.cells (bv z) 22)).setRow w1.heap.size (bv T1)).heap[w1.heap.size]? = some (.cells (bv T1) 22)) := setRow_heap _ _ _ _ _ _ HR0.out
  clear hb1 hb2 HC HSA HSB
  go_wp2_with (first
    | (refine wpList_alloc_row rfl 22 rfl (.agg (bv z)) HZ22.out ?_; rw [cells_agg]; simp only [Act.put, List.setIfInBounds_toArray, List.set_cons_succ, List.set_cons_zero])
    | (refine wpList_store_seg rfl 22 (.tmp 24) (.tmp 103) rfl _ _ (bv T1) rfl rfl _ _ (by exact HR0.out) (by rw [Try.info22, bv_size, hT1]) (by rw [bv_size, bv_size, hT1, lz]; omega) (bv_one _) ?_; rw [HE0.out]; simp only [Act.put, List.setIfInBounds_toArray, List.set_cons_succ, List.set_cons_zero]))
  exact HK.out _ _ (five14 node set rec T R T1 R1 f0 f1 Z s1 t1 rank E own o1 h m lastv tb q w _ hT1 hR1 hq hR hs ht hE0 hE1 hm w1.heap.size (HF.out.later HB2.out) HRT.out (Way5.later HY.out HB2.out) HQE.out.1 HQE.out.2.1 HQE.out.2.2.1 HQE.out.2.2.2 Q HQ.out)
end Go.Proofs.Qxb6612204a
