import Derived.Test.Qxb6612204aFvG
namespace Go.Proofs.Qxb6612204a
open Go.RowKit Plain
set_option linter.unusedVariables false
set_option linter.unusedSimpArgs false

set_option maxRecDepth 10000 in
set_option maxHeartbeats 1000000 in
theorem five9 (node set : ByteArray) (rec T R T1 R1 : List UInt8) (f0 f1 : Int) (Z s1 t1 : Nat) (rank E own : Int) (m : Nat) (q : Rk) (w wi : World) (hT1 : T1.length = 1024) (hR1 : R1.length = 1024) (hq : q.n ≤ 2) (hrec : rec.length = 1024) (hT : T.length = 1024) (hR : R.length = 1024) (hs : node.size ≤ maxLen) (ht : set.size ≤ maxLen) (hE0 : 0 ≤ E) (hE1 : E ≤ 18446744073709551615) (hm : m ≤ 2) (hV : Ev w rec T R f0 f1 Z wi) (hg1 : wi.heap[s1]? = some (.cells (stRow node set rank 1 rec (tombRow zeros zeros 0 0 0 0)) 64)) (hg2 : wi.heap[t1]? = some (.cells (tombRow T R f0 f1 (m : Int) E) 61)) (hz1 : Z + 1 < s1) (hz2 : t1 ≠ s1) (hT1e : T1 = maxL rec T) (hR1e : R1 = addL R (Plain.hash node.data.toList)) (hqe : q = (Rk.zero.merge ⟨f0, f1, m⟩).add own) (hrk : rank = (rankL node.data.toList set.data.toList)) (how : own = rankAtI rank E)
    {u2 u3 u4 u5 u8 u9 u14 u15 u16 u21 u22 u23 u24 u25 u26 u27 u28 u29 u30 u31 u32 u33 u34 u35 u36 u37 u38 u39 u40 u41 u42 u43 u44 u45 u46 u47 u48 u49 u50 u51 u52 u53 u54 u55 u56 u57 u58 u59 u60 u61 u62 u63 u64 u65 u66 u67 u68 u69 u70 u71 u72 u73 u74 u75 u76 u77 u78 u79 u80 u81 u82 u83 u84 u85 u86 u87 u88 u89 u90 u91 u92 u93 u94 u95 u96 u97 u98 u99 u100 u101 u102 u103 u104 u105 u106 u107 u108 u109 u110 u111 u112 u113 u114 u115 u116 u117 u118 u119 u120 u121 u122 u123 u124 u125 u126 u127 u128 u129 u130 u131 u132 u133 u134 u135 u136 u137 u138 u139 u140 u141 u142 u143 u144 u145 u146 u147 u148 u149 u150 u151 u152 u153 u154 u155 u156 u157 u158 u159 u160 u161 u162 u163 u164 u165 u166 u167 u168 u169 u170 u171 u172 u173 u174 u175 u176 u177 u178 u179 u180 u181 : Value} (Q : Exit → Act → World → Prop) (hQ : Q = bodyPost Try.prog Try.f5 fun e w' => e = .returned (.bool true) ∧ Below w.heap.size w w') :
    Code.wp Try.prog (tl 9 (Try.f5.body.getD .skip)) Q ⟨#[.string node, .string set, u2, u3, u4, u5, .int .i64 (m : Int), .int .u64 E, u8, u9, .pointer (some ⟨w.heap.size, 0, none⟩), .pointer (some ⟨w.heap.size + 1, 0, none⟩), .pointer (some ⟨w.heap.size + 2, 0, none⟩), .pointer (some ⟨w.heap.size + 3, 0, none⟩), u14, u15, u16, .pointer (some ⟨Z, 0, none⟩), .pointer (some ⟨Z + 1, 0, none⟩), .pointer (some ⟨s1, 0, none⟩), .pointer (some ⟨t1, 0, none⟩), u21, u22, u23, u24, u25, u26, u27, u28, u29, u30, u31, u32, u33, u34, u35, u36, u37, u38, u39, u40, u41, u42, u43, u44, u45, u46, u47, u48, u49, u50, u51, u52, u53, u54, u55, u56, u57, u58, u59, u60, u61, u62, u63, u64, u65, u66, u67, u68, u69, u70, u71, u72, u73, u74, u75, u76, u77, u78, u79, u80, u81, u82, u83, u84, u85, u86, u87, u88, u89, u90, u91, u92, u93, u94, u95, u96, u97, u98, u99, u100, u101, u102, u103, u104, u105, u106, u107, u108, u109, u110, u111, u112, u113, u114, u115, u116, u117, u118, u119, u120, u121, u122, u123, u124, u125, u126, u127, u128, u129, u130, u131, u132, u133, u134, u135, u136, u137, u138, u139, u140, u141, u142, u143, u144, u145, u146, u147, u148, u149, u150, u151, u152, u153, u154, u155, u156, u157, u158, u159, u160, u161, u162, u163, u164, u165, u166, u167, u168, u169, u170, u171, u172, u173, u174, u175, u176, u177, u178, u179, u180, u181], []⟩ wi := by
  delta Try.f5
  dsimp only [tl, Option.getD_some]
  have bd := rankL_bd node.data.toList set.data.toList
  rw [← hrk] at bd
  have hC := receiveTomb_any s1 t1 node set rank rec T R ⟨f0, f1, m⟩ E wi hs hrec hT hR hm bd.1 bd.2 hE0 hE1 hz2 hg1 hg2
  rw [maxL_zeros R hR, ← hR1e, ← hT1e, ← how, ← hqe] at hC
  have HC : Hid _ := hC
  have HV : Hid _ := hV
  have HG2 : Hid _ := hg2
  have HQ : Hid _ := hQ
  have HQE : Hid (T1 = maxL rec T ∧ R1 = addL R (Plain.hash node.data.toList) ∧ q = (Rk.zero.merge ⟨f0, f1, m⟩).add own ∧ rank = (rankL node.data.toList set.data.toList) ∧ own = rankAtI rank E) := ⟨hT1e, hR1e, hqe, hrk, how⟩
  clear hV hg1 hg2 hQ hqe hrk how hR1e hT1e bd hC
  apply wp_seq_k; intro K1 aK1
  have HK : Hid (∀ a w, _ → K1 a w) := aK1
  clear aK1
  go_wp2_with fail
  refine Calls.mono HC.out ?_
  rintro e w1 ⟨hb1, hw1⟩
  have HV1 : Hid _ := HV.out.but hb1 hz1
  have HG3 : Hid (w1.heap[t1]? = some (.cells (tombRow T R f0 f1 (m : Int) E) 61)) := (hb1.block _ (Array.getElem?_eq_some_iff.1 HG2.out).1 hz2).trans HG2.out
  clear HC HV HG2 hb1
  rcases hw1 with ⟨hk, rfl, hg⟩ | ⟨hk, L, hL0, rfl, hl, hg⟩
  · have HG : Hid _ := hg
    have HKP : Hid _ := hk
    clear hg hk
    go_wp2_with fail
    exact HK.out _ _ (five10 node set rec T R T1 R1 f0 f1 Z s1 t1 rank E own 1 2 m (.pointer none) _ q w w1 hT1 hR1 hq hrec hT hR hs ht hE0 hE1 hm ⟨HV1.out, HG.out, HG3.out⟩ (Or.inl ⟨HKP.out, rfl, rfl, rfl, rfl⟩) HQE.out.1 HQE.out.2.1 HQE.out.2.2.1 HQE.out.2.2.2.1 HQE.out.2.2.2.2 Q HQ.out)
  · have HG : Hid _ := hg
    have HKP : Hid _ := hk
    have HL : Hid _ := hl
    clear hg hk hl hL0
    go_wp2_with fail
    exact HK.out _ _ (five10 node set rec T R T1 R1 f0 f1 Z s1 t1 rank E own 2 0 m (.pointer (some ⟨L, 0, none⟩)) _ q w w1 hT1 hR1 hq hrec hT hR hs ht hE0 hE1 hm ⟨HV1.out, HG.out, HG3.out⟩ (Or.inr ⟨HKP.out, rfl, rfl, rfl, L, rfl, HL.out⟩) HQE.out.1 HQE.out.2.1 HQE.out.2.2.1 HQE.out.2.2.2.1 HQE.out.2.2.2.2 Q HQ.out)

set_option maxRecDepth 10000 in
set_option maxHeartbeats 1000000 in
theorem five8 (node set : ByteArray) (rec T R T1 R1 : List UInt8) (f0 f1 : Int) (Z s1 : Nat) (rank E own : Int) (m : Nat) (q : Rk) (w wi : World) (hT1 : T1.length = 1024) (hR1 : R1.length = 1024) (hq : q.n ≤ 2) (hrec : rec.length = 1024) (hT : T.length = 1024) (hR : R.length = 1024) (hs : node.size ≤ maxLen) (ht : set.size ≤ maxLen) (hE0 : 0 ≤ E) (hE1 : E ≤ 18446744073709551615) (hm : m ≤ 2) (hV : Ev w rec T R f0 f1 Z wi) (hg1 : wi.heap[s1]? = some (.cells (stRow node set rank 1 rec (tombRow zeros zeros 0 0 0 0)) 64)) (hz1 : Z + 1 < s1) (hT1e : T1 = maxL rec T) (hR1e : R1 = addL R (Plain.hash node.data.toList)) (hqe : q = (Rk.zero.merge ⟨f0, f1, m⟩).add own) (hrk : rank = (rankL node.data.toList set.data.toList)) (how : own = rankAtI rank E)
    {u2 u3 u4 u5 u8 u9 u14 u15 u16 u20 u21 u22 u23 u24 u25 u26 u27 u28 u29 u30 u31 u32 u33 u34 u35 u36 u37 u38 u39 u40 u41 u42 u43 u44 u45 u46 u47 u48 u49 u50 u51 u52 u53 u54 u55 u56 u57 u58 u59 u60 u61 u62 u63 u64 u65 u66 u67 u68 u69 u70 u71 u72 u73 u74 u75 u76 u77 u78 u79 u80 u81 u82 u83 u84 u85 u86 u87 u88 u89 u90 u91 u92 u93 u94 u95 u96 u97 u98 u99 u100 u101 u102 u103 u104 u105 u106 u107 u108 u109 u110 u111 u112 u113 u114 u115 u116 u117 u118 u119 u120 u121 u122 u123 u124 u125 u126 u127 u128 u129 u130 u131 u132 u133 u134 u135 u136 u137 u138 u139 u140 u141 u142 u143 u144 u145 u146 u147 u148 u149 u150 u151 u152 u153 u154 u155 u156 u157 u158 u159 u160 u161 u162 u163 u164 u165 u166 u167 u168 u169 u170 u171 u172 u173 u174 u175 u176 u177 u178 u179 u180 u181 : Value} (Q : Exit → Act → World → Prop) (hQ : Q = bodyPost Try.prog Try.f5 fun e w' => e = .returned (.bool true) ∧ Below w.heap.size w w') :
    Code.wp Try.prog (tl 8 (Try.f5.body.getD .skip)) Q ⟨#[.string node, .string set, u2, u3, u4, u5, .int .i64 (m : Int), .int .u64 E, u8, u9, .pointer (some ⟨w.heap.size, 0, none⟩), .pointer (some ⟨w.heap.size + 1, 0, none⟩), .pointer (some ⟨w.heap.size + 2, 0, none⟩), .pointer (some ⟨w.heap.size + 3, 0, none⟩), u14, u15, u16, .pointer (some ⟨Z, 0, none⟩), .pointer (some ⟨Z + 1, 0, none⟩), .pointer (some ⟨s1, 0, none⟩), u20, u21, u22, u23, u24, u25, u26, u27, u28, u29, u30, u31, u32, u33, u34, u35, u36, u37, u38, u39, u40, u41, u42, u43, u44, u45, u46, u47, u48, u49, u50, u51, u52, u53, u54, u55, u56, u57, u58, u59, u60, u61, u62, u63, u64, u65, u66, u67, u68, u69, u70, u71, u72, u73, u74, u75, u76, u77, u78, u79, u80, u81, u82, u83, u84, u85, u86, u87, u88, u89, u90, u91, u92, u93, u94, u95, u96, u97, u98, u99, u100, u101, u102, u103, u104, u105, u106, u107, u108, u109, u110, u111, u112, u113, u114, u115, u116, u117, u118, u119, u120, u121, u122, u123, u124, u125, u126, u127, u128, u129, u130, u131, u132, u133, u134, u135, u136, u137, u138, u139, u140, u141, u142, u143, u144, u145, u146, u147, u148, u149, u150, u151, u152, u153, u154, u155, u156, u157, u158, u159, u160, u161, u162, u163, u164, u165, u166, u167, u168, u169, u170, u171, u172, u173, u174, u175, u176, u177, u178, u179, u180, u181], []⟩ wi := by
  delta Try.f5
  dsimp only [tl, Option.getD_some]
  have HC : Hid _ := newTomb_any T R f0 f1 (m : Int) E wi hT hR
  have HSB : Hid _ := seg_row hV.b
  have HSC : Hid _ := seg_row hV.c
  have HSD : Hid _ := seg_row hV.d
  have HV : Hid _ := hV
  have HG1 : Hid _ := hg1
  have hss : s1 < wi.heap.size := (Array.getElem?_eq_some_iff.1 hg1).1
  have HQ : Hid _ := hQ
  have HQE : Hid (T1 = maxL rec T ∧ R1 = addL R (Plain.hash node.data.toList) ∧ q = (Rk.zero.merge ⟨f0, f1, m⟩).add own ∧ rank = (rankL node.data.toList set.data.toList) ∧ own = rankAtI rank E) := ⟨hT1e, hR1e, hqe, hrk, how⟩
  clear hV hg1 hQ hqe hrk how hR1e hT1e
  apply wp_seq_k; intro K1 aK1
  have HK : Hid (∀ a w, _ → K1 a w) := aK1
  clear aK1
  go_wp2_with (first
    | (refine wpList_load_seg rfl 22 (.tmp 11) rfl _ _ rfl (bv T) _ (by exact HSB.out) Try.underlying22 rfl (by rw [Try.info22, bv_size, hT]) ?_; simp only [Act.put, List.setIfInBounds_toArray, List.set_cons_succ, List.set_cons_zero])
    | (refine wpList_load_seg rfl 22 (.tmp 12) rfl _ _ rfl (bv R) _ (by exact HSC.out) Try.underlying22 rfl (by rw [Try.info22, bv_size, hR]) ?_; simp only [Act.put, List.setIfInBounds_toArray, List.set_cons_succ, List.set_cons_zero])
    | (refine wpList_load_seg rfl 24 (.tmp 13) rfl _ _ rfl #[.int .u64 f0, .int .u64 f1] _ (by exact HSD.out) Try.underlying24 rfl info24 ?_; simp only [Act.put, List.setIfInBounds_toArray, List.set_cons_succ, List.set_cons_zero]))
  refine Calls.mono HC.out ?_
  rintro e w1 ⟨rfl, hg, hb1⟩
  have HG2 : Hid _ := hg
  have HB : Hid _ := hb1
  clear hg hb1 HC HSB HSC HSD
  go_wp2_with fail
  exact HK.out _ _ (five9 node set rec T R T1 R1 f0 f1 Z s1 (wi.heap.size + 3) rank E own m q w w1 hT1 hR1 hq hrec hT hR hs ht hE0 hE1 hm (HV.out.later HB.out) ((HB.out.block _ hss).trans HG1.out) HG2.out hz1 (by omega) HQE.out.1 HQE.out.2.1 HQE.out.2.2.1 HQE.out.2.2.2.1 HQE.out.2.2.2.2 Q HQ.out)
end Go.Proofs.Qxb6612204a
