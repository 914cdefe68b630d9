import Derived.Test.Qxb6612204aFvD
namespace Go.Proofs.Qxb6612204a
open Go.RowKit Plain
set_option linter.unusedVariables false
set_option linter.unusedSimpArgs false

set_option maxRecDepth 10000 in
set_option maxHeartbeats 1000000 in
theorem five17 (node set : ByteArray) (rec T R T1 R1 : List UInt8) (f0 f1 : Int) (Z s1 t1 : Nat) (rank E own o1 h : Int) (m : Nat) (lastv : Value) (tb : Array Value) (q : Rk) (w wi : World) (hT1 : T1.length = 1024) (hR1 : R1.length = 1024) (hq : q.n ≤ 2) (hm : m ≤ 2) (x y : Nat) (hF : Fin5 w rec T R f0 f1 Z s1 t1 node set rank h tb (m : Int) E wi) (hx : wi.heap[x]? = some (.cells (bv T1) 22)) (hy : wi.heap[y]? = some (.cells (bv R1) 22)) (hY : Way5 (!coversL R1 T1 || q.has own) o1 lastv h tb T1 R1 q E wi) (hqe : q = (Rk.zero.merge ⟨f0, f1, m⟩).add own)
    {u0 u1 u2 u3 u4 u5 u8 u9 u10 u11 u12 u14 u15 u16 u20 u23 u27 u28 u29 u30 u31 u32 u33 u34 u35 u36 u37 u38 u39 u40 u41 u42 u43 u44 u45 u46 u47 u48 u49 u50 u51 u52 u53 u54 u55 u56 u57 u58 u59 u60 u61 u62 u63 u64 u65 u66 u67 u68 u69 u70 u71 u72 u73 u74 u75 u76 u77 u78 u79 u80 u81 u82 u83 u84 u85 u86 u87 u88 u89 u90 u91 u92 u93 u94 u95 u96 u97 u98 u99 u100 u101 u102 u103 u104 u105 u106 u107 u108 u109 u110 u111 u112 u113 u114 u115 u116 u117 u118 u119 u120 u121 u122 u123 u124 u125 u126 u127 u128 u129 u130 u131 u132 u133 u134 u135 u136 u137 u138 u139 u140 u141 u142 u143 u144 u145 u146 u147 u148 u149 u150 u151 u152 u153 u154 u155 u156 u157 u158 u159 u160 u161 u162 u163 u164 u165 u166 u167 u168 u169 u170 u171 u172 u173 u174 u175 u176 u177 u178 u179 u180 u181 : Value} (Q : Exit → Act → World → Prop) (hQ : Q = bodyPost Try.prog Try.f5 fun e w' => e = .returned (.bool true) ∧ Below w.heap.size w w') :
    Code.wp Try.prog (tl 17 (Try.f5.body.getD .skip)) Q ⟨#[u0, u1, u2, u3, u4, u5, .int .i64 (m : Int), .int .u64 E, u8, u9, u10, u11, u12, .pointer (some ⟨w.heap.size + 3, 0, none⟩), u14, u15, u16, .pointer (some ⟨Z, 0, none⟩), .pointer (some ⟨Z + 1, 0, none⟩), .pointer (some ⟨s1, 0, none⟩), u20, .int .i64 o1, lastv, u23, .pointer (some ⟨x, 0, none⟩), .pointer (some ⟨y, 0, none⟩), .int .u64 own, u27, u28, u29, u30, u31, u32, u33, u34, u35, u36, u37, u38, u39, u40, u41, u42, u43, u44, u45, u46, u47, u48, u49, u50, u51, u52, u53, u54, u55, u56, u57, u58, u59, u60, u61, u62, u63, u64, u65, u66, u67, u68, u69, u70, u71, u72, u73, u74, u75, u76, u77, u78, u79, u80, u81, u82, u83, u84, u85, u86, u87, u88, u89, u90, u91, u92, u93, u94, u95, u96, u97, u98, u99, u100, u101, u102, u103, u104, u105, u106, u107, u108, u109, u110, u111, u112, u113, u114, u115, u116, u117, u118, u119, u120, u121, u122, u123, u124, u125, u126, u127, u128, u129, u130, u131, u132, u133, u134, u135, u136, u137, u138, u139, u140, u141, u142, u143, u144, u145, u146, u147, u148, u149, u150, u151, u152, u153, u154, u155, u156, u157, u158, u159, u160, u161, u162, u163, u164, u165, u166, u167, u168, u169, u170, u171, u172, u173, u174, u175, u176, u177, u178, u179, u180, u181], []⟩ wi := by
  delta Try.f5
  dsimp only [tl, Option.getD_some]
  have HC : Hid _ := lowest_any f0 f1 own m hm wi
  rw [← hqe] at HC
  have HF : Hid _ := hF
  have HX : Hid _ := hx
  have HYr : Hid _ := hy
  have HY : Hid _ := hY
  have HQ : Hid _ := hQ
  have HSD : Hid _ := seg_row hF.ev.d
  clear hF hx hy hY hQ hqe
  apply wp_seq_k; intro K1 aK1
  have HK : Hid (∀ a w, _ → K1 a w) := aK1
  clear aK1
  go_wp2_with (first
    | (refine wpList_load_seg rfl 24 (.tmp 13) rfl _ _ rfl #[.int .u64 f0, .int .u64 f1] _ (by exact HSD.out) Try.underlying24 rfl info24 ?_; simp only [Act.put, List.setIfInBounds_toArray, List.set_cons_succ, List.set_cons_zero]))
  refine Calls.mono HC.out ?_
  rintro e w1 ⟨rfl, hb1⟩
  have HB : Hid _ := hb1
  clear hb1 HC
  go_wp2_with fail
  have hb2 : Below wi.heap.size wi (w1.alloc (.cells #[.int .u64 q.r0, .int .u64 q.r1] 24)) := HB.out.alloc HB.out.size _
  refine HK.out _ _ (five18 node set rec T R T1 R1 f0 f1 Z s1 t1 rank (m : Int) E own o1 h lastv tb q w _ hT1 hR1 hq x y w1.heap.size (HF.out.later hb2) ⟨?_, ?_, ?_⟩ (Way5.later HY.out hb2) Q HQ.out)
  · exact (hb2.block _ (Array.getElem?_eq_some_iff.1 HX.out).1).trans HX.out
  · exact (hb2.block _ (Array.getElem?_eq_some_iff.1 HYr.out).1).trans HYr.out
  · exact heap_alloc_new _ _


set_option maxRecDepth 10000 in
set_option maxHeartbeats 1000000 in
theorem five16 (node set : ByteArray) (rec T R T1 R1 : List UInt8) (f0 f1 : Int) (Z s1 t1 : Nat) (rank E own o1 h : Int) (m : Nat) (lastv : Value) (tb : Array Value) (q : Rk) (w wi : World) (hT1 : T1.length = 1024) (hR1 : R1.length = 1024) (hq : q.n ≤ 2) (hs : node.size ≤ maxLen) (ht : set.size ≤ maxLen) (hE0 : 0 ≤ E) (hE1 : E ≤ 18446744073709551615) (hm : m ≤ 2) (x y : Nat) (hF : Fin5 w rec T R f0 f1 Z s1 t1 node set rank h tb (m : Int) E wi) (hx : wi.heap[x]? = some (.cells (bv T1) 22)) (hy : wi.heap[y]? = some (.cells (bv R1) 22)) (hY : Way5 (!coversL R1 T1 || q.has own) o1 lastv h tb T1 R1 q E wi) (hqe : q = (Rk.zero.merge ⟨f0, f1, m⟩).add own) (hrk : rank = (rankL node.data.toList set.data.toList)) (how : own = rankAtI rank E)
    {u2 u3 u4 u5 u8 u9 u10 u11 u12 u14 u15 u16 u20 u23 u26 u27 u28 u29 u30 u31 u32 u33 u34 u35 u36 u37 u38 u39 u40 u41 u42 u43 u44 u45 u46 u47 u48 u49 u50 u51 u52 u53 u54 u55 u56 u57 u58 u59 u60 u61 u62 u63 u64 u65 u66 u67 u68 u69 u70 u71 u72 u73 u74 u75 u76 u77 u78 u79 u80 u81 u82 u83 u84 u85 u86 u87 u88 u89 u90 u91 u92 u93 u94 u95 u96 u97 u98 u99 u100 u101 u102 u103 u104 u105 u106 u107 u108 u109 u110 u111 u112 u113 u114 u115 u116 u117 u118 u119 u120 u121 u122 u123 u124 u125 u126 u127 u128 u129 u130 u131 u132 u133 u134 u135 u136 u137 u138 u139 u140 u141 u142 u143 u144 u145 u146 u147 u148 u149 u150 u151 u152 u153 u154 u155 u156 u157 u158 u159 u160 u161 u162 u163 u164 u165 u166 u167 u168 u169 u170 u171 u172 u173 u174 u175 u176 u177 u178 u179 u180 u181 : Value} (Q : Exit → Act → World → Prop) (hQ : Q = bodyPost Try.prog Try.f5 fun e w' => e = .returned (.bool true) ∧ Below w.heap.size w w') :
    Code.wp Try.prog (tl 16 (Try.f5.body.getD .skip)) Q ⟨#[.string node, .string set, u2, u3, u4, u5, .int .i64 (m : Int), .int .u64 E, u8, u9, u10, u11, u12, .pointer (some ⟨w.heap.size + 3, 0, none⟩), u14, u15, u16, .pointer (some ⟨Z, 0, none⟩), .pointer (some ⟨Z + 1, 0, none⟩), .pointer (some ⟨s1, 0, none⟩), u20, .int .i64 o1, lastv, u23, .pointer (some ⟨x, 0, none⟩), .pointer (some ⟨y, 0, none⟩), u26, u27, u28, u29, u30, u31, u32, u33, u34, u35, u36, u37, u38, u39, u40, u41, u42, u43, u44, u45, u46, u47, u48, u49, u50, u51, u52, u53, u54, u55, u56, u57, u58, u59, u60, u61, u62, u63, u64, u65, u66, u67, u68, u69, u70, u71, u72, u73, u74, u75, u76, u77, u78, u79, u80, u81, u82, u83, u84, u85, u86, u87, u88, u89, u90, u91, u92, u93, u94, u95, u96, u97, u98, u99, u100, u101, u102, u103, u104, u105, u106, u107, u108, u109, u110, u111, u112, u113, u114, u115, u116, u117, u118, u119, u120, u121, u122, u123, u124, u125, u126, u127, u128, u129, u130, u131, u132, u133, u134, u135, u136, u137, u138, u139, u140, u141, u142, u143, u144, u145, u146, u147, u148, u149, u150, u151, u152, u153, u154, u155, u156, u157, u158, u159, u160, u161, u162, u163, u164, u165, u166, u167, u168, u169, u170, u171, u172, u173, u174, u175, u176, u177, u178, u179, u180, u181], []⟩ wi := by
  delta Try.f5
  dsimp only [tl, Option.getD_some]
  have HC : Hid _ := zzrank_any node set wi hs ht
  rw [← hrk] at HC
  have bd := rankL_bd node.data.toList set.data.toList
  rw [← hrk] at bd
  have HC2 : Hid _ := zzrankAt_any rank E wi bd.1 bd.2 hE0 hE1
  rw [← how] at HC2
  have HF : Hid _ := hF
  have HX : Hid _ := hx
  have HYr : Hid _ := hy
  have HY : Hid _ := hY
  have HQ : Hid _ := hQ
  have HQE : Hid _ := hqe
  clear hF hx hy hY hQ hqe hrk how bd
  apply wp_seq_k; intro K1 aK1
  have HK : Hid (∀ a w, _ → K1 a w) := aK1
  clear aK1
  go_wp2_with fail
  refine Calls.mono HC.out ?_
  rintro e w1 ⟨rfl, rfl⟩
  go_wp2_with fail
  refine Calls.mono HC2.out ?_
  rintro e w2 ⟨rfl, rfl⟩
  go_wp2_with fail
  exact HK.out _ _ (five17 node set rec T R T1 R1 f0 f1 Z s1 t1 rank E own o1 h m lastv tb q w _ hT1 hR1 hq hm x y HF.out HX.out HYr.out HY.out HQE.out Q HQ.out)
end Go.Proofs.Qxb6612204a
