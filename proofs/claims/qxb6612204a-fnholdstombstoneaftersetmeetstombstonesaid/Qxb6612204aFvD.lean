import Derived.Test.Qxb6612204aFvC
namespace Go.Proofs.Qxb6612204a
open Go.RowKit Plain
set_option linter.unusedVariables false
set_option linter.unusedSimpArgs false

/-- which of the two ways ReceiveTombstone went -/
def Way5 (kept : Bool) (o1 : Int) (lastv : Value) (h : Int) (tb : Array Value) (T1 R1 : List UInt8) (q : Rk) (E : Int) (wi : World) : Prop :=
  (kept = true ∧ o1 = 1 ∧ lastv = .pointer none ∧ h = 2 ∧ tb = (tombRow T1 R1 q.r0 q.r1 (q.n : Int) E)) ∨
  (kept = false ∧ o1 = 2 ∧ h = 0 ∧ tb = tombRow zeros zeros 0 0 0 0 ∧ ∃ L, lastv = .pointer (some ⟨L, 0, none⟩) ∧ wi.heap[L]? = some (.cells (tombRow T1 R1 q.r0 q.r1 (q.n : Int) E) 61))
theorem Way5.later {kept : Bool} {o1 : Int} {lastv : Value} {h : Int} {tb : Array Value} {T1 R1 : List UInt8} {q : Rk} {E : Int} {wi w2 : World} (k : Way5 kept o1 lastv h tb T1 R1 q E wi) (hb : Below wi.heap.size wi w2) : Way5 kept o1 lastv h tb T1 R1 q E w2 := by
  rcases k with k | ⟨k1, k2, k3, k4, L, k5, k6⟩
  · exact Or.inl k
  · exact Or.inr ⟨k1, k2, k3, k4, L, k5, (hb.block _ (Array.getElem?_eq_some_iff.1 k6).1).trans k6⟩

theorem fin_both (node set : ByteArray) (rec T R T1 R1 : List UInt8) (f0 f1 : Int) (Z s1 t1 : Nat) (rank n E own o1 h : Int) (lastv : Value) (tb : Array Value) (q : Rk) (w wi : World) (hT1 : T1.length = 1024) (hR1 : R1.length = 1024) (hq : q.n ≤ 2) (x y v : Nat) (k : Bool) (hk : k = (!coversL R1 T1 || q.has own)) (hF : Fin5 w rec T R f0 f1 Z s1 t1 node set rank h tb n E wi) (hW : Wn x y v T1 R1 q wi) (hY : Way5 (!coversL R1 T1 || q.has own) o1 lastv h tb T1 R1 q E wi)
    {u0 u1 u2 u3 u4 u5 u6 u8 u9 u10 u11 u12 u13 u14 u15 u16 u20 u23 u26 u30 u31 u32 u33 u34 u35 u36 u37 u38 u39 u40 u41 u42 u43 u44 u45 u46 u47 u48 u49 u50 u51 u52 u53 u54 u55 u56 u57 u58 u59 u60 u61 u62 u63 u64 u65 u66 u67 u68 u69 u70 u71 u72 u73 u74 u75 u76 u77 u78 u79 u80 u81 u82 u83 u84 u85 u86 u87 u88 u89 u90 u91 u92 u93 u94 u95 u96 u97 u98 u99 u100 u101 u102 u103 u104 u105 u106 u107 u108 u109 u110 u111 u112 u113 u114 u115 u116 u117 u118 u119 u120 u121 u122 u123 u124 u125 u126 u127 u128 u129 u130 u131 u132 u133 u134 u135 u136 u137 u138 u139 u140 u141 u142 u143 u144 u145 u146 u147 u148 u149 u150 u151 u152 u153 u154 u155 u156 u157 u158 u159 u160 u161 u162 u163 u164 u165 u166 u167 u168 u169 u170 u171 u172 u173 u174 u175 u176 u177 u178 u179 u180 u181 : Value} (Q : Exit → Act → World → Prop) (hQ : Q = bodyPost Try.prog Try.f5 fun e w' => e = .returned (.bool true) ∧ Below w.heap.size w w') :
    Code.wp Try.prog (tl 19 (Try.f5.body.getD .skip)) Q ⟨#[u0, u1, u2, u3, u4, u5, u6, .int .u64 E, u8, u9, u10, u11, u12, u13, u14, u15, u16, .pointer (some ⟨Z, 0, none⟩), .pointer (some ⟨Z + 1, 0, none⟩), .pointer (some ⟨s1, 0, none⟩), u20, .int .i64 o1, lastv, u23, .pointer (some ⟨x, 0, none⟩), .pointer (some ⟨y, 0, none⟩), u26, .pointer (some ⟨v, 0, none⟩), .int .i64 (q.n : Int), .bool k, u30, u31, u32, u33, u34, u35, u36, u37, u38, u39, u40, u41, u42, u43, u44, u45, u46, u47, u48, u49, u50, u51, u52, u53, u54, u55, u56, u57, u58, u59, u60, u61, u62, u63, u64, u65, u66, u67, u68, u69, u70, u71, u72, u73, u74, u75, u76, u77, u78, u79, u80, u81, u82, u83, u84, u85, u86, u87, u88, u89, u90, u91, u92, u93, u94, u95, u96, u97, u98, u99, u100, u101, u102, u103, u104, u105, u106, u107, u108, u109, u110, u111, u112, u113, u114, u115, u116, u117, u118, u119, u120, u121, u122, u123, u124, u125, u126, u127, u128, u129, u130, u131, u132, u133, u134, u135, u136, u137, u138, u139, u140, u141, u142, u143, u144, u145, u146, u147, u148, u149, u150, u151, u152, u153, u154, u155, u156, u157, u158, u159, u160, u161, u162, u163, u164, u165, u166, u167, u168, u169, u170, u171, u172, u173, u174, u175, u176, u177, u178, u179, u180, u181], []⟩ wi := by
  rcases hY with ⟨k1, rfl, rfl, rfl, rfl⟩ | ⟨k1, rfl, rfl, rfl, L, rfl, k6⟩
  · obtain rfl : k = true := hk.trans k1
    exact fin_kept node set rec T R T1 R1 f0 f1 Z s1 t1 x y v rank n E q w wi hT1 hR1 hF hW Q hQ
  · obtain rfl : k = false := hk.trans k1
    exact fin_step node set rec T R T1 R1 f0 f1 Z s1 t1 x y v L rank n E q w wi hT1 hR1 hF hW k6 Q hQ

set_option maxRecDepth 10000 in
set_option maxHeartbeats 1000000 in
theorem five18 (node set : ByteArray) (rec T R T1 R1 : List UInt8) (f0 f1 : Int) (Z s1 t1 : Nat) (rank n E own o1 h : Int) (lastv : Value) (tb : Array Value) (q : Rk) (w wi : World) (hT1 : T1.length = 1024) (hR1 : R1.length = 1024) (hq : q.n ≤ 2) (x y v : Nat) (hF : Fin5 w rec T R f0 f1 Z s1 t1 node set rank h tb n E wi) (hW : Wn x y v T1 R1 q wi) (hY : Way5 (!coversL R1 T1 || q.has own) o1 lastv h tb T1 R1 q E wi)
    {u0 u1 u2 u3 u4 u5 u6 u8 u9 u10 u11 u12 u13 u14 u15 u16 u20 u23 u29 u30 u31 u32 u33 u34 u35 u36 u37 u38 u39 u40 u41 u42 u43 u44 u45 u46 u47 u48 u49 u50 u51 u52 u53 u54 u55 u56 u57 u58 u59 u60 u61 u62 u63 u64 u65 u66 u67 u68 u69 u70 u71 u72 u73 u74 u75 u76 u77 u78 u79 u80 u81 u82 u83 u84 u85 u86 u87 u88 u89 u90 u91 u92 u93 u94 u95 u96 u97 u98 u99 u100 u101 u102 u103 u104 u105 u106 u107 u108 u109 u110 u111 u112 u113 u114 u115 u116 u117 u118 u119 u120 u121 u122 u123 u124 u125 u126 u127 u128 u129 u130 u131 u132 u133 u134 u135 u136 u137 u138 u139 u140 u141 u142 u143 u144 u145 u146 u147 u148 u149 u150 u151 u152 u153 u154 u155 u156 u157 u158 u159 u160 u161 u162 u163 u164 u165 u166 u167 u168 u169 u170 u171 u172 u173 u174 u175 u176 u177 u178 u179 u180 u181 : Value} (Q : Exit → Act → World → Prop) (hQ : Q = bodyPost Try.prog Try.f5 fun e w' => e = .returned (.bool true) ∧ Below w.heap.size w w') :
    Code.wp Try.prog (tl 18 (Try.f5.body.getD .skip)) Q ⟨#[u0, u1, u2, u3, u4, u5, u6, .int .u64 E, u8, u9, u10, u11, u12, u13, u14, u15, u16, .pointer (some ⟨Z, 0, none⟩), .pointer (some ⟨Z + 1, 0, none⟩), .pointer (some ⟨s1, 0, none⟩), u20, .int .i64 o1, lastv, u23, .pointer (some ⟨x, 0, none⟩), .pointer (some ⟨y, 0, none⟩), .int .u64 own, .pointer (some ⟨v, 0, none⟩), .int .i64 (q.n : Int), u29, u30, u31, u32, u33, u34, u35, u36, u37, u38, u39, u40, u41, u42, u43, u44, u45, u46, u47, u48, u49, u50, u51, u52, u53, u54, u55, u56, u57, u58, u59, u60, u61, u62, u63, u64, u65, u66, u67, u68, u69, u70, u71, u72, u73, u74, u75, u76, u77, u78, u79, u80, u81, u82, u83, u84, u85, u86, u87, u88, u89, u90, u91, u92, u93, u94, u95, u96, u97, u98, u99, u100, u101, u102, u103, u104, u105, u106, u107, u108, u109, u110, u111, u112, u113, u114, u115, u116, u117, u118, u119, u120, u121, u122, u123, u124, u125, u126, u127, u128, u129, u130, u131, u132, u133, u134, u135, u136, u137, u138, u139, u140, u141, u142, u143, u144, u145, u146, u147, u148, u149, u150, u151, u152, u153, u154, u155, u156, u157, u158, u159, u160, u161, u162, u163, u164, u165, u166, u167, u168, u169, u170, u171, u172, u173, u174, u175, u176, u177, u178, u179, u180, u181], []⟩ wi := by
  delta Try.f5
  dsimp only [tl, Option.getD_some]
  have HF : Hid _ := hF
  have HW : Hid _ := hW
  have HY : Hid _ := hY
  have HQ : Hid _ := hQ
  have HC : Hid _ := zzcovers_any y 0 x 0 R1 T1 wi hR1 hT1 (seg_row hW.y) (seg_row hW.x) (Array.getElem?_eq_some_iff.1 hW.y).1 (Array.getElem?_eq_some_iff.1 hW.x).1
  obtain ⟨c, hc⟩ : ∃ c, coversL R1 T1 = c := ⟨_, rfl⟩
  obtain ⟨b, hbb⟩ : ∃ b, q.has own = b := ⟨_, rfl⟩
  have HCC : Hid (coversL R1 T1 = c ∧ q.has own = b) := ⟨hc, hbb⟩
  rw [hc] at HC
  clear hF hW hY hQ hc hbb
  apply wp_seq_k; intro K1 aK1
  have HK : Hid (∀ a w, _ → K1 a w) := aK1
  clear aK1
  cases c
  · go_wp2_with fail
    refine Calls.mono HC.out ?_
    rintro e w1 ⟨rfl, hb1⟩
    have HB : Hid _ := hb1
    clear hb1
    go_wp2_with fail
    exact HK.out _ _ (fin_both node set rec T R T1 R1 f0 f1 Z s1 t1 rank n E own o1 h lastv tb q w w1 hT1 hR1 hq x y v _ (by rw [HCC.out.1]; rfl) (HF.out.later HB.out) (HW.out.later HB.out) (Way5.later HY.out HB.out) Q HQ.out)
  · go_wp2_with fail
    refine Calls.mono HC.out ?_
    rintro e w1 ⟨rfl, hb1⟩
    have HW1 : Hid _ := HW.out.later hb1
    have HF1 : Hid _ := HF.out.later hb1
    have HY1 : Hid _ := Way5.later HY.out hb1
    have HSV : Hid _ := seg_row HW1.out.v
    have HI : Hid _ := in2_any q.r0 q.r1 q.n hq own w1
    have e2 : Rk.has ⟨q.r0, q.r1, q.n⟩ own = b := HCC.out.2
    rw [e2] at HI
    clear hb1 HF HW HY e2 HC
    go_wp2_with (first
      | (refine wpList_load_want (by rfl) 24 (.tmp 27) rfl _ _ rfl #[.int .u64 q.r0, .int .u64 q.r1] _ (by exact HSV.out) Try.underlying24 rfl info24 ?_; simp only [Act.put, List.setIfInBounds_toArray, List.set_cons_succ, List.set_cons_zero]))
    refine Calls.mono HI.out ?_
    rintro e w2 ⟨rfl, hb2⟩
    have HB : Hid _ := hb2
    clear hb2
    go_wp2_with fail
    exact HK.out _ _ (fin_both node set rec T R T1 R1 f0 f1 Z s1 t1 rank n E own o1 h lastv tb q w w2 hT1 hR1 hq x y v _ (by rw [HCC.out.1, HCC.out.2]; simp) (HF1.out.later HB.out) (HW1.out.later HB.out) (Way5.later HY1.out HB.out) Q HQ.out)
end Go.Proofs.Qxb6612204a
