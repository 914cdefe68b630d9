import Derived.Test.Qxb6612204aTail19
namespace Go.Proofs.Qxb6612204a
open Go.RowKit Plain
set_option linter.unusedVariables false

set_option maxRecDepth 10000 in
set_option maxHeartbeats 4000000 in
theorem tail15 (node set : ByteArray) (a b : List UInt8) (Z s1 s2 : Nat) (rank : Int) (w w0 : World) (hs : node.size ≤ maxLen) (ha : a.length = 1024) (hb : b.length = 1024) (hT : Two w a b Z s1 s2 node set rank 0 0 zeros zeros w0)
    {u1 u2 u3 u4 u5 u8 u9 u10 u15 u16 u17 u18 u19 u20 u21 u22 u23 u24 u25 u26 u27 u28 u29 u30 u31 u32 u33 u34 u35 u36 u37 u38 u39 u40 u41 u42 u43 u44 u45 u46 u47 u48 u49 u50 u51 u52 u53 u54 u55 u56 u57 u58 u59 u60 u61 u62 u63 u64 u65 u66 u67 u68 u69 u70 u71 u72 u73 u74 u75 u76 u77 u78 u79 u80 u81 u82 u83 u84 u85 u86 u87 u88 u89 u90 u91 u92 u93 u94 u95 u96 u97 u98 u99 u100 u101 u102 u103 u104 u105 u106 u107 u108 u109 u110 u111 u112 u113 u114 u115 u116 u117 u118 u119 u120 u121 u122 u123 u124 u125 u126 u127 u128 u129 u130 u131 u132 u133 : Value} (Q : Exit → Act → World → Prop) (hQ : Q = bodyPost Try.prog Try.f7 fun e w' => e = .returned (.bool true) ∧ Below w.heap.size w w') :
    Code.wp Try.prog (tl 11 (Try.f7.body.getD .skip)) Q ⟨#[.string node, u1, u2, u3, u4, u5, .pointer (some ⟨w.heap.size, 0, none⟩), .pointer (some ⟨w.heap.size + 1, 0, none⟩), u8, u9, u10, .pointer (some ⟨s1, 0, none⟩), .pointer (some ⟨s2, 0, none⟩), .pointer (some ⟨s1, 4, none⟩), .pointer (some ⟨s2, 4, none⟩), u15, u16, u17, u18, u19, u20, u21, u22, u23, u24, u25, u26, u27, u28, u29, u30, u31, u32, u33, u34, u35, u36, u37, u38, u39, u40, u41, u42, u43, u44, u45, u46, u47, u48, u49, u50, u51, u52, u53, u54, u55, u56, u57, u58, u59, u60, u61, u62, u63, u64, u65, u66, u67, u68, u69, u70, u71, u72, u73, u74, u75, u76, u77, u78, u79, u80, u81, u82, u83, u84, u85, u86, u87, u88, u89, u90, u91, u92, u93, u94, u95, u96, u97, u98, u99, u100, u101, u102, u103, u104, u105, u106, u107, u108, u109, u110, u111, u112, u113, u114, u115, u116, u117, u118, u119, u120, u121, u122, u123, u124, u125, u126, u127, u128, u129, u130, u131, u132, u133], []⟩ w0 := by
  delta Try.f7
  dsimp only [tl, Option.getD_some]
  have HT0 : Hid _ := hT
  have HNS : Hid (node.size ≤ maxLen) := hs
  have HQ : Hid _ := hQ
  clear hs hT
  obtain ⟨r1, hr1⟩ : ∃ r, r = addL (maxL zeros a) (Plain.hash node.data.toList) := ⟨_, rfl⟩
  obtain ⟨r2, hr2⟩ : ∃ r, r = addL (maxL zeros b) (Plain.hash node.data.toList) := ⟨_, rfl⟩
  have l1 : r1.length = 1024 := by rw [hr1, addL_len, maxL_len _ _ (by rw [zeros_len, ha]), zeros_len]
  have l2 : r2.length = 1024 := by rw [hr2, addL_len, maxL_len _ _ (by rw [zeros_len, hb]), zeros_len]
  subst hQ
  go_wp2_with (first
    | (refine wpList_load_seg rfl 22 (.tmp 6) rfl _ _ rfl (bv a) _ ?_ Try.underlying22 rfl ?_ ?_; (exact seg_row HT0.out.env.a); (rw [Try.info22, bv_size, ha]); simp only [Act.put, List.setIfInBounds_toArray, List.set_cons_succ, List.set_cons_zero]))
  refine (newSketch_any a _ ha).mono ?_
  rintro e v0 ⟨rfl, hk, hb', hz⟩
  obtain ⟨p0, hp⟩ : ∃ p, p = w0.heap.size + 1 := ⟨_, rfl⟩
  rw [← hp] at hk hz ⊢
  have hne0 : p0 ≠ s1 := by have := HT0.out.size; have := HT0.out.lt2; omega
  have HV0 : Hid _ := HT0.out.later hb'
  have HK0 : Hid _ := seg_row hk
  clear hp hk hb' hz HT0
  go_wp2_with fail
  refine (receive_any s1 p0 node set rank 0 zeros a tz v0 (by decide) HNS.out zeros_len ha HV0.out.g1 HK0.out hne0).mono ?_
  rintro e w1 ⟨rfl, hg', hb'⟩
  have HT1 : Hid _ := HV0.out.but1 hb' hg'
  clear hg' hb' HV0 HK0 hne0
  rw [← hr1] at HT1
  go_wp2_with (first
    | (refine wpList_load_seg rfl 22 (.tmp 7) rfl _ _ rfl (bv b) _ ?_ Try.underlying22 rfl ?_ ?_; (exact seg_row HT1.out.env.b); (rw [Try.info22, bv_size, hb]); simp only [Act.put, List.setIfInBounds_toArray, List.set_cons_succ, List.set_cons_zero]))
  refine (newSketch_any b _ hb).mono ?_
  rintro e v1 ⟨rfl, hk, hb', hz⟩
  obtain ⟨p1, hp⟩ : ∃ p, p = w1.heap.size + 1 := ⟨_, rfl⟩
  rw [← hp] at hk hz ⊢
  have hne1 : p1 ≠ s1 := by have := HT1.out.size; have := HT1.out.lt2; omega
  have HV1 : Hid _ := HT1.out.later hb'
  have HK1 : Hid _ := seg_row hk
  clear hp hk hb' hz HT1
  go_wp2_with fail
  refine (receive_any s1 p1 node set rank 1 r1 b tz v1 (by decide) HNS.out l1 hb HV1.out.g1 HK1.out hne1).mono ?_
  rintro e w2 ⟨rfl, hg', hb'⟩
  have HT2 : Hid _ := HV1.out.but1 hb' hg'
  clear hg' hb' HV1 HK1 hne1
  go_wp2_with (first
    | (refine wpList_load_seg rfl 22 (.tmp 7) rfl _ _ rfl (bv b) _ ?_ Try.underlying22 rfl ?_ ?_; (exact seg_row HT2.out.env.b); (rw [Try.info22, bv_size, hb]); simp only [Act.put, List.setIfInBounds_toArray, List.set_cons_succ, List.set_cons_zero]))
  refine (newSketch_any b _ hb).mono ?_
  rintro e v2 ⟨rfl, hk, hb', hz⟩
  obtain ⟨p2, hp⟩ : ∃ p, p = w2.heap.size + 1 := ⟨_, rfl⟩
  rw [← hp] at hk hz ⊢
  have hne2 : p2 ≠ s2 := by have := HT2.out.size; have := HT2.out.lt2; omega
  have HV2 : Hid _ := HT2.out.later hb'
  have HK2 : Hid _ := seg_row hk
  clear hp hk hb' hz HT2
  go_wp2_with fail
  refine (receive_any s2 p2 node set rank 0 zeros b tz v2 (by decide) HNS.out zeros_len hb HV2.out.g2 HK2.out hne2).mono ?_
  rintro e w3 ⟨rfl, hg', hb'⟩
  have HT3 : Hid _ := HV2.out.but2 hb' hg'
  clear hg' hb' HV2 HK2 hne2
  rw [← hr2] at HT3
  go_wp2_with (first
    | (refine wpList_load_seg rfl 22 (.tmp 6) rfl _ _ rfl (bv a) _ ?_ Try.underlying22 rfl ?_ ?_; (exact seg_row HT3.out.env.a); (rw [Try.info22, bv_size, ha]); simp only [Act.put, List.setIfInBounds_toArray, List.set_cons_succ, List.set_cons_zero]))
  refine (newSketch_any a _ ha).mono ?_
  rintro e v3 ⟨rfl, hk, hb', hz⟩
  obtain ⟨p3, hp⟩ : ∃ p, p = w3.heap.size + 1 := ⟨_, rfl⟩
  rw [← hp] at hk hz ⊢
  have hne3 : p3 ≠ s2 := by have := HT3.out.size; have := HT3.out.lt2; omega
  have HV3 : Hid _ := HT3.out.later hb'
  have HK3 : Hid _ := seg_row hk
  clear hp hk hb' hz HT3
  go_wp2_with fail
  refine (receive_any s2 p3 node set rank 1 r2 a tz v3 (by decide) HNS.out l2 ha HV3.out.g2 HK3.out hne3).mono ?_
  rintro e w4 ⟨rfl, hg', hb'⟩
  have HT4 : Hid _ := HV3.out.but2 hb' hg'
  clear hg' hb' HV3 HK3 hne3
  obtain ⟨e1, e2⟩ := two_sets a b (Plain.hash node.data.toList) ha hb
  rw [hr1, hr2, e1, e2] at HT4
  clear e1 e2 hr1 hr2 l1 l2
  rename_i K1 aK1 K0 aK0
  have HK : Hid (∀ a w, _ → K1 a w) := aK1
  clear aK1
  go_wp2_with fail
  exact HK.out _ _ (tail19 node set a b Z s1 s2 rank w w4 HNS.out ha hb HT4.out _ rfl)
end Go.Proofs.Qxb6612204a
