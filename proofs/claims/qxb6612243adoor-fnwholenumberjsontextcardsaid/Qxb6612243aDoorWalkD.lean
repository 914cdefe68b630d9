import Derived.Test.Qxb6612243aDoorWalkC
namespace Go.Proofs.Qxb6612243aDoor
open Go.RowKit
set_option linter.unusedVariables false

set_option maxRecDepth 10000 in
set_option maxHeartbeats 1000000 in
theorem tail11 (neg : Bool) (s d g : ByteArray) (j : Nat) (hs : s.size ≤ 1048576) (hds : d.size ≤ 1048576) (hj : j ≤ 1048576) (hg : g.size ≤ 1048576) (hd : ∀ c ∈ g.data.toList, dig c = true) (hm : valF 0 g.data.toList ≤ 18446744073709551615) (h2 : gtB g.data.toList c2 = false → valF 0 g.data.toList ≤ 9223372036854775807) (h3 : gtB g.data.toList c3 = false → valF 0 g.data.toList ≤ 9223372036854775808) (w wn : World) (n0 : Nat) (hw : wn = w.drewN n0)
    {u1 u2 u3 u4 u8 u10 u11 u12 u13 u14 u15 u16 u17 u18 u19 u20 u21 u22 u23 u24 u25 u26 u27 u28 u29 u30 u31 u32 u33 u34 u35 u36 u37 u38 u39 u40 u41 u42 u43 u44 u45 u46 u47 u48 u49 u50 u51 u52 u53 u54 u55 u56 u57 u58 u59 u60 u61 u62 u63 u64 u65 u66 u67 u68 u69 u70 u71 u72 u73 u74 u75 u76 u77 u78 u79 u80 u81 u82 u83 u84 u85 u86 u87 u88 u89 u90 u91 u92 u93 u94 u95 u96 u97 u98 u99 u100 u101 u102 u103 : Value} (Q : Exit → Act → World → Prop) (hQ : Post w (if d.size = 0 ∨ j ≠ s.size then (0, false) else r14 neg g.data.toList) Q) :
    Code.wp Tryd.prog (tl 11 (Tryd.f5.body.getD .skip)) Q ⟨#[.string s, u1, u2, u3, u4, .bool neg, .int .i64 (j : Nat), .string d, u8, .string g, u10, u11, u12, u13, u14, u15, u16, u17, u18, u19, u20, u21, u22, u23, u24, u25, u26, u27, u28, u29, u30, u31, u32, u33, u34, u35, u36, u37, u38, u39, u40, u41, u42, u43, u44, u45, u46, u47, u48, u49, u50, u51, u52, u53, u54, u55, u56, u57, u58, u59, u60, u61, u62, u63, u64, u65, u66, u67, u68, u69, u70, u71, u72, u73, u74, u75, u76, u77, u78, u79, u80, u81, u82, u83, u84, u85, u86, u87, u88, u89, u90, u91, u92, u93, u94, u95, u96, u97, u98, u99, u100, u101, u102, u103], []⟩ wn := by
  delta Tryd.f5
  dsimp only [tl, Option.getD_some]
  have HD : Hid (∀ c ∈ g.data.toList, dig c = true) := hd
  have HM : Hid (valF 0 g.data.toList ≤ 18446744073709551615) := hm
  have H2 : Hid _ := h2
  have H3 : Hid _ := h3
  have HW : Hid (wn = w.drewN n0) := hw
  clear hd hm h2 h3
  by_cases h0 : d.size = 0
  · have h0' : (d.size : Int) = 0 := by omega
    rw [if_pos (Or.inl h0)] at hQ
    clear HW
    subst hw
    try unfold Post at hQ
    subst hQ
    go_wp2
    go_ret2
    exact ⟨rfl, _, rfl⟩
  · have h0' : ¬ (d.size : Int) = 0 := by omega
    by_cases h1 : j = s.size
    · have h1' : (j : Int) = (s.size : Int) := by omega
      rw [if_neg (by omega)] at hQ
      have HQ : Hid _ := hQ
      clear hQ hw
      apply wp_seq_k; intro K1 aK1
      have HK : Hid (∀ a w, _ → K1 a w) := aK1
      clear aK1
      go_wp2_with fail
      exact HK.out _ _ (tail12 neg g hg HD.out HM.out H2.out H3.out w _ n0 HW.out Q HQ.out)
    · have h1' : ¬ (j : Int) = (s.size : Int) := by omega
      have hb0 : ((d.size : Int) == 0) = false := by simpa using h0
      have hb1 : ((j : Int) != (s.size : Int)) = true := by simpa using h1'
      rw [if_pos (Or.inr h1)] at hQ
      clear HW
      subst hw
      try unfold Post at hQ
      subst hQ
      go_wp2
      go_ret2
      exact ⟨rfl, _, rfl⟩

set_option maxRecDepth 10000 in
set_option maxHeartbeats 1000000 in
theorem tail10 (neg : Bool) (s d g : ByteArray) (j : Nat) (hs : s.size ≤ 1048576) (hds : d.size ≤ 1048576) (hj : j ≤ 1048576) (hg : g.size ≤ 1048576) (hn : Num g.data.toList) (w : World)
    {u1 u2 u3 u4 u8 u10 u11 u12 u13 u14 u15 u16 u17 u18 u19 u20 u21 u22 u23 u24 u25 u26 u27 u28 u29 u30 u31 u32 u33 u34 u35 u36 u37 u38 u39 u40 u41 u42 u43 u44 u45 u46 u47 u48 u49 u50 u51 u52 u53 u54 u55 u56 u57 u58 u59 u60 u61 u62 u63 u64 u65 u66 u67 u68 u69 u70 u71 u72 u73 u74 u75 u76 u77 u78 u79 u80 u81 u82 u83 u84 u85 u86 u87 u88 u89 u90 u91 u92 u93 u94 u95 u96 u97 u98 u99 u100 u101 u102 u103 : Value} (Q : Exit → Act → World → Prop) (hQ : Post w (r10 neg d.size j s.size g.data.toList) Q) :
    Code.wp Tryd.prog (tl 10 (Tryd.f5.body.getD .skip)) Q ⟨#[.string s, u1, u2, u3, u4, .bool neg, .int .i64 (j : Nat), .string d, u8, .string g, u10, u11, u12, u13, u14, u15, u16, u17, u18, u19, u20, u21, u22, u23, u24, u25, u26, u27, u28, u29, u30, u31, u32, u33, u34, u35, u36, u37, u38, u39, u40, u41, u42, u43, u44, u45, u46, u47, u48, u49, u50, u51, u52, u53, u54, u55, u56, u57, u58, u59, u60, u61, u62, u63, u64, u65, u66, u67, u68, u69, u70, u71, u72, u73, u74, u75, u76, u77, u78, u79, u80, u81, u82, u83, u84, u85, u86, u87, u88, u89, u90, u91, u92, u93, u94, u95, u96, u97, u98, u99, u100, u101, u102, u103], []⟩ w := by
  delta Tryd.f5
  dsimp only [tl, Option.getD_some]
  have HN : Hid (Num g.data.toList) := hn
  have HG : Hid _ := greater_any g ⟨#[49, 56, 52, 52, 54, 55, 52, 52, 48, 55, 51, 55, 48, 57, 53, 53, 49, 54, 49, 53]⟩ (by omega) (by decide) w
  clear hn
  obtain ⟨q, hq⟩ : ∃ q, gtB g.data.toList c1 = q := ⟨_, rfl⟩
  have e : gtB g.data.toList (⟨#[49, 56, 52, 52, 54, 55, 52, 52, 48, 55, 51, 55, 48, 57, 53, 53, 49, 54, 49, 53]⟩ : ByteArray).data.toList = q := hq
  rw [e] at HG
  clear e
  cases q
  · have hr : r10 neg d.size j s.size g.data.toList = if d.size = 0 ∨ j ≠ s.size then (0, false) else r14 neg g.data.toList := by
      unfold r10; rw [hq]; rfl
    rw [hr] at hQ
    have hm : digV g.data.toList ≤ 18446744073709551615 := by
      have := gtB_val HN.out num_c1
      rw [hq, val_c1] at this
      have := of_decide_eq_false this.symm
      omega
    have v0 : valF 0 g.data.toList = digV g.data.toList := by rw [valF_eq]; omega
    have HM : Hid (valF 0 g.data.toList ≤ 18446744073709551615) := by rw [v0]; exact hm
    have H2 : Hid (gtB g.data.toList c2 = false → valF 0 g.data.toList ≤ 9223372036854775807) := fun h => by
      have := gtB_val HN.out num_c2
      rw [h, val_c2] at this
      have := of_decide_eq_false this.symm
      omega
    have H3 : Hid (gtB g.data.toList c3 = false → valF 0 g.data.toList ≤ 9223372036854775808) := fun h => by
      have := gtB_val HN.out num_c3
      rw [h, val_c3] at this
      have := of_decide_eq_false this.symm
      omega
    clear hm v0 hr hq
    have HQ : Hid _ := hQ
    clear hQ
    apply wp_seq_k; intro K1 aK1
    have HK : Hid (∀ a w, _ → K1 a w) := aK1
    clear aK1
    go_wp2_with fail
    refine Calls.mono HG.out ?_
    rintro e w1 ⟨rfl, m, rfl⟩
    go_wp2_with fail
    exact HK.out _ _ (tail11 neg s d g j hs hds hj hg HN.out.all HM.out H2.out H3.out w _ m rfl Q HQ.out)
  · have hr : r10 neg d.size j s.size g.data.toList = (if neg then -9223372036854775808 else 9223372036854775807, false) := by
      unfold r10; rw [hq]; rfl
    rw [hr] at hQ
    unfold Post at hQ
    clear hr
    subst hQ
    cases neg
    · go_wp2_with fail
      refine Calls.mono HG.out ?_
      rintro e w1 ⟨rfl, m, rfl⟩
      go_wp2
      go_ret2
      exact ⟨rfl, _, rfl⟩
    · go_wp2_with fail
      refine Calls.mono HG.out ?_
      rintro e w1 ⟨rfl, m, rfl⟩
      go_wp2
      go_ret2
      exact ⟨rfl, _, rfl⟩
end Go.Proofs.Qxb6612243aDoor
