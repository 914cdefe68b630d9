import Derived.Test.Qxb6612204aLowD
namespace Go.Proofs.Qxb6612204a
open Go.RowKit Plain
set_option linter.unusedVariables false
set_option linter.unusedSimpArgs false

/-- what the distinct first ranks are, sorted -/
def srt (c : Nat) (b0 b1 : Int) : Rk := if c = 0 then Rk.zero else if c = 1 then ⟨b0, 0, 1⟩ else if b1 < b0 then ⟨b1, b0, 2⟩ else ⟨b0, b1, 2⟩
abbrev LwQ (w0 : World) (q : Rk) (Q : Exit → Act → World → Prop) : Prop := Q = bodyPost Try.prog Try.f22 fun e w' => e = .returned (.tuple #[.agg #[.int .u64 q.r0, .int .u64 q.r1], .int .i64 (q.n : Int)]) ∧ Below w0.heap.size w0 w'
theorem add_has {r : Rk} {v : Int} (h : r.has v = true) : r.add v = r := by unfold Rk.add; rw [if_pos h]
theorem add_0 (v : Int) : (srt 0 0 0).add v = ⟨v, 0, 1⟩ := by simp [srt, Rk.zero, Rk.add, Rk.has]
theorem add_1 {b0 b1 v : Int} (h : Rk.has ⟨b0, b1, 1⟩ v = false) : (srt 1 b0 b1).add v = if v < b0 then ⟨v, b0, 2⟩ else ⟨b0, v, 2⟩ := by
  have h0 : b0 ≠ v := by intro e; simp [Rk.has, e] at h
  simp [srt, Rk.add, Rk.has, h0, Rk.ins]
theorem add_1h {b0 b1 v : Int} (h : Rk.has ⟨b0, b1, 1⟩ v = true) : (srt 1 b0 b1).add v = ⟨b0, 0, 1⟩ := by
  have h0 : b0 = v := by simpa [Rk.has] using h
  subst h0
  simp [srt, Rk.add, Rk.has]
theorem add_2h {b0 b1 v : Int} (h : Rk.has ⟨b0, b1, 2⟩ v = true) : (srt 2 b0 b1).add v = if b1 < b0 then ⟨b1, b0, 2⟩ else ⟨b0, b1, 2⟩ := by
  have h0 : b0 = v ∨ b1 = v := by simpa [Rk.has] using h
  have hs : (srt 2 b0 b1).has v = true := by
    unfold srt
    simp only [Nat.reduceEqDiff, if_false]
    split <;> (simp [Rk.has]; omega)
  rw [add_has hs]; rfl
theorem add_2 {b0 b1 v : Int} (h : Rk.has ⟨b0, b1, 2⟩ v = false) : (srt 2 b0 b1).add v = if b1 < b0 then (if ¬ v < b0 then ⟨b1, b0, 2⟩ else if ¬ v < b1 then ⟨b1, v, 2⟩ else ⟨v, b1, 2⟩) else (if ¬ v < b1 then ⟨b0, b1, 2⟩ else if ¬ v < b0 then ⟨b0, v, 2⟩ else ⟨v, b0, 2⟩) := by
  have h0 : b0 ≠ v := by intro e; simp [Rk.has, e] at h
  have h1 : b1 ≠ v := by intro e; simp [Rk.has, e] at h
  unfold srt
  simp only [Nat.reduceEqDiff, if_false]
  by_cases hb : b1 < b0
  · simp only [hb, if_true]
    simp only [Rk.add, Rk.has, Rk.ins]
    by_cases hv : v < b0
    · have : ¬ b0 < v := by omega
      by_cases hv1 : v < b1
      · simp [h0, h1, hv, this, hv1]
      · simp [h0, h1, hv, this, hv1]
    · have : b0 < v := by omega
      simp [h0, h1, hv, this]
  · simp only [hb, if_false]
    simp only [Rk.add, Rk.has, Rk.ins]
    by_cases hv : v < b1
    · have : ¬ b1 < v := by omega
      by_cases hv1 : v < b0
      · simp [h0, h1, hv, this, hv1]
      · simp [h0, h1, hv, this, hv1]
    · have : b1 < v := by omega
      simp [h0, h1, hv, this]

set_option maxRecDepth 10000 in
set_option maxHeartbeats 1000000 in
theorem low4_0 (r b : Nat) (b2 own : Int) (w0 w : World) (hL : Lw w0 r b 0 0 b2 w)
    {u0 u1 u3 u4 u5 u7 u10 u11 u12 u13 u14 u15 u16 u17 u18 u19 u20 u21 u22 u23 u24 u25 u26 u27 u28 u29 u30 u31 u32 u33 u34 u35 u36 u37 u38 u39 u40 u41 u42 u43 u44 u45 u46 u47 u48 u49 u50 u51 u52 u53 u54 u55 u56 u57 u58 u59 u60 u61 u62 u63 u64 u65 u66 u67 u68 u69 u70 u71 u72 u73 u74 u75 u76 u77 u78 u79 u80 u81 u82 u83 u84 u85 u86 u87 u88 u89 u90 u91 u92 u93 u94 u95 u96 u97 : Value} (Q : Exit → Act → World → Prop) (hQ : LwQ w0 ((srt 0 0 0).add own) Q) :
    Code.wp Try.prog (tl 4 (Try.f22.body.getD .skip)) Q ⟨#[u0, u1, .int .u64 own, u3, u4, u5, .pointer (some ⟨r, 0, none⟩), u7, .pointer (some ⟨b, 0, none⟩), .int .i64 0, u10, u11, u12, u13, u14, u15, u16, u17, u18, u19, u20, u21, u22, u23, u24, u25, u26, u27, u28, u29, u30, u31, u32, u33, u34, u35, u36, u37, u38, u39, u40, u41, u42, u43, u44, u45, u46, u47, u48, u49, u50, u51, u52, u53, u54, u55, u56, u57, u58, u59, u60, u61, u62, u63, u64, u65, u66, u67, u68, u69, u70, u71, u72, u73, u74, u75, u76, u77, u78, u79, u80, u81, u82, u83, u84, u85, u86, u87, u88, u89, u90, u91, u92, u93, u94, u95, u96, u97], []⟩ w := by
  delta Try.f22
  dsimp only [tl, Option.getD_some]
  have c0 : w.cell? ⟨b, 0, none⟩ = some (.int .u64 0) := by rw [cell_of_row _ _ _ _ _ _ hL.hb]; rfl
  have c1 : w.cell? ⟨b, 1, none⟩ = some (.int .u64 0) := by rw [cell_of_row _ _ _ _ _ _ hL.hb]; rfl
  have c2 : w.cell? ⟨b, 2, none⟩ = some (.int .u64 b2) := by rw [cell_of_row _ _ _ _ _ _ hL.hb]; rfl
  have f0 : w.frozen? ⟨b, 0, none⟩ = false := frozen_of_row _ _ _ _ _ hL.hb
  have f1 : w.frozen? ⟨b, 1, none⟩ = false := frozen_of_row _ _ _ _ _ hL.hb
  have f2 : w.frozen? ⟨b, 2, none⟩ = false := frozen_of_row _ _ _ _ _ hL.hb
  have HC : Hid _ := in3_any 0 0 b2 0 (by omega) own w
  obtain ⟨hs, hhs⟩ : ∃ q, Rk.has ⟨0, 0, 0⟩ own = q := ⟨_, rfl⟩
  rw [hhs] at HC
  have HL : Hid _ := hL
  have HQ : Hid _ := hQ
  have HH : Hid (Rk.has ⟨0, 0, 0⟩ own = hs) := hhs
  clear hL hQ hhs
  apply wp_seq_k; intro K1 aK1
  have HK : Hid (∀ a w, _ → K1 a w) := aK1
  clear aK1
  cases hs
  · go_wp2_with fail
    refine Calls.mono HC.out ?_
    rintro e w1 ⟨rfl, hb1⟩
    have hL1 := HL.out.later hb1
    have HL1 : Hid _ := hL1
    clear HL hb1 c0 c1 c2 f0 f1 f2
    have c0 : w1.cell? ⟨b, 0, none⟩ = some (.int .u64 0) := by rw [cell_of_row _ _ _ _ _ _ hL1.hb]; rfl
    have c1 : w1.cell? ⟨b, 1, none⟩ = some (.int .u64 0) := by rw [cell_of_row _ _ _ _ _ _ hL1.hb]; rfl
    have c2 : w1.cell? ⟨b, 2, none⟩ = some (.int .u64 b2) := by rw [cell_of_row _ _ _ _ _ _ hL1.hb]; rfl
    have f0 : w1.frozen? ⟨b, 0, none⟩ = false := frozen_of_row _ _ _ _ _ hL1.hb
    have f1 : w1.frozen? ⟨b, 1, none⟩ = false := frozen_of_row _ _ _ _ _ hL1.hb
    have f2 : w1.frozen? ⟨b, 2, none⟩ = false := frozen_of_row _ _ _ _ _ hL1.hb
    clear hL1
    go_wp2_with fail
    refine HK.out _ _ ?_
    have hL2 := HL1.out.set0 own
    have hQ := HQ.out
    rw [add_0] at hQ
    exact low5_1 r b own 0 b2 w0 _ hL2 Q hQ
  · exact absurd HH.out (by simp [Rk.has])

set_option maxRecDepth 10000 in
set_option maxHeartbeats 1000000 in
theorem low4_1 (r b : Nat) (b0 b1 b2 own : Int) (w0 w : World) (hL : Lw w0 r b b0 b1 b2 w)
    {u0 u1 u3 u4 u5 u7 u10 u11 u12 u13 u14 u15 u16 u17 u18 u19 u20 u21 u22 u23 u24 u25 u26 u27 u28 u29 u30 u31 u32 u33 u34 u35 u36 u37 u38 u39 u40 u41 u42 u43 u44 u45 u46 u47 u48 u49 u50 u51 u52 u53 u54 u55 u56 u57 u58 u59 u60 u61 u62 u63 u64 u65 u66 u67 u68 u69 u70 u71 u72 u73 u74 u75 u76 u77 u78 u79 u80 u81 u82 u83 u84 u85 u86 u87 u88 u89 u90 u91 u92 u93 u94 u95 u96 u97 : Value} (Q : Exit → Act → World → Prop) (hQ : LwQ w0 ((srt 1 b0 b1).add own) Q) :
    Code.wp Try.prog (tl 4 (Try.f22.body.getD .skip)) Q ⟨#[u0, u1, .int .u64 own, u3, u4, u5, .pointer (some ⟨r, 0, none⟩), u7, .pointer (some ⟨b, 0, none⟩), .int .i64 1, u10, u11, u12, u13, u14, u15, u16, u17, u18, u19, u20, u21, u22, u23, u24, u25, u26, u27, u28, u29, u30, u31, u32, u33, u34, u35, u36, u37, u38, u39, u40, u41, u42, u43, u44, u45, u46, u47, u48, u49, u50, u51, u52, u53, u54, u55, u56, u57, u58, u59, u60, u61, u62, u63, u64, u65, u66, u67, u68, u69, u70, u71, u72, u73, u74, u75, u76, u77, u78, u79, u80, u81, u82, u83, u84, u85, u86, u87, u88, u89, u90, u91, u92, u93, u94, u95, u96, u97], []⟩ w := by
  delta Try.f22
  dsimp only [tl, Option.getD_some]
  have c0 : w.cell? ⟨b, 0, none⟩ = some (.int .u64 b0) := by rw [cell_of_row _ _ _ _ _ _ hL.hb]; rfl
  have c1 : w.cell? ⟨b, 1, none⟩ = some (.int .u64 b1) := by rw [cell_of_row _ _ _ _ _ _ hL.hb]; rfl
  have c2 : w.cell? ⟨b, 2, none⟩ = some (.int .u64 b2) := by rw [cell_of_row _ _ _ _ _ _ hL.hb]; rfl
  have f0 : w.frozen? ⟨b, 0, none⟩ = false := frozen_of_row _ _ _ _ _ hL.hb
  have f1 : w.frozen? ⟨b, 1, none⟩ = false := frozen_of_row _ _ _ _ _ hL.hb
  have f2 : w.frozen? ⟨b, 2, none⟩ = false := frozen_of_row _ _ _ _ _ hL.hb
  have HC : Hid _ := in3_any b0 b1 b2 1 (by omega) own w
  obtain ⟨hs, hhs⟩ : ∃ q, Rk.has ⟨b0, b1, 1⟩ own = q := ⟨_, rfl⟩
  rw [hhs] at HC
  have HL : Hid _ := hL
  have HQ : Hid _ := hQ
  have HH : Hid (Rk.has ⟨b0, b1, 1⟩ own = hs) := hhs
  clear hL hQ hhs
  apply wp_seq_k; intro K1 aK1
  have HK : Hid (∀ a w, _ → K1 a w) := aK1
  clear aK1
  cases hs
  · go_wp2_with fail
    refine Calls.mono HC.out ?_
    rintro e w1 ⟨rfl, hb1⟩
    have hL1 := HL.out.later hb1
    have HL1 : Hid _ := hL1
    clear HL hb1 c0 c1 c2 f0 f1 f2
    have c0 : w1.cell? ⟨b, 0, none⟩ = some (.int .u64 b0) := by rw [cell_of_row _ _ _ _ _ _ hL1.hb]; rfl
    have c1 : w1.cell? ⟨b, 1, none⟩ = some (.int .u64 b1) := by rw [cell_of_row _ _ _ _ _ _ hL1.hb]; rfl
    have c2 : w1.cell? ⟨b, 2, none⟩ = some (.int .u64 b2) := by rw [cell_of_row _ _ _ _ _ _ hL1.hb]; rfl
    have f0 : w1.frozen? ⟨b, 0, none⟩ = false := frozen_of_row _ _ _ _ _ hL1.hb
    have f1 : w1.frozen? ⟨b, 1, none⟩ = false := frozen_of_row _ _ _ _ _ hL1.hb
    have f2 : w1.frozen? ⟨b, 2, none⟩ = false := frozen_of_row _ _ _ _ _ hL1.hb
    clear hL1
    go_wp2_with fail
    refine HK.out _ _ ?_
    have hL2 := HL1.out.set1 own
    have hQ := HQ.out
    rw [add_1 HH.out] at hQ
    by_cases h : own < b0
    · rw [if_pos h] at hQ
      exact low5_2a r b b0 own b2 w0 _ hL2 h Q hQ
    · rw [if_neg h] at hQ
      exact low5_2b r b b0 own b2 w0 _ hL2 h Q hQ
  · go_wp2_with fail
    refine Calls.mono HC.out ?_
    rintro e w1 ⟨rfl, hb1⟩
    have HL1 : Hid _ := HL.out.later hb1
    clear HL hb1 c0 c1 c2 f0 f1 f2
    go_wp2_with fail
    refine HK.out _ _ ?_
    have hQ := HQ.out
    rw [add_1h HH.out] at hQ
    exact low5_1 r b b0 b1 b2 w0 _ HL1.out Q hQ

set_option maxRecDepth 10000 in
set_option maxHeartbeats 1000000 in
theorem low4_2 (r b : Nat) (b0 b1 b2 own : Int) (w0 w : World) (hL : Lw w0 r b b0 b1 b2 w)
    {u0 u1 u3 u4 u5 u7 u10 u11 u12 u13 u14 u15 u16 u17 u18 u19 u20 u21 u22 u23 u24 u25 u26 u27 u28 u29 u30 u31 u32 u33 u34 u35 u36 u37 u38 u39 u40 u41 u42 u43 u44 u45 u46 u47 u48 u49 u50 u51 u52 u53 u54 u55 u56 u57 u58 u59 u60 u61 u62 u63 u64 u65 u66 u67 u68 u69 u70 u71 u72 u73 u74 u75 u76 u77 u78 u79 u80 u81 u82 u83 u84 u85 u86 u87 u88 u89 u90 u91 u92 u93 u94 u95 u96 u97 : Value} (Q : Exit → Act → World → Prop) (hQ : LwQ w0 ((srt 2 b0 b1).add own) Q) :
    Code.wp Try.prog (tl 4 (Try.f22.body.getD .skip)) Q ⟨#[u0, u1, .int .u64 own, u3, u4, u5, .pointer (some ⟨r, 0, none⟩), u7, .pointer (some ⟨b, 0, none⟩), .int .i64 2, u10, u11, u12, u13, u14, u15, u16, u17, u18, u19, u20, u21, u22, u23, u24, u25, u26, u27, u28, u29, u30, u31, u32, u33, u34, u35, u36, u37, u38, u39, u40, u41, u42, u43, u44, u45, u46, u47, u48, u49, u50, u51, u52, u53, u54, u55, u56, u57, u58, u59, u60, u61, u62, u63, u64, u65, u66, u67, u68, u69, u70, u71, u72, u73, u74, u75, u76, u77, u78, u79, u80, u81, u82, u83, u84, u85, u86, u87, u88, u89, u90, u91, u92, u93, u94, u95, u96, u97], []⟩ w := by
  delta Try.f22
  dsimp only [tl, Option.getD_some]
  have c0 : w.cell? ⟨b, 0, none⟩ = some (.int .u64 b0) := by rw [cell_of_row _ _ _ _ _ _ hL.hb]; rfl
  have c1 : w.cell? ⟨b, 1, none⟩ = some (.int .u64 b1) := by rw [cell_of_row _ _ _ _ _ _ hL.hb]; rfl
  have c2 : w.cell? ⟨b, 2, none⟩ = some (.int .u64 b2) := by rw [cell_of_row _ _ _ _ _ _ hL.hb]; rfl
  have f0 : w.frozen? ⟨b, 0, none⟩ = false := frozen_of_row _ _ _ _ _ hL.hb
  have f1 : w.frozen? ⟨b, 1, none⟩ = false := frozen_of_row _ _ _ _ _ hL.hb
  have f2 : w.frozen? ⟨b, 2, none⟩ = false := frozen_of_row _ _ _ _ _ hL.hb
  have HC : Hid _ := in3_any b0 b1 b2 2 (by omega) own w
  obtain ⟨hs, hhs⟩ : ∃ q, Rk.has ⟨b0, b1, 2⟩ own = q := ⟨_, rfl⟩
  rw [hhs] at HC
  have HL : Hid _ := hL
  have HQ : Hid _ := hQ
  have HH : Hid (Rk.has ⟨b0, b1, 2⟩ own = hs) := hhs
  clear hL hQ hhs
  apply wp_seq_k; intro K1 aK1
  have HK : Hid (∀ a w, _ → K1 a w) := aK1
  clear aK1
  cases hs
  · go_wp2_with fail
    refine Calls.mono HC.out ?_
    rintro e w1 ⟨rfl, hb1⟩
    have hL1 := HL.out.later hb1
    have HL1 : Hid _ := hL1
    clear HL hb1 c0 c1 c2 f0 f1 f2
    have c0 : w1.cell? ⟨b, 0, none⟩ = some (.int .u64 b0) := by rw [cell_of_row _ _ _ _ _ _ hL1.hb]; rfl
    have c1 : w1.cell? ⟨b, 1, none⟩ = some (.int .u64 b1) := by rw [cell_of_row _ _ _ _ _ _ hL1.hb]; rfl
    have c2 : w1.cell? ⟨b, 2, none⟩ = some (.int .u64 b2) := by rw [cell_of_row _ _ _ _ _ _ hL1.hb]; rfl
    have f0 : w1.frozen? ⟨b, 0, none⟩ = false := frozen_of_row _ _ _ _ _ hL1.hb
    have f1 : w1.frozen? ⟨b, 1, none⟩ = false := frozen_of_row _ _ _ _ _ hL1.hb
    have f2 : w1.frozen? ⟨b, 2, none⟩ = false := frozen_of_row _ _ _ _ _ hL1.hb
    clear hL1
    go_wp2_with fail
    refine HK.out _ _ ?_
    have hL2 := HL1.out.set2 own
    have hQ := HQ.out
    rw [add_2 HH.out] at hQ
    by_cases h : b1 < b0
    · rw [if_pos h] at hQ
      by_cases h1 : own < b0
      · rw [if_neg (by omega)] at hQ
        by_cases h2 : own < b1
        · rw [if_neg (by omega)] at hQ
          exact low5_3a2 r b b0 b1 own w0 _ hL2 h h1 h2 Q hQ
        · rw [if_pos h2] at hQ
          exact low5_3a1 r b b0 b1 own w0 _ hL2 h h1 h2 Q hQ
      · rw [if_pos h1] at hQ
        exact low5_3a0 r b b0 b1 own w0 _ hL2 h h1 Q hQ
    · rw [if_neg h] at hQ
      by_cases h1 : own < b1
      · rw [if_neg (by omega)] at hQ
        by_cases h2 : own < b0
        · rw [if_neg (by omega)] at hQ
          exact low5_3b2 r b b0 b1 own w0 _ hL2 h h1 h2 Q hQ
        · rw [if_pos h2] at hQ
          exact low5_3b1 r b b0 b1 own w0 _ hL2 h h1 h2 Q hQ
      · rw [if_pos h1] at hQ
        exact low5_3b0 r b b0 b1 own w0 _ hL2 h h1 Q hQ
  · go_wp2_with fail
    refine Calls.mono HC.out ?_
    rintro e w1 ⟨rfl, hb1⟩
    have HL1 : Hid _ := HL.out.later hb1
    clear HL hb1 c0 c1 c2 f0 f1 f2
    go_wp2_with fail
    refine HK.out _ _ ?_
    have hQ := HQ.out
    rw [add_2h HH.out] at hQ
    by_cases h : b1 < b0
    · rw [if_pos h] at hQ
      exact low5_2a r b b0 b1 b2 w0 _ HL1.out h Q hQ
    · rw [if_neg h] at hQ
      exact low5_2b r b b0 b1 b2 w0 _ HL1.out h Q hQ
end Go.Proofs.Qxb6612204a
