import Derived.Test.Qxb6612204aLowB
namespace Go.Proofs.Qxb6612204a
open Go.RowKit Plain
set_option linter.unusedVariables false
set_option linter.unusedSimpArgs false

set_option maxRecDepth 10000 in
set_option maxHeartbeats 1000000 in
theorem low5_3a0 (r b : Nat) (x0 x1 x2 : Int) (w0 w : World) (hL : Lw w0 r b x0 x1 x2 w) (h0 : x1 < x0) (h1 : ¬ x2 < x0)
    {u0 u1 u2 u3 u4 u5 u7 u10 u11 u12 u13 u14 u15 u16 u17 u18 u19 u20 u21 u22 u23 u24 u25 u26 u27 u28 u29 u30 u31 u32 u33 u34 u35 u36 u37 u38 u39 u40 u41 u42 u43 u44 u45 u46 u47 u48 u49 u50 u51 u52 u53 u54 u55 u56 u57 u58 u59 u60 u61 u62 u63 u64 u65 u66 u67 u68 u69 u70 u71 u72 u73 u74 u75 u76 u77 u78 u79 u80 u81 u82 u83 u84 u85 u86 u87 u88 u89 u90 u91 u92 u93 u94 u95 u96 u97 : Value} (Q : Exit → Act → World → Prop) (hQ : Q = bodyPost Try.prog Try.f22 fun e w' => e = .returned (.tuple #[.agg #[.int .u64 x1, .int .u64 x0], .int .i64 2]) ∧ Below w0.heap.size w0 w') :
    Code.wp Try.prog (tl 5 (Try.f22.body.getD .skip)) Q ⟨#[u0, u1, u2, u3, u4, u5, .pointer (some ⟨r, 0, none⟩), u7, .pointer (some ⟨b, 0, none⟩), .int .i64 3, u10, u11, u12, u13, u14, u15, u16, u17, u18, u19, u20, u21, u22, u23, u24, u25, u26, u27, u28, u29, u30, u31, u32, u33, u34, u35, u36, u37, u38, u39, u40, u41, u42, u43, u44, u45, u46, u47, u48, u49, u50, u51, u52, u53, u54, u55, u56, u57, u58, u59, u60, u61, u62, u63, u64, u65, u66, u67, u68, u69, u70, u71, u72, u73, u74, u75, u76, u77, u78, u79, u80, u81, u82, u83, u84, u85, u86, u87, u88, u89, u90, u91, u92, u93, u94, u95, u96, u97], []⟩ w := by
  delta Try.f22
  dsimp only [tl, Option.getD_some]
  have c0 : w.cell? ⟨b, 0, none⟩ = some (.int .u64 x0) := by rw [cell_of_row _ _ _ _ _ _ hL.hb]; rfl
  have c1 : w.cell? ⟨b, 1, none⟩ = some (.int .u64 x1) := by rw [cell_of_row _ _ _ _ _ _ hL.hb]; rfl
  have c2 : w.cell? ⟨b, 2, none⟩ = some (.int .u64 x2) := by rw [cell_of_row _ _ _ _ _ _ hL.hb]; rfl
  have f0 : w.frozen? ⟨b, 0, none⟩ = false := frozen_of_row _ _ _ _ _ hL.hb
  have f1 : w.frozen? ⟨b, 1, none⟩ = false := frozen_of_row _ _ _ _ _ hL.hb
  have f2 : w.frozen? ⟨b, 2, none⟩ = false := frozen_of_row _ _ _ _ _ hL.hb
  have hd0 : x0 > x1 := h0
  have he0 : decide (x0 > x1) = true := decide_eq_true hd0
  have hd1 : ¬ x0 > x2 := h1
  have he1 : decide (x0 > x2) = false := decide_eq_false hd1
  have HL : Hid _ := hL
  have HQ : Hid _ := hQ
  clear hL hQ
  apply wp_seq_k; intro K1 aK1
  have HK : Hid (∀ a w, _ → K1 a w) := aK1
  clear aK1
  go_wp2_with fail
  refine wp_loop_rounds 3 ?_
  rw [rounds_succ]
  go_wp2_with fail
  refine wp_loop_rounds 2 ?_
  rw [rounds_succ]
  go_wp2_with fail
  go_quiet (fail)
  revert nq; intro n1
  go_wp2_with fail
  rw [rounds_succ]
  go_wp2_with fail
  go_quiet (fail)
  revert nq; intro n2
  go_wp2_with fail
  have hL1 : Lw w0 r b x1 x0 x2 ((((w.drewN n1).setCell ⟨b, 0, none⟩ (.int .u64 x1)).setCell ⟨b, 1, none⟩ (.int .u64 x0)).drewN n2) := (((HL.out.drewN n1).set0 x1).set1 x0).drewN n2
  generalize (((w.drewN n1).setCell ⟨b, 0, none⟩ (.int .u64 x1)).setCell ⟨b, 1, none⟩ (.int .u64 x0)).drewN n2 = W1 at hL1 ⊢
  clear c0 c1 c2 f0 f1 f2
  have c0 : W1.cell? ⟨b, 0, none⟩ = some (.int .u64 x1) := by rw [cell_of_row _ _ _ _ _ _ hL1.hb]; rfl
  have c1 : W1.cell? ⟨b, 1, none⟩ = some (.int .u64 x0) := by rw [cell_of_row _ _ _ _ _ _ hL1.hb]; rfl
  have c2 : W1.cell? ⟨b, 2, none⟩ = some (.int .u64 x2) := by rw [cell_of_row _ _ _ _ _ _ hL1.hb]; rfl
  have f0 : W1.frozen? ⟨b, 0, none⟩ = false := frozen_of_row _ _ _ _ _ hL1.hb
  have f1 : W1.frozen? ⟨b, 1, none⟩ = false := frozen_of_row _ _ _ _ _ hL1.hb
  have f2 : W1.frozen? ⟨b, 2, none⟩ = false := frozen_of_row _ _ _ _ _ hL1.hb
  clear HL
  have HL : Hid _ := hL1
  clear hL1
  rw [rounds_succ]
  go_wp2_with fail
  refine wp_loop_rounds 1 ?_
  rw [rounds_succ]
  go_wp2_with fail
  go_quiet (fail)
  go_wp2_with fail
  rw [rounds_succ]
  go_wp2_with fail
  refine HK.out _ _ ?_

  refine (fun (h : Lw w0 r b x1 x0 x2 _) => low6_3 r b x1 x0 x2 w0 _ h.hb h.hr h.hne h.hr0 h.hB Q HQ.out) ?_
  repeat (first | exact HL.out | apply Lw.drewN | apply Lw.set0 | apply Lw.set1 | apply Lw.set2)

set_option maxRecDepth 10000 in
set_option maxHeartbeats 1000000 in
theorem low5_3a1 (r b : Nat) (x0 x1 x2 : Int) (w0 w : World) (hL : Lw w0 r b x0 x1 x2 w) (h0 : x1 < x0) (h1 : x2 < x0) (h2 : ¬ x2 < x1)
    {u0 u1 u2 u3 u4 u5 u7 u10 u11 u12 u13 u14 u15 u16 u17 u18 u19 u20 u21 u22 u23 u24 u25 u26 u27 u28 u29 u30 u31 u32 u33 u34 u35 u36 u37 u38 u39 u40 u41 u42 u43 u44 u45 u46 u47 u48 u49 u50 u51 u52 u53 u54 u55 u56 u57 u58 u59 u60 u61 u62 u63 u64 u65 u66 u67 u68 u69 u70 u71 u72 u73 u74 u75 u76 u77 u78 u79 u80 u81 u82 u83 u84 u85 u86 u87 u88 u89 u90 u91 u92 u93 u94 u95 u96 u97 : Value} (Q : Exit → Act → World → Prop) (hQ : Q = bodyPost Try.prog Try.f22 fun e w' => e = .returned (.tuple #[.agg #[.int .u64 x1, .int .u64 x2], .int .i64 2]) ∧ Below w0.heap.size w0 w') :
    Code.wp Try.prog (tl 5 (Try.f22.body.getD .skip)) Q ⟨#[u0, u1, u2, u3, u4, u5, .pointer (some ⟨r, 0, none⟩), u7, .pointer (some ⟨b, 0, none⟩), .int .i64 3, u10, u11, u12, u13, u14, u15, u16, u17, u18, u19, u20, u21, u22, u23, u24, u25, u26, u27, u28, u29, u30, u31, u32, u33, u34, u35, u36, u37, u38, u39, u40, u41, u42, u43, u44, u45, u46, u47, u48, u49, u50, u51, u52, u53, u54, u55, u56, u57, u58, u59, u60, u61, u62, u63, u64, u65, u66, u67, u68, u69, u70, u71, u72, u73, u74, u75, u76, u77, u78, u79, u80, u81, u82, u83, u84, u85, u86, u87, u88, u89, u90, u91, u92, u93, u94, u95, u96, u97], []⟩ w := by
  delta Try.f22
  dsimp only [tl, Option.getD_some]
  have c0 : w.cell? ⟨b, 0, none⟩ = some (.int .u64 x0) := by rw [cell_of_row _ _ _ _ _ _ hL.hb]; rfl
  have c1 : w.cell? ⟨b, 1, none⟩ = some (.int .u64 x1) := by rw [cell_of_row _ _ _ _ _ _ hL.hb]; rfl
  have c2 : w.cell? ⟨b, 2, none⟩ = some (.int .u64 x2) := by rw [cell_of_row _ _ _ _ _ _ hL.hb]; rfl
  have f0 : w.frozen? ⟨b, 0, none⟩ = false := frozen_of_row _ _ _ _ _ hL.hb
  have f1 : w.frozen? ⟨b, 1, none⟩ = false := frozen_of_row _ _ _ _ _ hL.hb
  have f2 : w.frozen? ⟨b, 2, none⟩ = false := frozen_of_row _ _ _ _ _ hL.hb
  have hd0 : x0 > x1 := h0
  have he0 : decide (x0 > x1) = true := decide_eq_true hd0
  have hd1 : x0 > x2 := h1
  have he1 : decide (x0 > x2) = true := decide_eq_true hd1
  have hd2 : ¬ x1 > x2 := h2
  have he2 : decide (x1 > x2) = false := decide_eq_false hd2
  have HL : Hid _ := hL
  have HQ : Hid _ := hQ
  clear hL hQ
  apply wp_seq_k; intro K1 aK1
  have HK : Hid (∀ a w, _ → K1 a w) := aK1
  clear aK1
  go_wp2_with fail
  refine wp_loop_rounds 3 ?_
  rw [rounds_succ]
  go_wp2_with fail
  refine wp_loop_rounds 2 ?_
  rw [rounds_succ]
  go_wp2_with fail
  go_quiet (fail)
  revert nq; intro n1
  go_wp2_with fail
  rw [rounds_succ]
  go_wp2_with fail
  go_quiet (fail)
  revert nq; intro n2
  go_wp2_with fail
  have hL1 : Lw w0 r b x1 x0 x2 ((((w.drewN n1).setCell ⟨b, 0, none⟩ (.int .u64 x1)).setCell ⟨b, 1, none⟩ (.int .u64 x0)).drewN n2) := (((HL.out.drewN n1).set0 x1).set1 x0).drewN n2
  generalize (((w.drewN n1).setCell ⟨b, 0, none⟩ (.int .u64 x1)).setCell ⟨b, 1, none⟩ (.int .u64 x0)).drewN n2 = W1 at hL1 ⊢
  clear c0 c1 c2 f0 f1 f2
  have c0 : W1.cell? ⟨b, 0, none⟩ = some (.int .u64 x1) := by rw [cell_of_row _ _ _ _ _ _ hL1.hb]; rfl
  have c1 : W1.cell? ⟨b, 1, none⟩ = some (.int .u64 x0) := by rw [cell_of_row _ _ _ _ _ _ hL1.hb]; rfl
  have c2 : W1.cell? ⟨b, 2, none⟩ = some (.int .u64 x2) := by rw [cell_of_row _ _ _ _ _ _ hL1.hb]; rfl
  have f0 : W1.frozen? ⟨b, 0, none⟩ = false := frozen_of_row _ _ _ _ _ hL1.hb
  have f1 : W1.frozen? ⟨b, 1, none⟩ = false := frozen_of_row _ _ _ _ _ hL1.hb
  have f2 : W1.frozen? ⟨b, 2, none⟩ = false := frozen_of_row _ _ _ _ _ hL1.hb
  clear HL
  have HL : Hid _ := hL1
  clear hL1
  rw [rounds_succ]
  go_wp2_with fail
  refine wp_loop_rounds 2 ?_
  rw [rounds_succ]
  go_wp2_with fail
  go_quiet (fail)
  go_wp2_with fail
  rw [rounds_succ]
  go_wp2_with fail
  go_quiet (fail)
  go_wp2_with fail
  rw [rounds_succ]
  go_wp2_with fail
  refine HK.out _ _ ?_

  refine (fun (h : Lw w0 r b x1 x2 x0 _) => low6_3 r b x1 x2 x0 w0 _ h.hb h.hr h.hne h.hr0 h.hB Q HQ.out) ?_
  repeat (first | exact HL.out | apply Lw.drewN | apply Lw.set0 | apply Lw.set1 | apply Lw.set2)

set_option maxRecDepth 10000 in
set_option maxHeartbeats 1000000 in
theorem low5_3a2 (r b : Nat) (x0 x1 x2 : Int) (w0 w : World) (hL : Lw w0 r b x0 x1 x2 w) (h0 : x1 < x0) (h1 : x2 < x0) (h2 : x2 < x1)
    {u0 u1 u2 u3 u4 u5 u7 u10 u11 u12 u13 u14 u15 u16 u17 u18 u19 u20 u21 u22 u23 u24 u25 u26 u27 u28 u29 u30 u31 u32 u33 u34 u35 u36 u37 u38 u39 u40 u41 u42 u43 u44 u45 u46 u47 u48 u49 u50 u51 u52 u53 u54 u55 u56 u57 u58 u59 u60 u61 u62 u63 u64 u65 u66 u67 u68 u69 u70 u71 u72 u73 u74 u75 u76 u77 u78 u79 u80 u81 u82 u83 u84 u85 u86 u87 u88 u89 u90 u91 u92 u93 u94 u95 u96 u97 : Value} (Q : Exit → Act → World → Prop) (hQ : Q = bodyPost Try.prog Try.f22 fun e w' => e = .returned (.tuple #[.agg #[.int .u64 x2, .int .u64 x1], .int .i64 2]) ∧ Below w0.heap.size w0 w') :
    Code.wp Try.prog (tl 5 (Try.f22.body.getD .skip)) Q ⟨#[u0, u1, u2, u3, u4, u5, .pointer (some ⟨r, 0, none⟩), u7, .pointer (some ⟨b, 0, none⟩), .int .i64 3, u10, u11, u12, u13, u14, u15, u16, u17, u18, u19, u20, u21, u22, u23, u24, u25, u26, u27, u28, u29, u30, u31, u32, u33, u34, u35, u36, u37, u38, u39, u40, u41, u42, u43, u44, u45, u46, u47, u48, u49, u50, u51, u52, u53, u54, u55, u56, u57, u58, u59, u60, u61, u62, u63, u64, u65, u66, u67, u68, u69, u70, u71, u72, u73, u74, u75, u76, u77, u78, u79, u80, u81, u82, u83, u84, u85, u86, u87, u88, u89, u90, u91, u92, u93, u94, u95, u96, u97], []⟩ w := by
  delta Try.f22
  dsimp only [tl, Option.getD_some]
  have c0 : w.cell? ⟨b, 0, none⟩ = some (.int .u64 x0) := by rw [cell_of_row _ _ _ _ _ _ hL.hb]; rfl
  have c1 : w.cell? ⟨b, 1, none⟩ = some (.int .u64 x1) := by rw [cell_of_row _ _ _ _ _ _ hL.hb]; rfl
  have c2 : w.cell? ⟨b, 2, none⟩ = some (.int .u64 x2) := by rw [cell_of_row _ _ _ _ _ _ hL.hb]; rfl
  have f0 : w.frozen? ⟨b, 0, none⟩ = false := frozen_of_row _ _ _ _ _ hL.hb
  have f1 : w.frozen? ⟨b, 1, none⟩ = false := frozen_of_row _ _ _ _ _ hL.hb
  have f2 : w.frozen? ⟨b, 2, none⟩ = false := frozen_of_row _ _ _ _ _ hL.hb
  have hd0 : x0 > x1 := h0
  have he0 : decide (x0 > x1) = true := decide_eq_true hd0
  have hd1 : x0 > x2 := h1
  have he1 : decide (x0 > x2) = true := decide_eq_true hd1
  have hd2 : x1 > x2 := h2
  have he2 : decide (x1 > x2) = true := decide_eq_true hd2
  have HL : Hid _ := hL
  have HQ : Hid _ := hQ
  clear hL hQ
  apply wp_seq_k; intro K1 aK1
  have HK : Hid (∀ a w, _ → K1 a w) := aK1
  clear aK1
  go_wp2_with fail
  refine wp_loop_rounds 3 ?_
  rw [rounds_succ]
  go_wp2_with fail
  refine wp_loop_rounds 2 ?_
  rw [rounds_succ]
  go_wp2_with fail
  go_quiet (fail)
  revert nq; intro n1
  go_wp2_with fail
  rw [rounds_succ]
  go_wp2_with fail
  go_quiet (fail)
  revert nq; intro n2
  go_wp2_with fail
  have hL1 : Lw w0 r b x1 x0 x2 ((((w.drewN n1).setCell ⟨b, 0, none⟩ (.int .u64 x1)).setCell ⟨b, 1, none⟩ (.int .u64 x0)).drewN n2) := (((HL.out.drewN n1).set0 x1).set1 x0).drewN n2
  generalize (((w.drewN n1).setCell ⟨b, 0, none⟩ (.int .u64 x1)).setCell ⟨b, 1, none⟩ (.int .u64 x0)).drewN n2 = W1 at hL1 ⊢
  clear c0 c1 c2 f0 f1 f2
  have c0 : W1.cell? ⟨b, 0, none⟩ = some (.int .u64 x1) := by rw [cell_of_row _ _ _ _ _ _ hL1.hb]; rfl
  have c1 : W1.cell? ⟨b, 1, none⟩ = some (.int .u64 x0) := by rw [cell_of_row _ _ _ _ _ _ hL1.hb]; rfl
  have c2 : W1.cell? ⟨b, 2, none⟩ = some (.int .u64 x2) := by rw [cell_of_row _ _ _ _ _ _ hL1.hb]; rfl
  have f0 : W1.frozen? ⟨b, 0, none⟩ = false := frozen_of_row _ _ _ _ _ hL1.hb
  have f1 : W1.frozen? ⟨b, 1, none⟩ = false := frozen_of_row _ _ _ _ _ hL1.hb
  have f2 : W1.frozen? ⟨b, 2, none⟩ = false := frozen_of_row _ _ _ _ _ hL1.hb
  clear HL
  have HL : Hid _ := hL1
  clear hL1
  rw [rounds_succ]
  go_wp2_with fail
  refine wp_loop_rounds 3 ?_
  rw [rounds_succ]
  go_wp2_with fail
  go_quiet (fail)
  go_wp2_with fail
  rw [rounds_succ]
  go_wp2_with fail
  go_quiet (fail)
  go_wp2_with fail
  rw [rounds_succ]
  go_wp2_with fail
  go_quiet (fail)
  go_wp2_with fail
  rw [rounds_succ]
  go_wp2_with fail
  refine HK.out _ _ ?_

  refine (fun (h : Lw w0 r b x2 x1 x0 _) => low6_3 r b x2 x1 x0 w0 _ h.hb h.hr h.hne h.hr0 h.hB Q HQ.out) ?_
  repeat (first | exact HL.out | apply Lw.drewN | apply Lw.set0 | apply Lw.set1 | apply Lw.set2)

set_option maxRecDepth 10000 in
set_option maxHeartbeats 1000000 in
theorem low5_3b0 (r b : Nat) (x0 x1 x2 : Int) (w0 w : World) (hL : Lw w0 r b x0 x1 x2 w) (h0 : ¬ x1 < x0) (h1 : ¬ x2 < x1)
    {u0 u1 u2 u3 u4 u5 u7 u10 u11 u12 u13 u14 u15 u16 u17 u18 u19 u20 u21 u22 u23 u24 u25 u26 u27 u28 u29 u30 u31 u32 u33 u34 u35 u36 u37 u38 u39 u40 u41 u42 u43 u44 u45 u46 u47 u48 u49 u50 u51 u52 u53 u54 u55 u56 u57 u58 u59 u60 u61 u62 u63 u64 u65 u66 u67 u68 u69 u70 u71 u72 u73 u74 u75 u76 u77 u78 u79 u80 u81 u82 u83 u84 u85 u86 u87 u88 u89 u90 u91 u92 u93 u94 u95 u96 u97 : Value} (Q : Exit → Act → World → Prop) (hQ : Q = bodyPost Try.prog Try.f22 fun e w' => e = .returned (.tuple #[.agg #[.int .u64 x0, .int .u64 x1], .int .i64 2]) ∧ Below w0.heap.size w0 w') :
    Code.wp Try.prog (tl 5 (Try.f22.body.getD .skip)) Q ⟨#[u0, u1, u2, u3, u4, u5, .pointer (some ⟨r, 0, none⟩), u7, .pointer (some ⟨b, 0, none⟩), .int .i64 3, u10, u11, u12, u13, u14, u15, u16, u17, u18, u19, u20, u21, u22, u23, u24, u25, u26, u27, u28, u29, u30, u31, u32, u33, u34, u35, u36, u37, u38, u39, u40, u41, u42, u43, u44, u45, u46, u47, u48, u49, u50, u51, u52, u53, u54, u55, u56, u57, u58, u59, u60, u61, u62, u63, u64, u65, u66, u67, u68, u69, u70, u71, u72, u73, u74, u75, u76, u77, u78, u79, u80, u81, u82, u83, u84, u85, u86, u87, u88, u89, u90, u91, u92, u93, u94, u95, u96, u97], []⟩ w := by
  delta Try.f22
  dsimp only [tl, Option.getD_some]
  have c0 : w.cell? ⟨b, 0, none⟩ = some (.int .u64 x0) := by rw [cell_of_row _ _ _ _ _ _ hL.hb]; rfl
  have c1 : w.cell? ⟨b, 1, none⟩ = some (.int .u64 x1) := by rw [cell_of_row _ _ _ _ _ _ hL.hb]; rfl
  have c2 : w.cell? ⟨b, 2, none⟩ = some (.int .u64 x2) := by rw [cell_of_row _ _ _ _ _ _ hL.hb]; rfl
  have f0 : w.frozen? ⟨b, 0, none⟩ = false := frozen_of_row _ _ _ _ _ hL.hb
  have f1 : w.frozen? ⟨b, 1, none⟩ = false := frozen_of_row _ _ _ _ _ hL.hb
  have f2 : w.frozen? ⟨b, 2, none⟩ = false := frozen_of_row _ _ _ _ _ hL.hb
  have hd0 : ¬ x0 > x1 := h0
  have he0 : decide (x0 > x1) = false := decide_eq_false hd0
  have hd1 : ¬ x1 > x2 := h1
  have he1 : decide (x1 > x2) = false := decide_eq_false hd1
  have HL : Hid _ := hL
  have HQ : Hid _ := hQ
  clear hL hQ
  apply wp_seq_k; intro K1 aK1
  have HK : Hid (∀ a w, _ → K1 a w) := aK1
  clear aK1
  go_wp2_with fail
  refine wp_loop_rounds 3 ?_
  rw [rounds_succ]
  go_wp2_with fail
  refine wp_loop_rounds 1 ?_
  rw [rounds_succ]
  go_wp2_with fail
  go_quiet (fail)
  revert nq; intro n1
  go_wp2_with fail
  have hL1 : Lw w0 r b x0 x1 x2 (w.drewN n1) := HL.out.drewN n1
  generalize w.drewN n1 = W1 at hL1 ⊢
  clear c0 c1 c2 f0 f1 f2
  have c0 : W1.cell? ⟨b, 0, none⟩ = some (.int .u64 x0) := by rw [cell_of_row _ _ _ _ _ _ hL1.hb]; rfl
  have c1 : W1.cell? ⟨b, 1, none⟩ = some (.int .u64 x1) := by rw [cell_of_row _ _ _ _ _ _ hL1.hb]; rfl
  have c2 : W1.cell? ⟨b, 2, none⟩ = some (.int .u64 x2) := by rw [cell_of_row _ _ _ _ _ _ hL1.hb]; rfl
  have f0 : W1.frozen? ⟨b, 0, none⟩ = false := frozen_of_row _ _ _ _ _ hL1.hb
  have f1 : W1.frozen? ⟨b, 1, none⟩ = false := frozen_of_row _ _ _ _ _ hL1.hb
  have f2 : W1.frozen? ⟨b, 2, none⟩ = false := frozen_of_row _ _ _ _ _ hL1.hb
  clear HL
  have HL : Hid _ := hL1
  clear hL1
  rw [rounds_succ]
  go_wp2_with fail
  refine wp_loop_rounds 1 ?_
  rw [rounds_succ]
  go_wp2_with fail
  go_quiet (fail)
  go_wp2_with fail
  rw [rounds_succ]
  go_wp2_with fail
  refine HK.out _ _ ?_

  refine (fun (h : Lw w0 r b x0 x1 x2 _) => low6_3 r b x0 x1 x2 w0 _ h.hb h.hr h.hne h.hr0 h.hB Q HQ.out) ?_
  repeat (first | exact HL.out | apply Lw.drewN | apply Lw.set0 | apply Lw.set1 | apply Lw.set2)

set_option maxRecDepth 10000 in
set_option maxHeartbeats 1000000 in
theorem low5_3b1 (r b : Nat) (x0 x1 x2 : Int) (w0 w : World) (hL : Lw w0 r b x0 x1 x2 w) (h0 : ¬ x1 < x0) (h1 : x2 < x1) (h2 : ¬ x2 < x0)
    {u0 u1 u2 u3 u4 u5 u7 u10 u11 u12 u13 u14 u15 u16 u17 u18 u19 u20 u21 u22 u23 u24 u25 u26 u27 u28 u29 u30 u31 u32 u33 u34 u35 u36 u37 u38 u39 u40 u41 u42 u43 u44 u45 u46 u47 u48 u49 u50 u51 u52 u53 u54 u55 u56 u57 u58 u59 u60 u61 u62 u63 u64 u65 u66 u67 u68 u69 u70 u71 u72 u73 u74 u75 u76 u77 u78 u79 u80 u81 u82 u83 u84 u85 u86 u87 u88 u89 u90 u91 u92 u93 u94 u95 u96 u97 : Value} (Q : Exit → Act → World → Prop) (hQ : Q = bodyPost Try.prog Try.f22 fun e w' => e = .returned (.tuple #[.agg #[.int .u64 x0, .int .u64 x2], .int .i64 2]) ∧ Below w0.heap.size w0 w') :
    Code.wp Try.prog (tl 5 (Try.f22.body.getD .skip)) Q ⟨#[u0, u1, u2, u3, u4, u5, .pointer (some ⟨r, 0, none⟩), u7, .pointer (some ⟨b, 0, none⟩), .int .i64 3, u10, u11, u12, u13, u14, u15, u16, u17, u18, u19, u20, u21, u22, u23, u24, u25, u26, u27, u28, u29, u30, u31, u32, u33, u34, u35, u36, u37, u38, u39, u40, u41, u42, u43, u44, u45, u46, u47, u48, u49, u50, u51, u52, u53, u54, u55, u56, u57, u58, u59, u60, u61, u62, u63, u64, u65, u66, u67, u68, u69, u70, u71, u72, u73, u74, u75, u76, u77, u78, u79, u80, u81, u82, u83, u84, u85, u86, u87, u88, u89, u90, u91, u92, u93, u94, u95, u96, u97], []⟩ w := by
  delta Try.f22
  dsimp only [tl, Option.getD_some]
  have c0 : w.cell? ⟨b, 0, none⟩ = some (.int .u64 x0) := by rw [cell_of_row _ _ _ _ _ _ hL.hb]; rfl
  have c1 : w.cell? ⟨b, 1, none⟩ = some (.int .u64 x1) := by rw [cell_of_row _ _ _ _ _ _ hL.hb]; rfl
  have c2 : w.cell? ⟨b, 2, none⟩ = some (.int .u64 x2) := by rw [cell_of_row _ _ _ _ _ _ hL.hb]; rfl
  have f0 : w.frozen? ⟨b, 0, none⟩ = false := frozen_of_row _ _ _ _ _ hL.hb
  have f1 : w.frozen? ⟨b, 1, none⟩ = false := frozen_of_row _ _ _ _ _ hL.hb
  have f2 : w.frozen? ⟨b, 2, none⟩ = false := frozen_of_row _ _ _ _ _ hL.hb
  have hd0 : ¬ x0 > x1 := h0
  have he0 : decide (x0 > x1) = false := decide_eq_false hd0
  have hd1 : x1 > x2 := h1
  have he1 : decide (x1 > x2) = true := decide_eq_true hd1
  have hd2 : ¬ x0 > x2 := h2
  have he2 : decide (x0 > x2) = false := decide_eq_false hd2
  have HL : Hid _ := hL
  have HQ : Hid _ := hQ
  clear hL hQ
  apply wp_seq_k; intro K1 aK1
  have HK : Hid (∀ a w, _ → K1 a w) := aK1
  clear aK1
  go_wp2_with fail
  refine wp_loop_rounds 3 ?_
  rw [rounds_succ]
  go_wp2_with fail
  refine wp_loop_rounds 1 ?_
  rw [rounds_succ]
  go_wp2_with fail
  go_quiet (fail)
  revert nq; intro n1
  go_wp2_with fail
  have hL1 : Lw w0 r b x0 x1 x2 (w.drewN n1) := HL.out.drewN n1
  generalize w.drewN n1 = W1 at hL1 ⊢
  clear c0 c1 c2 f0 f1 f2
  have c0 : W1.cell? ⟨b, 0, none⟩ = some (.int .u64 x0) := by rw [cell_of_row _ _ _ _ _ _ hL1.hb]; rfl
  have c1 : W1.cell? ⟨b, 1, none⟩ = some (.int .u64 x1) := by rw [cell_of_row _ _ _ _ _ _ hL1.hb]; rfl
  have c2 : W1.cell? ⟨b, 2, none⟩ = some (.int .u64 x2) := by rw [cell_of_row _ _ _ _ _ _ hL1.hb]; rfl
  have f0 : W1.frozen? ⟨b, 0, none⟩ = false := frozen_of_row _ _ _ _ _ hL1.hb
  have f1 : W1.frozen? ⟨b, 1, none⟩ = false := frozen_of_row _ _ _ _ _ hL1.hb
  have f2 : W1.frozen? ⟨b, 2, none⟩ = false := frozen_of_row _ _ _ _ _ hL1.hb
  clear HL
  have HL : Hid _ := hL1
  clear hL1
  rw [rounds_succ]
  go_wp2_with fail
  refine wp_loop_rounds 2 ?_
  rw [rounds_succ]
  go_wp2_with fail
  go_quiet (fail)
  go_wp2_with fail
  rw [rounds_succ]
  go_wp2_with fail
  go_quiet (fail)
  go_wp2_with fail
  rw [rounds_succ]
  go_wp2_with fail
  refine HK.out _ _ ?_

  refine (fun (h : Lw w0 r b x0 x2 x1 _) => low6_3 r b x0 x2 x1 w0 _ h.hb h.hr h.hne h.hr0 h.hB Q HQ.out) ?_
  repeat (first | exact HL.out | apply Lw.drewN | apply Lw.set0 | apply Lw.set1 | apply Lw.set2)

set_option maxRecDepth 10000 in
set_option maxHeartbeats 1000000 in
theorem low5_3b2 (r b : Nat) (x0 x1 x2 : Int) (w0 w : World) (hL : Lw w0 r b x0 x1 x2 w) (h0 : ¬ x1 < x0) (h1 : x2 < x1) (h2 : x2 < x0)
    {u0 u1 u2 u3 u4 u5 u7 u10 u11 u12 u13 u14 u15 u16 u17 u18 u19 u20 u21 u22 u23 u24 u25 u26 u27 u28 u29 u30 u31 u32 u33 u34 u35 u36 u37 u38 u39 u40 u41 u42 u43 u44 u45 u46 u47 u48 u49 u50 u51 u52 u53 u54 u55 u56 u57 u58 u59 u60 u61 u62 u63 u64 u65 u66 u67 u68 u69 u70 u71 u72 u73 u74 u75 u76 u77 u78 u79 u80 u81 u82 u83 u84 u85 u86 u87 u88 u89 u90 u91 u92 u93 u94 u95 u96 u97 : Value} (Q : Exit → Act → World → Prop) (hQ : Q = bodyPost Try.prog Try.f22 fun e w' => e = .returned (.tuple #[.agg #[.int .u64 x2, .int .u64 x0], .int .i64 2]) ∧ Below w0.heap.size w0 w') :
    Code.wp Try.prog (tl 5 (Try.f22.body.getD .skip)) Q ⟨#[u0, u1, u2, u3, u4, u5, .pointer (some ⟨r, 0, none⟩), u7, .pointer (some ⟨b, 0, none⟩), .int .i64 3, u10, u11, u12, u13, u14, u15, u16, u17, u18, u19, u20, u21, u22, u23, u24, u25, u26, u27, u28, u29, u30, u31, u32, u33, u34, u35, u36, u37, u38, u39, u40, u41, u42, u43, u44, u45, u46, u47, u48, u49, u50, u51, u52, u53, u54, u55, u56, u57, u58, u59, u60, u61, u62, u63, u64, u65, u66, u67, u68, u69, u70, u71, u72, u73, u74, u75, u76, u77, u78, u79, u80, u81, u82, u83, u84, u85, u86, u87, u88, u89, u90, u91, u92, u93, u94, u95, u96, u97], []⟩ w := by
  delta Try.f22
  dsimp only [tl, Option.getD_some]
  have c0 : w.cell? ⟨b, 0, none⟩ = some (.int .u64 x0) := by rw [cell_of_row _ _ _ _ _ _ hL.hb]; rfl
  have c1 : w.cell? ⟨b, 1, none⟩ = some (.int .u64 x1) := by rw [cell_of_row _ _ _ _ _ _ hL.hb]; rfl
  have c2 : w.cell? ⟨b, 2, none⟩ = some (.int .u64 x2) := by rw [cell_of_row _ _ _ _ _ _ hL.hb]; rfl
  have f0 : w.frozen? ⟨b, 0, none⟩ = false := frozen_of_row _ _ _ _ _ hL.hb
  have f1 : w.frozen? ⟨b, 1, none⟩ = false := frozen_of_row _ _ _ _ _ hL.hb
  have f2 : w.frozen? ⟨b, 2, none⟩ = false := frozen_of_row _ _ _ _ _ hL.hb
  have hd0 : ¬ x0 > x1 := h0
  have he0 : decide (x0 > x1) = false := decide_eq_false hd0
  have hd1 : x1 > x2 := h1
  have he1 : decide (x1 > x2) = true := decide_eq_true hd1
  have hd2 : x0 > x2 := h2
  have he2 : decide (x0 > x2) = true := decide_eq_true hd2
  have HL : Hid _ := hL
  have HQ : Hid _ := hQ
  clear hL hQ
  apply wp_seq_k; intro K1 aK1
  have HK : Hid (∀ a w, _ → K1 a w) := aK1
  clear aK1
  go_wp2_with fail
  refine wp_loop_rounds 3 ?_
  rw [rounds_succ]
  go_wp2_with fail
  refine wp_loop_rounds 1 ?_
  rw [rounds_succ]
  go_wp2_with fail
  go_quiet (fail)
  revert nq; intro n1
  go_wp2_with fail
  have hL1 : Lw w0 r b x0 x1 x2 (w.drewN n1) := HL.out.drewN n1
  generalize w.drewN n1 = W1 at hL1 ⊢
  clear c0 c1 c2 f0 f1 f2
  have c0 : W1.cell? ⟨b, 0, none⟩ = some (.int .u64 x0) := by rw [cell_of_row _ _ _ _ _ _ hL1.hb]; rfl
  have c1 : W1.cell? ⟨b, 1, none⟩ = some (.int .u64 x1) := by rw [cell_of_row _ _ _ _ _ _ hL1.hb]; rfl
  have c2 : W1.cell? ⟨b, 2, none⟩ = some (.int .u64 x2) := by rw [cell_of_row _ _ _ _ _ _ hL1.hb]; rfl
  have f0 : W1.frozen? ⟨b, 0, none⟩ = false := frozen_of_row _ _ _ _ _ hL1.hb
  have f1 : W1.frozen? ⟨b, 1, none⟩ = false := frozen_of_row _ _ _ _ _ hL1.hb
  have f2 : W1.frozen? ⟨b, 2, none⟩ = false := frozen_of_row _ _ _ _ _ hL1.hb
  clear HL
  have HL : Hid _ := hL1
  clear hL1
  rw [rounds_succ]
  go_wp2_with fail
  refine wp_loop_rounds 3 ?_
  rw [rounds_succ]
  go_wp2_with fail
  go_quiet (fail)
  go_wp2_with fail
  rw [rounds_succ]
  go_wp2_with fail
  go_quiet (fail)
  go_wp2_with fail
  rw [rounds_succ]
  go_wp2_with fail
  go_quiet (fail)
  go_wp2_with fail
  rw [rounds_succ]
  go_wp2_with fail
  refine HK.out _ _ ?_

  refine (fun (h : Lw w0 r b x2 x0 x1 _) => low6_3 r b x2 x0 x1 w0 _ h.hb h.hr h.hne h.hr0 h.hB Q HQ.out) ?_
  repeat (first | exact HL.out | apply Lw.drewN | apply Lw.set0 | apply Lw.set1 | apply Lw.set2)
end Go.Proofs.Qxb6612204a
