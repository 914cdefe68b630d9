import Derived.Test.Qxb6612204aTombD
namespace Go.Proofs.Qxb6612204a
open Go.RowKit Plain
set_option linter.unusedVariables false
set_option linter.unusedSimpArgs false

set_option maxRecDepth 10000 in
set_option maxHeartbeats 1000000 in
theorem low6_1 (r b : Nat) (y0 y1 y2 : Int) (w0 w : World) (hb : w.heap[b]? = some (.cells #[.int .u64 y0, .int .u64 y1, .int .u64 y2] 78)) (hr : w.heap[r]? = some (.cells #[.int .u64 0, .int .u64 0] 24)) (hne : b ≠ r) (hr0 : w0.heap.size ≤ r) (hB : Below w0.heap.size w0 w)
    {u0 u1 u2 u3 u4 u5 u7 u10 u11 u12 u13 u14 u15 u16 u17 u18 u19 u20 u21 u22 u23 u24 u25 u26 u27 u28 u29 u30 u31 u32 u33 u34 u35 u36 u37 u38 u39 u40 u41 u42 u43 u44 u45 u46 u47 u48 u49 u50 u51 u52 u53 u54 u55 u56 u57 u58 u59 u60 u61 u62 u63 u64 u65 u66 u67 u68 u69 u70 u71 u72 u73 u74 u75 u76 u77 u78 u79 u80 u81 u82 u83 u84 u85 u86 u87 u88 u89 u90 u91 u92 u93 u94 u95 u96 u97 : Value} (Q : Exit → Act → World → Prop) (hQ : Q = bodyPost Try.prog Try.f22 fun e w' => e = .returned (.tuple #[.agg #[.int .u64 y0, .int .u64 0], .int .i64 1]) ∧ Below w0.heap.size w0 w') :
    Code.wp Try.prog (tl 6 (Try.f22.body.getD .skip)) Q ⟨#[u0, u1, u2, u3, u4, u5, .pointer (some ⟨r, 0, none⟩), u7, .pointer (some ⟨b, 0, none⟩), .int .i64 1, u10, u11, u12, u13, u14, u15, u16, u17, u18, u19, u20, u21, u22, u23, u24, u25, u26, u27, u28, u29, u30, u31, u32, u33, u34, u35, u36, u37, u38, u39, u40, u41, u42, u43, u44, u45, u46, u47, u48, u49, u50, u51, u52, u53, u54, u55, u56, u57, u58, u59, u60, u61, u62, u63, u64, u65, u66, u67, u68, u69, u70, u71, u72, u73, u74, u75, u76, u77, u78, u79, u80, u81, u82, u83, u84, u85, u86, u87, u88, u89, u90, u91, u92, u93, u94, u95, u96, u97], []⟩ w := by
  delta Try.f22
  dsimp only [tl, Option.getD_some]
  have c0 : w.cell? ⟨b, 0, none⟩ = some (.int .u64 y0) := by rw [cell_of_row _ _ _ _ _ _ hb]; rfl
  have c1 : w.cell? ⟨b, 1, none⟩ = some (.int .u64 y1) := by rw [cell_of_row _ _ _ _ _ _ hb]; rfl
  have r0 : w.cell? ⟨r, 0, none⟩ = some (.int .u64 0) := by rw [cell_of_row _ _ _ _ _ _ hr]; rfl
  have r1 : w.cell? ⟨r, 1, none⟩ = some (.int .u64 0) := by rw [cell_of_row _ _ _ _ _ _ hr]; rfl
  have g0 : w.frozen? ⟨r, 0, none⟩ = false := frozen_of_row _ _ _ _ _ hr
  have g1 : w.frozen? ⟨r, 1, none⟩ = false := frozen_of_row _ _ _ _ _ hr
  have HR : Hid _ := hr
  have HB : Hid _ := hB
  have hrs : r < w.heap.size := (Array.getElem?_eq_some_iff.1 hr).1
  have hbs : b < w.heap.size := (Array.getElem?_eq_some_iff.1 hb).1
  clear hb hr hB
  subst hQ
  go_wp2
  go_rounds 2
  have hrow : (((w.setCell ⟨r, 0, none⟩ (.int .u64 y0)).setCell ⟨r, 1, none⟩ (.int .u64 0)).alloc (.cells #[.int .u64 y0, .int .u64 0] 24)).heap[r]? = some (.cells #[.int .u64 y0, .int .u64 0] 24) := by
    rw [Below.heap_alloc _ _ _ (by simpa using hrs)]
    exact heap_setCell_same _ _ _ _ _ _ (heap_setCell_same _ _ _ _ _ _ HR.out)
  refine bodyPost_ret (v := .tuple #[.agg #[.int .u64 y0, .int .u64 0], .int .i64 1]) ?_ rfl ⟨rfl, ?_⟩
  · refine results_ct (P := Try.prog) (a := 6) (d := 7) rfl _ _ (pa := ⟨r, 0, none⟩) ?_ (run_loadVar_seg _ _ _ 24 _ _ (seg_row hrow) Try.underlying24 rfl info24)
    rfl
  · have hz := HB.out.size
    exact ((HB.out.setCell hr0 _).setCell hr0 _).alloc (by simpa using hz) _

set_option maxRecDepth 10000 in
set_option maxHeartbeats 1000000 in
theorem low6_2 (r b : Nat) (y0 y1 y2 : Int) (w0 w : World) (hb : w.heap[b]? = some (.cells #[.int .u64 y0, .int .u64 y1, .int .u64 y2] 78)) (hr : w.heap[r]? = some (.cells #[.int .u64 0, .int .u64 0] 24)) (hne : b ≠ r) (hr0 : w0.heap.size ≤ r) (hB : Below w0.heap.size w0 w)
    {u0 u1 u2 u3 u4 u5 u7 u10 u11 u12 u13 u14 u15 u16 u17 u18 u19 u20 u21 u22 u23 u24 u25 u26 u27 u28 u29 u30 u31 u32 u33 u34 u35 u36 u37 u38 u39 u40 u41 u42 u43 u44 u45 u46 u47 u48 u49 u50 u51 u52 u53 u54 u55 u56 u57 u58 u59 u60 u61 u62 u63 u64 u65 u66 u67 u68 u69 u70 u71 u72 u73 u74 u75 u76 u77 u78 u79 u80 u81 u82 u83 u84 u85 u86 u87 u88 u89 u90 u91 u92 u93 u94 u95 u96 u97 : Value} (Q : Exit → Act → World → Prop) (hQ : Q = bodyPost Try.prog Try.f22 fun e w' => e = .returned (.tuple #[.agg #[.int .u64 y0, .int .u64 y1], .int .i64 2]) ∧ Below w0.heap.size w0 w') :
    Code.wp Try.prog (tl 6 (Try.f22.body.getD .skip)) Q ⟨#[u0, u1, u2, u3, u4, u5, .pointer (some ⟨r, 0, none⟩), u7, .pointer (some ⟨b, 0, none⟩), .int .i64 2, u10, u11, u12, u13, u14, u15, u16, u17, u18, u19, u20, u21, u22, u23, u24, u25, u26, u27, u28, u29, u30, u31, u32, u33, u34, u35, u36, u37, u38, u39, u40, u41, u42, u43, u44, u45, u46, u47, u48, u49, u50, u51, u52, u53, u54, u55, u56, u57, u58, u59, u60, u61, u62, u63, u64, u65, u66, u67, u68, u69, u70, u71, u72, u73, u74, u75, u76, u77, u78, u79, u80, u81, u82, u83, u84, u85, u86, u87, u88, u89, u90, u91, u92, u93, u94, u95, u96, u97], []⟩ w := by
  delta Try.f22
  dsimp only [tl, Option.getD_some]
  have c0 : w.cell? ⟨b, 0, none⟩ = some (.int .u64 y0) := by rw [cell_of_row _ _ _ _ _ _ hb]; rfl
  have c1 : w.cell? ⟨b, 1, none⟩ = some (.int .u64 y1) := by rw [cell_of_row _ _ _ _ _ _ hb]; rfl
  have r0 : w.cell? ⟨r, 0, none⟩ = some (.int .u64 0) := by rw [cell_of_row _ _ _ _ _ _ hr]; rfl
  have r1 : w.cell? ⟨r, 1, none⟩ = some (.int .u64 0) := by rw [cell_of_row _ _ _ _ _ _ hr]; rfl
  have g0 : w.frozen? ⟨r, 0, none⟩ = false := frozen_of_row _ _ _ _ _ hr
  have g1 : w.frozen? ⟨r, 1, none⟩ = false := frozen_of_row _ _ _ _ _ hr
  have HR : Hid _ := hr
  have HB : Hid _ := hB
  have hrs : r < w.heap.size := (Array.getElem?_eq_some_iff.1 hr).1
  have hbs : b < w.heap.size := (Array.getElem?_eq_some_iff.1 hb).1
  clear hb hr hB
  subst hQ
  go_wp2
  go_rounds 3
  have hrow : (((w.setCell ⟨r, 0, none⟩ (.int .u64 y0)).setCell ⟨r, 1, none⟩ (.int .u64 y1)).alloc (.cells #[.int .u64 y0, .int .u64 y1] 24)).heap[r]? = some (.cells #[.int .u64 y0, .int .u64 y1] 24) := by
    rw [Below.heap_alloc _ _ _ (by simpa using hrs)]
    exact heap_setCell_same _ _ _ _ _ _ (heap_setCell_same _ _ _ _ _ _ HR.out)
  refine bodyPost_ret (v := .tuple #[.agg #[.int .u64 y0, .int .u64 y1], .int .i64 2]) ?_ rfl ⟨rfl, ?_⟩
  · refine results_ct (P := Try.prog) (a := 6) (d := 7) rfl _ _ (pa := ⟨r, 0, none⟩) ?_ (run_loadVar_seg _ _ _ 24 _ _ (seg_row hrow) Try.underlying24 rfl info24)
    rfl
  · have hz := HB.out.size
    exact ((HB.out.setCell hr0 _).setCell hr0 _).alloc (by simpa using hz) _

set_option maxRecDepth 10000 in
set_option maxHeartbeats 1000000 in
theorem low6_3 (r b : Nat) (y0 y1 y2 : Int) (w0 w : World) (hb : w.heap[b]? = some (.cells #[.int .u64 y0, .int .u64 y1, .int .u64 y2] 78)) (hr : w.heap[r]? = some (.cells #[.int .u64 0, .int .u64 0] 24)) (hne : b ≠ r) (hr0 : w0.heap.size ≤ r) (hB : Below w0.heap.size w0 w)
    {u0 u1 u2 u3 u4 u5 u7 u10 u11 u12 u13 u14 u15 u16 u17 u18 u19 u20 u21 u22 u23 u24 u25 u26 u27 u28 u29 u30 u31 u32 u33 u34 u35 u36 u37 u38 u39 u40 u41 u42 u43 u44 u45 u46 u47 u48 u49 u50 u51 u52 u53 u54 u55 u56 u57 u58 u59 u60 u61 u62 u63 u64 u65 u66 u67 u68 u69 u70 u71 u72 u73 u74 u75 u76 u77 u78 u79 u80 u81 u82 u83 u84 u85 u86 u87 u88 u89 u90 u91 u92 u93 u94 u95 u96 u97 : Value} (Q : Exit → Act → World → Prop) (hQ : Q = bodyPost Try.prog Try.f22 fun e w' => e = .returned (.tuple #[.agg #[.int .u64 y0, .int .u64 y1], .int .i64 2]) ∧ Below w0.heap.size w0 w') :
    Code.wp Try.prog (tl 6 (Try.f22.body.getD .skip)) Q ⟨#[u0, u1, u2, u3, u4, u5, .pointer (some ⟨r, 0, none⟩), u7, .pointer (some ⟨b, 0, none⟩), .int .i64 3, u10, u11, u12, u13, u14, u15, u16, u17, u18, u19, u20, u21, u22, u23, u24, u25, u26, u27, u28, u29, u30, u31, u32, u33, u34, u35, u36, u37, u38, u39, u40, u41, u42, u43, u44, u45, u46, u47, u48, u49, u50, u51, u52, u53, u54, u55, u56, u57, u58, u59, u60, u61, u62, u63, u64, u65, u66, u67, u68, u69, u70, u71, u72, u73, u74, u75, u76, u77, u78, u79, u80, u81, u82, u83, u84, u85, u86, u87, u88, u89, u90, u91, u92, u93, u94, u95, u96, u97], []⟩ w := by
  delta Try.f22
  dsimp only [tl, Option.getD_some]
  have c0 : w.cell? ⟨b, 0, none⟩ = some (.int .u64 y0) := by rw [cell_of_row _ _ _ _ _ _ hb]; rfl
  have c1 : w.cell? ⟨b, 1, none⟩ = some (.int .u64 y1) := by rw [cell_of_row _ _ _ _ _ _ hb]; rfl
  have r0 : w.cell? ⟨r, 0, none⟩ = some (.int .u64 0) := by rw [cell_of_row _ _ _ _ _ _ hr]; rfl
  have r1 : w.cell? ⟨r, 1, none⟩ = some (.int .u64 0) := by rw [cell_of_row _ _ _ _ _ _ hr]; rfl
  have g0 : w.frozen? ⟨r, 0, none⟩ = false := frozen_of_row _ _ _ _ _ hr
  have g1 : w.frozen? ⟨r, 1, none⟩ = false := frozen_of_row _ _ _ _ _ hr
  have HR : Hid _ := hr
  have HB : Hid _ := hB
  have hrs : r < w.heap.size := (Array.getElem?_eq_some_iff.1 hr).1
  have hbs : b < w.heap.size := (Array.getElem?_eq_some_iff.1 hb).1
  clear hb hr hB
  subst hQ
  go_wp2
  go_rounds 3
  have hrow : (((w.setCell ⟨r, 0, none⟩ (.int .u64 y0)).setCell ⟨r, 1, none⟩ (.int .u64 y1)).alloc (.cells #[.int .u64 y0, .int .u64 y1] 24)).heap[r]? = some (.cells #[.int .u64 y0, .int .u64 y1] 24) := by
    rw [Below.heap_alloc _ _ _ (by simpa using hrs)]
    exact heap_setCell_same _ _ _ _ _ _ (heap_setCell_same _ _ _ _ _ _ HR.out)
  refine bodyPost_ret (v := .tuple #[.agg #[.int .u64 y0, .int .u64 y1], .int .i64 2]) ?_ rfl ⟨rfl, ?_⟩
  · refine results_ct (P := Try.prog) (a := 6) (d := 7) rfl _ _ (pa := ⟨r, 0, none⟩) ?_ (run_loadVar_seg _ _ _ 24 _ _ (seg_row hrow) Try.underlying24 rfl info24)
    rfl
  · have hz := HB.out.size
    exact ((HB.out.setCell hr0 _).setCell hr0 _).alloc (by simpa using hz) _
end Go.Proofs.Qxb6612204a
