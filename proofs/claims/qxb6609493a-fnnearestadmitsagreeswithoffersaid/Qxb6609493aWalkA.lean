import Derived.Test.Qxb6609493aProg
import Derived.Test.Qxb6609493aKit
import Derived.Test.Qxb6609493aPlain
namespace Go.Proofs.Qxb6609493a
open Go.RowKit Plain

theorem cb_at : ∀ (k : Nat) (a b : List UInt8), a.length = b.length → k < a.length → (∀ j, j < k → a.getD j 0 = b.getD j 0) → a.getD k 0 ≠ b.getD k 0 →
    cb a b = if a.getD k 0 < b.getD k 0 then -1 else 1
  | 0, x :: a, y :: b, _, _, _, hne => by
    simp only [List.getD_cons_zero] at hne ⊢
    simp only [cb, Lib.compareBytes]
    by_cases h : x < y
    · simp [h]
    · have : y < x := UInt8.lt_of_le_of_ne (UInt8.not_lt.1 h) (Ne.symm hne)
      simp [h, this]
  | k + 1, x :: a, y :: b, hl, hk, hp, hne => by
    have h0 := hp 0 (by omega)
    simp only [List.getD_cons_zero] at h0
    subst h0
    have ih := cb_at k a b (by simpa using hl) (by simpa using hk) (fun j hj => by have := hp (j + 1) (by omega); simpa using this) (by simpa using hne)
    simp only [List.getD_cons_succ]
    rw [← ih]
    simp [cb, Lib.compareBytes, UInt8.lt_irrefl]
  | _, [], _, _, hk, _, _ => by simp at hk
  | _, _ :: _, [], hl, _, _, _ => by simp at hl

theorem lt_at {a b : List UInt8} (k : Nat) (ha : a.length = b.length) (hk : k < a.length) (hpre : ∀ j, j < k → a.getD j 0 = b.getD j 0) (hne : a.getD k 0 ≠ b.getD k 0) :
    lt a b = decide (((a.getD k 0).toNat : Int) < ((b.getD k 0).toNat : Int)) := by
  unfold lt
  rw [cb_at k a b ha hk hpre hne]
  by_cases h : a.getD k 0 < b.getD k 0
  · rw [if_pos h]
    have := UInt8.lt_iff_toNat_lt.1 h
    rw [decide_eq_decide]; omega
  · rw [if_neg h]
    have h' : ¬ (a.getD k 0).toNat < (b.getD k 0).toNat := fun q => h (UInt8.lt_iff_toNat_lt.2 q)
    rw [decide_eq_decide]; omega
theorem eq_of_getD {a b : List UInt8} (ha : a.length = b.length) (hpre : ∀ j, j < a.length → a.getD j 0 = b.getD j 0) : a = b := by
  apply List.ext_getElem?
  intro j
  by_cases hj : j < a.length
  · have := hpre j hj
    have hj' : j < b.length := by omega
    simp only [List.getD, List.getElem?_eq_getElem hj, List.getElem?_eq_getElem hj', Option.getD_some] at this
    simp [List.getElem?_eq_getElem hj, List.getElem?_eq_getElem hj', this]
  · rw [List.getElem?_eq_none (by omega), List.getElem?_eq_none (by omega)]
theorem lt_end {a b : List UInt8} (ha : a.length = b.length) (hpre : ∀ j, j < a.length → a.getD j 0 = b.getD j 0) : lt a b = false := by
  rw [eq_of_getD ha hpre, lt_irrefl]

theorem ret_bool {a b : Bool} (h : a = b) : Ending.returned (.bool a) = .returned (.bool b) := by rw [h]

theorem Try.follows : Try.prog.follows .mixedOrders = true := by kernel_rfl

set_option maxHeartbeats 400000 in
theorem less_any (a b : List UInt8) (w : World) (ha : a.length = 20) (hb : b.length = 20) :
    Calls Try.prog 13 #[.agg (bv a), .agg (bv b)] w fun e w' => e = .returned (.bool (lt a b)) ∧ Below w.heap.size w w' := by
  go_enter Try.func13, Try.ntmps13
  go_wp2
  go_loopw [5] (fun i wr => ∃ k : Nat, k ≤ 20 ∧ i = .int .i64 k ∧ wr.heap[w.heap.size]? = some (.cells (bv a) 30) ∧ wr.heap[w.heap.size + 1]? = some (.cells (bv b) 30) ∧ Below w.heap.size w wr ∧ (∀ j, j < k → a.getD j 0 = b.getD j 0)) (fun i _ => 20 - (intOf i).toNat)
  case atStart => exact ⟨0, by omega, rfl, heap_alloc2_old _ _ _, heap_alloc2_new _ _ _, ((Below.refl _ _).alloc (Nat.le_refl _) _).alloc (by simp) _, fun j hj => absurd hj (Nat.not_lt_zero _)⟩
  case round =>
    obtain ⟨k, hk, rfl, h1, h2, hbl, hpre⟩ := hrel
    have HP : Hid (∀ j, j < k → a.getD j 0 = b.getD j 0) := hpre
    clear hpre
    by_cases hlt : k < 20
    · obtain ⟨x, hx⟩ : ∃ x, x = a.getD k 0 := ⟨_, rfl⟩
      obtain ⟨y, hy⟩ : ∃ y, y = b.getD k 0 := ⟨_, rfl⟩
      have hs1 : w.heap.size < wr.heap.size := (Array.getElem?_eq_some_iff.1 h1).1
      have hs2 : w.heap.size + 1 < wr.heap.size := (Array.getElem?_eq_some_iff.1 h2).1
      have hn := later_some wr
      have c1 : ∀ e : Later wr, e.x.cell? ⟨w.heap.size, k, none⟩ = some (.int .u8 (x.toNat : Int)) := fun e => by
        rw [cell_of_row e.x _ k _ _ _ ((e.h.block _ hs1).trans h1), bv_get a k (by omega), hx]
      have c2 : ∀ e : Later wr, e.x.cell? ⟨w.heap.size + 1, k, none⟩ = some (.int .u8 (y.toNat : Int)) := fun e => by
        rw [cell_of_row e.x _ k _ _ _ ((e.h.block _ hs2).trans h2), bv_get b k (by omega), hy]
      have HX : Hid (x = a.getD k 0) := hx
      have HY : Hid (y = b.getD k 0) := hy
      clear hx hy
      by_cases hxy : x = y
      · have hne : ((x.toNat : Int) != (y.toNat : Int)) = false := by rw [hxy]; simp
        have HE : Hid (x = y) := hxy
        clear hxy
        go_wp2
        refine wp_region_later Try.follows (by kernel_rfl) ?_
        repeat (go_big_quiet_step (fail))
        refine wpQuiet_nil ?_
        rintro ⟨w1, hb1⟩
        have h1' := (hb1.block _ hs1).trans h1
        have h2' := (hb1.block _ hs2).trans h2
        have hbl' := hbl.trans (hb1.mono hbl.size)
        clear c1 c2 hn h1 h2
        go_wp2
        go_roundw
        case rel => exact ⟨k + 1, by omega, by go_num, h1', h2', hbl', fun j hj => by
          rcases Nat.lt_succ_iff_lt_or_eq.1 hj with h | rfl
          · exact HP.out j h
          · rw [← HX.out, ← HY.out]; exact HE.out⟩
        case measure => simp [intOf]; omega
      · have hne : ((x.toNat : Int) != (y.toNat : Int)) = true := by
          rw [bne_iff_ne]; intro h; exact hxy (UInt8.toNat_inj.1 (by omega))
        have HE : Hid (x ≠ y) := hxy
        clear hxy
        go_wp2
        refine wp_region_later Try.follows (by kernel_rfl) ?_
        repeat (go_big_quiet_step (fail))
        refine wpQuiet_nil ?_
        rintro ⟨w1, hb1⟩
        have hn1 := later_some w1
        have c1' : ∀ e : Later w1, e.x.cell? ⟨w.heap.size, k, none⟩ = some (.int .u8 (x.toNat : Int)) := fun e => c1 ⟨e.x, hb1.trans (e.h.mono hb1.size)⟩
        have c2' : ∀ e : Later w1, e.x.cell? ⟨w.heap.size + 1, k, none⟩ = some (.int .u8 (y.toNat : Int)) := fun e => c2 ⟨e.x, hb1.trans (e.h.mono hb1.size)⟩
        have hbl' := hbl.trans (hb1.mono hbl.size)
        clear c1 c2 hn h1 h2
        go_wp2
        refine wp_region_later Try.follows (by kernel_rfl) ?_
        repeat (go_big_quiet_step (fail))
        refine wpQuiet_nil ?_
        rintro ⟨w2, hb2⟩
        go_wp2
        go_ret
        refine ⟨ret_bool ?_, hbl'.trans (hb2.mono hbl'.size)⟩
        rw [lt_at k (by omega) (by omega) HP.out (by rw [← HX.out, ← HY.out]; exact HE.out), HX.out, HY.out, decide_eq_decide]; omega
    · go_wp2
      go_ret
      exact ⟨ret_bool (lt_end (by omega) (fun j hj => HP.out j (by omega))).symm, hbl⟩


theorem Try.find36 : Extern.find Try.f36 = some Extern.BytealgCompare.compare := by kernel_rfl

set_option maxHeartbeats 400000 in
theorem compare_any (a b : List UInt8) (g1 g2 c1 c2 : Nat) (w : World) (ha : a.length = 20) (hb : b.length = 20) (h1 : Seg w g1 0 (bv a)) (h2 : Seg w g2 0 (bv b)) :
    Calls Try.prog 31 #[.slice (some ⟨g1, 0, none⟩) 20 c1, .slice (some ⟨g2, 0, none⟩) 20 c2] w fun e w' => e = .returned (.int .i64 (cb a b)) ∧ w' = w := by
  have hr := run_compare_bv (P := Try.prog) w a b g1 g2 0 0 c1 c2 h1 h2
  rw [ha, hb] at hr
  have hc := run_callFunc_extern (P := Try.prog) Try.func36 (by kernel_rfl) (by kernel_rfl) (by kernel_rfl) Try.find36 #[.slice (some ⟨g1, 0, none⟩) 20 c1, .slice (some ⟨g2, 0, none⟩) 20 c2] w
  rw [hr] at hc
  clear hr h1 h2
  go_enter Try.func31, Try.ntmps31
  go_wp2
  go_ret
  exact ⟨rfl, rfl⟩

theorem Below.push2 (w : World) (A B : Obj) : Below w.heap.size w ((w.alloc A).alloc B) := ((Below.refl _ _).alloc (Nat.le_refl _) _).alloc (by simp) _

set_option maxHeartbeats 400000 in
theorem cmp_any (a b : List UInt8) (w : World) (ha : a.length = 20) (hb : b.length = 20) :
    Calls Try.prog 28 #[.agg (bv a), .agg (bv b)] w fun e w' => e = .returned (.int .i64 (cb a b)) ∧ Below w.heap.size w w' := by
  go_enter Try.func28, Try.ntmps28
  go_wp2
  have hn := later_some ((w.alloc (Obj.cells (bv a) 51)).alloc (Obj.cells (bv b) 51))
  have s1 : ∀ e : Later ((w.alloc (Obj.cells (bv a) 51)).alloc (Obj.cells (bv b) 51)), Seg e.x w.heap.size 0 (bv a) := fun e =>
    seg_row ((e.h.block _ (by simp; omega)).trans (heap_alloc2_old _ _ _))
  have s2 : ∀ e : Later ((w.alloc (Obj.cells (bv a) 51)).alloc (Obj.cells (bv b) 51)), Seg e.x (w.heap.size + 1) 0 (bv b) := fun e =>
    seg_row ((e.h.block _ (by simp)).trans (heap_alloc2_new _ _ _))
  have S1 := @Hid.out _ s1
  have HS1 : Hid _ := s1
  have HS2 : Hid _ := s2
  clear s1 s2 S1
  refine wp_region_later Try.follows (by kernel_rfl) ?_
  repeat (go_big_quiet_step ((go_at_call 31; exact later_call _ ((compare_any a b _ _ _ _ _ ha hb (HS1.out _) (HS2.out _)).mono fun e w' ⟨he, hw⟩ => ⟨he, by rw [hw]; exact Below.refl _ _⟩))))
  refine wpQuiet_nil ?_
  rintro ⟨w1, hb1⟩
  go_wp2
  go_ret
  exact ⟨rfl, (Below.push2 w _ _).trans (hb1.mono (by simp; omega))⟩

/-- The cells of a 'nearest': two links, two offsets, how many. -/
def nst (l0 l1 : Value) (o0 o1 : List UInt8) (c : Int) : Array Value := #[l0, l1] ++ bv o0 ++ (bv o1 ++ #[.int .i64 c])

section
variable {w : World} {g : Nat} {l0 l1 : Value} {o0 o1 : List UInt8} {c : Int}
theorem nst_0 (h : w.heap[g]? = some (.cells (nst l0 l1 o0 o1 c) 54)) : Seg w g 2 (bv o0) := seg_part h rfl
theorem nst_1 (h : w.heap[g]? = some (.cells (nst l0 l1 o0 o1 c) 54)) (h0 : o0.length = 20) : Seg w g 22 (bv o1) := by
  have e : nst l0 l1 o0 o1 c = (#[l0, l1] ++ bv o0) ++ bv o1 ++ #[.int .i64 c] := by simp [nst, Array.append_assoc]
  rw [e] at h
  exact seg_part h (by simp [bv_size, h0])
theorem nst_c (h : w.heap[g]? = some (.cells (nst l0 l1 o0 o1 c) 54)) (h0 : o0.length = 20) (h1 : o1.length = 20) : w.cell? ⟨g, 42, none⟩ = some (.int .i64 c) := by
  rw [cell_of_row w g 42 _ _ _ h, nst, Array.getElem?_append_right (by simp [bv_size, h0]), Array.getElem?_append_right (by simp [bv_size, h0, h1])]
  simp [bv_size, h0, h1]
theorem nst_size (h0 : o0.length = 20) (h1 : o1.length = 20) : (nst l0 l1 o0 o1 c).size = 43 := by simp [nst, bv_size, h0, h1]
end

theorem Try.info51 : (Try.prog.info? 51).map (·.size) = some 20 := by kernel_rfl
theorem Try.info30 : (Try.prog.info? 30).map (·.size) = some 20 := by kernel_rfl

set_option maxHeartbeats 400000 in
theorem admits_any (l0 l1 : Value) (o0 o1 x : List UInt8) (c : Int) (g : Nat) (w : World) (h0 : o0.length = 20) (h1 : o1.length = 20) (hx : x.length = 20)
    (hg : w.heap[g]? = some (.cells (nst l0 l1 o0 o1 c) 54)) :
    Calls Try.prog 24 #[.pointer (some ⟨g, 0, none⟩), .agg (bv x)] w fun e w' => e = .returned (.bool (decide (c < 2) || decide (cb x o1 ≤ 0))) ∧ Below w.heap.size w w' := by
  have hgs : g < w.heap.size := (Array.getElem?_eq_some_iff.1 hg).1
  have hg1 : (w.alloc (.cells (bv x) 51)).heap[g]? = some (.cells (nst l0 l1 o0 o1 c) 54) := (Below.heap_alloc _ _ _ hgs).trans hg
  have key : ∀ e : Later (w.alloc (.cells (bv x) 51)), e.x.heap[g]? = some (.cells (nst l0 l1 o0 o1 c) 54) := fun e => (e.h.block _ (by simp; omega)).trans hg1
  have hc : ∀ e : Later (w.alloc (.cells (bv x) 51)), e.x.cell? ⟨g, 42, none⟩ = some (.int .i64 c) := fun e => nst_c (key e) h0 h1
  have hn := later_some (w.alloc (.cells (bv x) 51))
  have s1 : ∀ e : Later (w.alloc (.cells (bv x) 51)), Seg e.x g 22 (bv o1) := fun e => nst_1 (key e) h0
  have s2 : ∀ e : Later (w.alloc (.cells (bv x) 51)), Seg e.x w.heap.size 0 (bv x) := fun e => seg_row ((e.h.block _ (by simp)).trans (heap_alloc_new _ _))
  have HS1 : Hid _ := s1
  have HS2 : Hid _ := s2
  clear s1 s2 key hg hg1
  by_cases hlt : c < 2
  · go_enter Try.func24, Try.ntmps24
    go_wp2
    refine wp_region_later Try.follows (by kernel_rfl) ?_
    repeat (go_big_quiet_step (fail))
    refine wpQuiet_nil ?_
    rintro ⟨w1, hb1⟩
    go_wp2
    go_ret
    refine ⟨ret_bool (by simp [hlt]), ?_⟩
    exact ((Below.refl _ _).alloc (Nat.le_refl _) _).trans (hb1.mono (by simp))
  · have hd : decide (c < 2) = false := by simpa using hlt
    go_enter Try.func24, Try.ntmps24
    go_wp2
    refine wp_region_later Try.follows (by kernel_rfl) ?_
    repeat (first
      | (go_big_quiet_want; refine later_load 51 (.tmp 3) rfl _ _ rfl _ _ HS2.out Try.underlying51 rfl (by rw [Try.info51, bv_size, hx]) ?_; simp only [Act.put, List.setIfInBounds_toArray, List.set_cons_succ, List.set_cons_zero]; go_big_quiet_on)
      | (go_big_quiet_want; refine later_load 51 (.tmp 15) rfl _ _ rfl _ _ HS1.out Try.underlying51 rfl (by rw [Try.info51, bv_size, h1]) ?_; simp only [Act.put, List.setIfInBounds_toArray, List.set_cons_succ, List.set_cons_zero]; go_big_quiet_on)
      | go_big_quiet_step ((go_at_call 28; exact later_call _ (cmp_any x o1 _ hx h1))))
    refine wpQuiet_nil ?_
    rintro ⟨w1, hb1⟩
    go_wp2
    go_ret
    refine ⟨ret_bool (by simp [hd]), ?_⟩
    exact ((Below.refl _ _).alloc (Nat.le_refl _) _).trans (hb1.mono (by simp))
end Go.Proofs.Qxb6609493a
