import Derived.Test.Qxb6609493aWalkB
namespace Go.Proofs.Qxb6609493a
open Go.RowKit Plain
set_option linter.unusedVariables false

/-- 'offer', whatever has been kept. -/
theorem offer_any (la p0 p1 : Option Addr) (s : St) (x : List UInt8) (g : Nat) (w : World) (h0 : s.o0.length = 20) (h1 : s.o1.length = 20) (hx : x.length = 20)
    (hg : w.heap[g]? = some (.cells (nst (.pointer p0) (.pointer p1) s.o0 s.o1 s.c) 54)) (hc : s.c ≤ 2) :
    Calls Try.prog 23 #[.pointer (some ⟨g, 0, none⟩), .pointer la, .agg (bv x)] w fun e w' => e = .returned (.tuple #[]) ∧
      (∃ p0 p1, w'.heap[g]? = some (.cells (nst (.pointer p0) (.pointer p1) (offer s x).o0 (offer s x).o1 (offer s x).c) 54)) ∧ Below g w w' := by
  obtain ⟨c, o0, o1⟩ := s
  have key : ∃ K, K ≤ c ∧ (∀ j, j < K → cb (ov o0 o1 j) x < 0) ∧ (K < c → 0 ≤ cb (ov o0 o1 K) x) := by
    simp only at hc
    by_cases c0 : c = 0
    · exact ⟨0, by omega, fun j hj => absurd hj (Nat.not_lt_zero _), fun h => by omega⟩
    · by_cases l0 : cb (ov o0 o1 0) x < 0
      · by_cases c1 : c = 1
        · exact ⟨1, by omega, fun j hj => by obtain rfl : j = 0 := (by omega); exact l0, fun h => by omega⟩
        · by_cases l1 : cb (ov o0 o1 1) x < 0
          · exact ⟨2, by omega, fun j hj => by
              have : j = 0 ∨ j = 1 := by omega
              rcases this with rfl | rfl
              · exact l0
              · exact l1, fun h => by omega⟩
          · exact ⟨1, by omega, fun j hj => by obtain rfl : j = 0 := (by omega); exact l0, fun h => by omega⟩
      · exact ⟨0, by omega, fun j hj => absurd hj (Nat.not_lt_zero _), fun h => by omega⟩
  obtain ⟨K, hK, hlo, hhi⟩ := key
  exact offer_core la p0 p1 o0 o1 x c K g w h0 h1 hx hg hc hK hlo hhi

theorem offer_len {s : St} {x : List UInt8} (h0 : s.o0.length = 20) (h1 : s.o1.length = 20) (hx : x.length = 20) (hc : s.c ≤ 2) :
    (offer s x).o0.length = 20 ∧ (offer s x).o1.length = 20 ∧ (offer s x).c ≤ 2 := by
  unfold offer
  repeat' split
  all_goals exact ⟨by assumption, by assumption, by first | assumption | simp⟩

set_option maxRecDepth 10000 in
set_option maxHeartbeats 400000 in
theorem zzoffer_any (p0 p1 : Option Addr) (s : St) (x : List UInt8) (g : Nat) (w : World) (h0 : s.o0.length = 20) (h1 : s.o1.length = 20) (hx : x.length = 20)
    (hg : w.heap[g]? = some (.cells (nst (.pointer p0) (.pointer p1) s.o0 s.o1 s.c) 54)) (hc : s.c ≤ 2) :
    Calls Try.prog 11 #[.pointer (some ⟨g, 0, none⟩), .agg (bv x)] w fun e w' => e = .returned (.tuple #[]) ∧
      (∃ p0 p1, w'.heap[g]? = some (.cells (nst (.pointer p0) (.pointer p1) (offer s x).o0 (offer s x).o1 (offer s x).c) 54)) ∧ Below g w w' := by
  have hgs : g < w.heap.size := (Array.getElem?_eq_some_iff.1 hg).1
  have HG : Hid _ := hg
  clear hg
  go_enter Try.func11, Try.ntmps11
  go_wp2_with (first | (refine wpList_load_seg rfl 30 (.tmp 3) rfl _ _ rfl (bv x) _ (by exact seg_row (heap_alloc2_old _ _ _)) Try.underlying30 rfl (by rw [Try.info30, bv_size, hx]) ?_))
  refine (offer_any _ p0 p1 s x g _ h0 h1 hx ?hg hc).mono ?_
  case hg => exact (Below.heap_alloc _ _ _ (by simp; omega)).trans ((Below.heap_alloc _ _ _ hgs).trans HG.out)
  rintro e w' ⟨rfl, hp, hb⟩
  have HP : Hid _ := hp
  have HB : Hid _ := hb
  clear hp hb
  go_wp2
  go_end0
  refine ⟨rfl, HP.out, Below.trans ?_ HB.out⟩
  exact (((Below.refl _ _).alloc (by omega) _).alloc (by simp; omega) _)

set_option maxHeartbeats 400000 in
theorem zzadmits_any (l0 l1 : Value) (s : St) (x : List UInt8) (g : Nat) (w : World) (h0 : s.o0.length = 20) (h1 : s.o1.length = 20) (hx : x.length = 20)
    (hg : w.heap[g]? = some (.cells (nst l0 l1 s.o0 s.o1 s.c) 54)) :
    Calls Try.prog 12 #[.pointer (some ⟨g, 0, none⟩), .agg (bv x)] w fun e w' => e = .returned (.bool (admits s x)) ∧ Below w.heap.size w w' := by
  have hgs : g < w.heap.size := (Array.getElem?_eq_some_iff.1 hg).1
  have HG : Hid _ := hg
  clear hg
  go_enter Try.func12, Try.ntmps12
  go_wp2_with (first | (refine wpList_load_seg rfl 30 (.tmp 3) rfl _ _ rfl (bv x) _ (by exact seg_row (heap_alloc_new _ _)) Try.underlying30 rfl (by rw [Try.info30, bv_size, hx]) ?_))
  refine (admits_any l0 l1 s.o0 s.o1 x s.c g _ h0 h1 hx ?hg).mono ?_
  case hg => exact (Below.heap_alloc _ _ _ hgs).trans HG.out
  rintro e w' ⟨rfl, hb⟩
  have HB : Hid _ := hb
  clear hb
  go_wp2
  go_ret
  refine ⟨ret_bool ?_, Below.trans ?_ (HB.out.mono ?_)⟩
  · unfold admits
    congr 1
    · rw [decide_eq_decide]; omega
    · have := cb_nonpos x s.o1
      cases hq : lt s.o1 x <;> simp [hq] at this ⊢ <;> omega
  · exact ((Below.refl _ _).alloc (Nat.le_refl _) _)
  · simp

set_option maxHeartbeats 400000 in
theorem zznew_any (w : World) :
    Calls Try.prog 10 #[] w fun e w' => e = .returned (.pointer (some ⟨w.heap.size, 0, none⟩)) ∧ w' = w.alloc (.cells (nst (.pointer none) (.pointer none) z20 z20 0) 54) := by
  go_enter Try.func10, Try.ntmps10
  go_wp2
  go_ret
  exact ⟨rfl, rfl⟩
end Go.Proofs.Qxb6609493a
