import Derived.Test.Qxb6612210aVars
namespace Go.Proofs.Qxb6612210a
open Go.RowKit
set_option linter.unusedVariables false

theorem refuse (κ : Nat → Int) (n p : Nat) (kd : Int) (hp : p ≤ n) (h : ∀ j, j ≤ n → κ j = if j = p then kd else 3) : (decide (0 < n + 1) && allVar κ (n + 1)) = decide (kd = 3) := by
  by_cases e : kd = 3
  · rw [allVar_true (fun i hi => by rw [h i (by omega)]; split <;> simp [e])]
    simp [e]
  · rw [allVar_false p (by omega) (by rw [h p hp, if_pos rfl]; exact e)]
    simp [e]

set_option maxHeartbeats 1000000 in
theorem law_walk (n p : Nat) (kd : Int) (w : World) (hn : n ≤ 65536) (hp : p ≤ n) (hk0 : 0 ≤ kd) (hk1 : kd ≤ 255) :
    Calls Try.prog 4 #[.int .i64 (n : Int), .int .i64 (p : Int), .int .u8 kd] w fun e w' => e = .returned (.bool true) ∧ Below w.heap.size w w' := by
  have hmk := make_any n (by omega)
  have hmk2 := make_any (n + 1) (by omega)
  obtain ⟨C, hC⟩ : ∃ C, C = madeCells (fld 0) (n * 8) := ⟨_, rfl⟩
  obtain ⟨D, hD⟩ : ∃ D, D = madeCells (fld 0) ((n + 1) * 8) := ⟨_, rfl⟩
  have M1 : Hid (∀ w : World, (w.alloc (.cells C 37)).rowIs w.heap.size 37 (n * 8) (row fun _ => 0)) := by intro w; rw [hC]; exact row_made w n
  have M2 : Hid (∀ w : World, (w.alloc (.cells D 37)).rowIs w.heap.size 37 ((n + 1) * 8) (row fun _ => 0)) := by intro w; rw [hD]; exact row_made w (n + 1)
  rw [← hC] at hmk
  rw [← hD] at hmk2
  clear hC hD
  simp only [Int.natCast_add, Int.natCast_one] at hmk2
  have hn' : (n : Int) ≤ 65536 := by omega
  have HN : Hid (n ≤ 65536) := hn
  clear hn
  go_enter Try.func4, Try.ntmps4
  go_wp2
  go_loopw [8] (fun i wr => ∃ k : Nat, k ≤ n ∧ i = .int .i64 k ∧ wr.rowIs w.heap.size 37 (n * 8) (row fun j => if j < k then 3 else 0) ∧ Below w.heap.size w wr) (fun i _ => n - (intOf i).toNat)
  case atStart => exact ⟨0, by omega, rfl, by simpa using M1.out w, (Below.refl _ _).alloc (Nat.le_refl _) _⟩
  case round =>
    obtain ⟨k, hk, rfl, hr, hb⟩ := hrel
    have hgs := hr.lt
    have HR : Hid _ := hr
    by_cases hlt : k < n
    · have hc := hr.cell (i := k * 8) (by omega)
      have hf := hr.frozen (k * 8)
      have e1 : row (fun j => if j < k then 3 else 0) (k * 8) = .int .u8 0 := by
        unfold row
        have e1 : k * 8 / 8 = k := by omega
        have e2 : k * 8 % 8 = 0 := by omega
        simp [e1, e2, fld]
      rw [e1] at hc
      clear hr e1
      go_wp2
      go_roundw
      case rel =>
        refine ⟨k + 1, by omega, by go_num, (row_set HR.out k 3).congr fun j hj => ?_, hb.setCell (Nat.le_refl _) _⟩
        congr 1
        funext i
        by_cases e : i = k
        · simp [e]
        · simp only [e, if_false]
          have : (i < k + 1) = (i < k) := by apply propext; omega
          simp only [this]
      case measure => simp [intOf]; omega
    · clear hr
      obtain rfl : k = n := by omega
      go_wp2_with fail
      have hz := zzalone_any wr.heap.size w.heap.size k (fun j => if j < k then 3 else 0) (wr.alloc (.cells #[.slice (some ⟨w.heap.size, 0, none⟩) k k, .int .u8 0, .string ByteArray.empty, .string ByteArray.empty, .string ByteArray.empty, .slice none 0 0, .string ByteArray.empty, .pointer none, .int .u8 0, .string ByteArray.empty, .bool false, .pointer none, .bool false] 50))
        (by have := HN.out; omega) (by simp) (by rw [cell_of_row _ _ 0 _ _ _ (Go.Deep.blk_alloc_new _ _)]; rfl) (World.rowIs.alloc HR.out _)
      rw [allVar_true (fun i hi => if_pos hi), Bool.and_true] at hz
      refine hz.mono ?_
      rintro e w1 ⟨rfl, hb1⟩
      have hb2 : Below w.heap.size w w1 := (hb.alloc (by omega) _).trans (hb1.mono (by simp; omega))
      clear hz hb1 hb HR hgs
      go_wp2
      go_loopw [10] (fun i wr => ∃ m : Nat, m ≤ k + 1 ∧ i = .int .i64 m ∧ wr.rowIs w1.heap.size 37 ((k + 1) * 8) (row fun j => if j < m then (if j = p then kd else 3) else 0) ∧ Below w.heap.size w wr) (fun i _ => k + 1 - (intOf i).toNat)
      case atStart => exact ⟨0, by omega, rfl, by simpa using M2.out w1, hb2.alloc (by have := hb2.size; omega) _⟩
      case round =>
        obtain ⟨m, hm, rfl, hr, hb⟩ := hrel
        have hgs := hr.lt
        have hs2 := hb2.size
        have HR : Hid _ := hr
        by_cases hlt : m ≤ k
        · have hc := hr.cell (i := m * 8) (by omega)
          have hf := hr.frozen (m * 8)
          have e1 : row (fun j => if j < m then (if j = p then kd else 3) else 0) (m * 8) = .int .u8 0 := by
            unfold row
            have e1 : m * 8 / 8 = m := by omega
            have e2 : m * 8 % 8 = 0 := by omega
            simp [e1, e2, fld]
          rw [e1] at hc
          clear hr e1
          by_cases hmp : m = p
          · subst hmp
            go_wp2
            go_roundw
            case rel =>
              refine ⟨m + 1, by omega, by go_num, (row_set HR.out m kd).congr fun j hj => ?_, hb.setCell hs2 _⟩
              congr 1
              funext i
              by_cases e : i = m
              · simp [e]
              · simp only [e, if_false]
                have : (i < m + 1) = (i < m) := by apply propext; omega
                simp only [this]
            case measure => simp [intOf]; omega
          · go_wp2
            go_roundw
            case rel =>
              refine ⟨m + 1, by omega, by go_num, (row_set HR.out m 3).congr fun j hj => ?_, hb.setCell hs2 _⟩
              congr 1
              funext i
              by_cases e : i = m
              · simp [e, hmp]
              · simp only [e, if_false]
                have : (i < m + 1) = (i < m) := by apply propext; omega
                simp only [this]
            case measure => simp [intOf]; omega
        · clear hr
          obtain rfl : m = k + 1 := by omega
          go_wp2_with fail
          have hz := zzalone_any wr.heap.size w1.heap.size (k + 1) (fun j => if j < k + 1 then (if j = p then kd else 3) else 0) (wr.alloc (.cells #[.slice (some ⟨w1.heap.size, 0, none⟩) (k + 1) (k + 1), .int .u8 0, .string ByteArray.empty, .string ByteArray.empty, .string ByteArray.empty, .slice none 0 0, .string ByteArray.empty, .pointer none, .int .u8 0, .string ByteArray.empty, .bool false, .pointer none, .bool false] 50))
            (by have := HN.out; omega) (by simp) (by rw [cell_of_row _ _ 0 _ _ _ (Go.Deep.blk_alloc_new _ _)]; rfl) (World.rowIs.alloc HR.out _)
          rw [refuse _ k p kd hp (fun j hj => if_pos (by omega))] at hz
          refine hz.mono ?_
          rintro e w2 ⟨rfl, hb3⟩
          have hb4 : Below w.heap.size w w2 := (hb.alloc (by omega) _).trans (hb3.mono (by simp; omega))
          clear hz hb3 hb HR hgs
          go_wp2
          go_ret
          exact ⟨ret_bool (by by_cases e : kd = 3 <;> simp [e]), hb4⟩

theorem walk (a0 : Int) (a1 : Int) (a2 : Int) (w0 : (Lit.int .i64 a0).wf = true) (w1 : (Lit.int .i64 a1).wf = true) (w2 : (Lit.int .u8 a2).wf = true) (w : World) :
    Calls Try.prog 4 #[.int .i64 a0, .int .i64 a1, .int .u8 a2] w fun e w' => e = .returned (.bool true) ∧ Below w.heap.size w w' := by
  have b2 := bounds_u8 w2
  by_cases h1 : a0 < 0
  · go_enter Try.func4, Try.ntmps4
    go_wp2
    go_ret
    exact ⟨rfl, Below.refl _ _⟩
  by_cases h2 : 65536 < a0
  · go_enter Try.func4, Try.ntmps4
    go_wp2
    go_ret
    exact ⟨rfl, Below.refl _ _⟩
  by_cases h3 : a1 < 0
  · go_enter Try.func4, Try.ntmps4
    go_wp2
    go_ret
    exact ⟨rfl, Below.refl _ _⟩
  by_cases h4 : a0 < a1
  · go_enter Try.func4, Try.ntmps4
    go_wp2
    go_ret
    exact ⟨rfl, Below.refl _ _⟩
  have e0 : a0 = ((a0.toNat : Nat) : Int) := by omega
  have e1 : a1 = ((a1.toNat : Nat) : Int) := by omega
  rw [e0, e1]
  exact law_walk a0.toNat a1.toNat a2 w (by omega) (by omega) (by omega) (by omega)
end Go.Proofs.Qxb6612210a
