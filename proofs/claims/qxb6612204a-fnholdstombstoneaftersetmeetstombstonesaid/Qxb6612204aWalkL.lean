import Derived.Test.Qxb6612204aWalkK
namespace Go.Proofs.Qxb6612204a
open Go.RowKit Plain
set_option linter.unusedVariables false

/-- a covers b -/
def coversL (a b : List UInt8) : Bool := (List.range 1024).all fun i => !decide (a.getD i 0 < b.getD i 0)
theorem coversL_false {a b : List UInt8} (k : Nat) (hk : k < 1024) (h : a.getD k 0 < b.getD k 0) : coversL a b = false := by
  unfold coversL
  rw [List.all_eq_false]
  exact ⟨k, List.mem_range.2 hk, by rw [decide_eq_true h]; decide⟩
theorem coversL_true {a b : List UInt8} (h : ∀ i, i < 1024 → ¬ a.getD i 0 < b.getD i 0) : coversL a b = true := by
  unfold coversL
  rw [List.all_eq_true]
  intro i hi
  rw [decide_eq_false (h i (List.mem_range.1 hi))]
  rfl

theorem seg_cell {w : World} {g o : Nat} {l : List UInt8} (h : Seg w g o (bv l)) (k : Nat) (hk : k < l.length) : w.cell? ⟨g, o + k, none⟩ = some (.int .u8 ((l.getD k 0).toNat : Int)) := by
  rw [h k (by rw [bv_size]; exact hk), bv_get l k hk]

set_option maxHeartbeats 1000000 in
theorem covers_any (g o g2 o2 : Nat) (a b : List UInt8) (w : World) (ha : a.length = 1024) (hb : b.length = 1024) (h1 : Seg w g o (bv a)) (h2 : Seg w g2 o2 (bv b)) :
    Calls Try.prog 47 #[.pointer (some ⟨g, o, none⟩), .pointer (some ⟨g2, o2, none⟩)] w fun e w' => e = .returned (.bool (coversL a b)) ∧ w' = w := by
  have H1 : Hid (Seg w g o (bv a)) := h1
  have H2 : Hid (Seg w g2 o2 (bv b)) := h2
  clear h1 h2
  go_enter Try.func47, Try.ntmps47
  go_wp2_with (first | (refine wpList_load_seg rfl 22 (.tmp 9) rfl _ _ rfl (bv b) _ ?_ Try.underlying22 rfl ?_ ?_; (exact H2.out); (rw [Try.info22, bv_size, hb]); simp only [Act.put, List.setIfInBounds_toArray, List.set_cons_succ, List.set_cons_zero]))
  go_loop [11] (fun i => ∃ k : Nat, k ≤ 1024 ∧ i = .int .i64 k ∧ (∀ j, j < k → ¬ a.getD j 0 < b.getD j 0)) (fun i => 1024 - (intOf i).toNat)
  case atStart => exact ⟨0, by omega, rfl, fun j hj => absurd hj (Nat.not_lt_zero _)⟩
  case round =>
    obtain ⟨k, hk, rfl, hall⟩ := hrel
    have HA : Hid (∀ j, j < k → ¬ a.getD j 0 < b.getD j 0) := hall
    clear hall
    by_cases hlt : k < 1024
    · have hix := index_bv b hb k hlt
      have hcl := seg_cell H1.out k (by omega)
      obtain ⟨x, hx⟩ : ∃ x, x = a.getD k 0 := ⟨_, rfl⟩
      obtain ⟨y, hy⟩ : ∃ y, y = b.getD k 0 := ⟨_, rfl⟩
      rw [← hx] at hcl
      rw [← hy] at hix
      have HX : Hid (x = a.getD k 0) := hx
      have HY : Hid (y = b.getD k 0) := hy
      have hlt' : (k : Int) < 1024 := by omega
      have HLT : Hid (k < 1024) := hlt
      clear hx hy hlt hk ha hb
      by_cases hc : x < y
      · have hc' : (x.toNat : Int) < (y.toNat : Int) := by have := UInt8.lt_iff_toNat_lt.1 hc; omega
        have HC : Hid (x < y) := hc
        clear hc
        go_wp2
        go_ret
        exact ⟨ret_bool (coversL_false k HLT.out (by rw [← HX.out, ← HY.out]; exact HC.out)).symm, rfl⟩
      · have hd : decide (x.toNat < y.toNat) = false := decide_eq_false (fun q => hc (UInt8.lt_iff_toNat_lt.2 q))
        have hd2 : decide ((x.toNat : Int) < (y.toNat : Int)) = false := decide_eq_false (fun q => hc (UInt8.lt_iff_toNat_lt.2 (by omega)))
        have hd3 : ¬ (x.toNat : Int) < (y.toNat : Int) := of_decide_eq_false hd2
        have HC : Hid (¬ x < y) := hc
        clear hc
        go_wp2
        go_round
        case rel => exact ⟨k + 1, by have := HLT.out; omega, by go_num, fun j hj => by
          by_cases e : j = k
          · rw [e, ← HX.out, ← HY.out]; exact HC.out
          · exact HA.out j (by omega)⟩
        case measure => simp [intOf]; omega
    · obtain rfl : k = 1024 := by omega
      go_wp2
      go_ret
      exact ⟨ret_bool (coversL_true HA.out).symm, rfl⟩
end Go.Proofs.Qxb6612204a
