import Derived.Test.Qxb6612204aLowC
namespace Go.Proofs.Qxb6612204a
open Go.RowKit Plain
set_option linter.unusedVariables false
set_option linter.unusedSimpArgs false

theorem ret_boolx {a b : Bool} (h : a = b) : Ending.returned (.bool a) = .returned (.bool b) := by rw [h]

set_option maxHeartbeats 1000000 in
theorem in3_any (b0 b1 b2 : Int) (c : Nat) (hc : c ≤ 2) (v : Int) (w : World) :
    Calls Try.prog 46 #[.agg #[.int .u64 b0, .int .u64 b1, .int .u64 b2], .int .i64 (c : Int), .int .u64 v] w fun e w' => e = .returned (.bool (Rk.has ⟨b0, b1, c⟩ v)) ∧ Below w.heap.size w w' := by
  obtain rfl | rfl | rfl : c = 0 ∨ c = 1 ∨ c = 2 := by omega
  · go_enter Try.func46, Try.ntmps46
    go_wp2
    go_rounds 1
    go_ret
    exact ⟨ret_boolx (by simp [Rk.has]), (Below.refl _ _).alloc (Nat.le_refl _) _⟩
  · by_cases h0 : b0 = v
    · go_enter Try.func46, Try.ntmps46
      go_wp2
      go_rounds 1
      go_ret
      exact ⟨ret_boolx (by simp [Rk.has, h0]), (Below.refl _ _).alloc (Nat.le_refl _) _⟩
    · go_enter Try.func46, Try.ntmps46
      go_wp2
      go_rounds 2
      go_ret
      exact ⟨ret_boolx (by simp [Rk.has, h0]), (Below.refl _ _).alloc (Nat.le_refl _) _⟩
  · by_cases h0 : b0 = v
    · go_enter Try.func46, Try.ntmps46
      go_wp2
      go_rounds 1
      go_ret
      exact ⟨ret_boolx (by simp [Rk.has, h0]), (Below.refl _ _).alloc (Nat.le_refl _) _⟩
    · by_cases h1 : b1 = v
      · go_enter Try.func46, Try.ntmps46
        go_wp2
        go_rounds 2
        go_ret
        exact ⟨ret_boolx (by simp [Rk.has, h0, h1]), (Below.refl _ _).alloc (Nat.le_refl _) _⟩
      · go_enter Try.func46, Try.ntmps46
        go_wp2
        go_rounds 3
        go_ret
        exact ⟨ret_boolx (by simp [Rk.has, h0, h1]), (Below.refl _ _).alloc (Nat.le_refl _) _⟩

set_option maxHeartbeats 1000000 in
theorem in2_any (b0 b1 : Int) (c : Nat) (hc : c ≤ 2) (v : Int) (w : World) :
    Calls Try.prog 31 #[.agg #[.int .u64 b0, .int .u64 b1], .int .i64 (c : Int), .int .u64 v] w fun e w' => e = .returned (.bool (Rk.has ⟨b0, b1, c⟩ v)) ∧ Below w.heap.size w w' := by
  obtain rfl | rfl | rfl : c = 0 ∨ c = 1 ∨ c = 2 := by omega
  · go_enter Try.func31, Try.ntmps31
    go_wp2
    go_rounds 1
    go_ret
    exact ⟨ret_boolx (by simp [Rk.has]), (Below.refl _ _).alloc (Nat.le_refl _) _⟩
  · by_cases h0 : b0 = v
    · go_enter Try.func31, Try.ntmps31
      go_wp2
      go_rounds 1
      go_ret
      exact ⟨ret_boolx (by simp [Rk.has, h0]), (Below.refl _ _).alloc (Nat.le_refl _) _⟩
    · go_enter Try.func31, Try.ntmps31
      go_wp2
      go_rounds 2
      go_ret
      exact ⟨ret_boolx (by simp [Rk.has, h0]), (Below.refl _ _).alloc (Nat.le_refl _) _⟩
  · by_cases h0 : b0 = v
    · go_enter Try.func31, Try.ntmps31
      go_wp2
      go_rounds 1
      go_ret
      exact ⟨ret_boolx (by simp [Rk.has, h0]), (Below.refl _ _).alloc (Nat.le_refl _) _⟩
    · by_cases h1 : b1 = v
      · go_enter Try.func31, Try.ntmps31
        go_wp2
        go_rounds 2
        go_ret
        exact ⟨ret_boolx (by simp [Rk.has, h0, h1]), (Below.refl _ _).alloc (Nat.le_refl _) _⟩
      · go_enter Try.func31, Try.ntmps31
        go_wp2
        go_rounds 3
        go_ret
        exact ⟨ret_boolx (by simp [Rk.has, h0, h1]), (Below.refl _ _).alloc (Nat.le_refl _) _⟩
end Go.Proofs.Qxb6612204a
