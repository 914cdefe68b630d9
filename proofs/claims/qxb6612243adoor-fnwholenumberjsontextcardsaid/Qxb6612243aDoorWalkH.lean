import Derived.Test.Qxb6612243aDoorWalkG
import Derived.Test.Qxb6612243aDoorShelf
import Derived.Lib.AtoiErrMem
import Derived.Below
import Derived.LaidEql
namespace Go.Proofs.Qxb6612243aDoor
open Go.RowKit
set_option linter.unusedVariables false

theorem below_drewN (w : World) (n : Nat) : Below w.heap.size w (w.drewN n) := ⟨rfl, rfl, rfl, Nat.le_refl _, fun _ _ => rfl⟩
theorem Below.drewN {B : Nat} {a w : World} (h : Below B a w) (n : Nat) : Below B a (w.drewN n) := ⟨h.os, h.tape, h.output, h.size, h.block⟩
theorem assert28 (W : World) (v : Value) : (Instr.typeAssert (.iface 28 v) 20 28 true).run Tryd.prog W = .ok (.tuple #[v, .bool true]) W := by kernel_rfl

theorem parse_ok (s : ByteArray) (hs : s.size ≤ 1048576) (v : Int) (h : wanted s.data.toList = (v, true)) (w : World) :
    Calls Tryd.prog 10 #[.string s, .int .i64 10, .int .i64 64] w fun e w' => e = .returned (.tuple #[.int .i64 v, .nilIface]) ∧ Below w.heap.size w w' := by
  have h1 : Lib.parseIntB 64 s.data.toList = .ok v := by
    unfold wanted at h
    split at h <;> simp_all
  refine (Tryd.strconv_ParseInt_10_at64_ok s (by omega) v h1 w).mono ?_
  rintro e w' ⟨rfl, rfl | ⟨t, rfl⟩⟩
  · exact ⟨rfl, Below.refl _ _⟩
  · exact ⟨rfl, Lib.bytesWorld_below _ _ _⟩

theorem parse_err (s : ByteArray) (hs : s.size ≤ 1048576) (v : Int) (h : wanted s.data.toList = (v, false)) (w : World) (tS tR : TypeId) (pS pR : Value) (hS : w.cell? ⟨0, 0, none⟩ = some (.iface tS pS)) (hR : w.cell? ⟨1, 0, none⟩ = some (.iface tR pR)) :
    Calls Tryd.prog 10 #[.string s, .int .i64 10, .int .i64 64] w fun e w' => ∃ t N, e = .returned (.tuple #[.int .i64 v, .iface t (.pointer (some ⟨N, 0, none⟩))]) ∧ Below w.heap.size w w' := by
  unfold wanted at h
  split at h
  · simp_all
  · rename_i h1
    obtain rfl : (0 : Int) = v := congrArg Prod.fst h
    refine (Tryd.strconv_ParseInt_10_at64_syntax s (by omega) h1 _ w hS (.inr ⟨_, _, rfl⟩)).mono ?_
    rintro e w' ⟨N, rfl, _, _, hb⟩
    exact ⟨_, N, rfl, hb⟩
  · rename_i h1
    obtain rfl : Lib.intSat 64 s.data.toList = v := congrArg Prod.fst h
    refine (Tryd.strconv_ParseInt_10_at64_range s (by omega) h1 _ w hR (.inr ⟨_, _, rfl⟩)).mono ?_
    rintro e w' ⟨N, rfl, _, _, hb⟩
    exact ⟨_, N, rfl, hb⟩

theorem int64_ok (s : ByteArray) (hs : s.size ≤ 1048576) (v : Int) (h : wanted s.data.toList = (v, true)) (w : World) :
    Calls Tryd.prog 9 #[.string s] w fun e w' => e = .returned (.tuple #[.int .i64 v, .nilIface]) ∧ Below w.heap.size w w' := by
  have H : Hid _ := h
  clear h
  go_enter Tryd.func9, Tryd.ntmps9
  go_wp2_with fail
  refine (parse_ok s hs v H.out w).mono ?_
  rintro e w' ⟨rfl, hb⟩
  go_wp2
  go_ret2
  exact ⟨rfl, hb⟩

theorem int64_err (s : ByteArray) (hs : s.size ≤ 1048576) (v : Int) (h : wanted s.data.toList = (v, false)) (w : World) (tS tR : TypeId) (pS pR : Value) (hS : w.cell? ⟨0, 0, none⟩ = some (.iface tS pS)) (hR : w.cell? ⟨1, 0, none⟩ = some (.iface tR pR)) :
    Calls Tryd.prog 9 #[.string s] w fun e w' => ∃ t N, e = .returned (.tuple #[.int .i64 v, .iface t (.pointer (some ⟨N, 0, none⟩))]) ∧ Below w.heap.size w w' := by
  have H : Hid _ := h
  have HS : Hid _ := hS
  have HR : Hid _ := hR
  clear h hS hR
  go_enter Tryd.func9, Tryd.ntmps9
  go_wp2_with fail
  refine (parse_err s hs v H.out w tS tR pS pR HS.out HR.out).mono ?_
  rintro e w' ⟨t, N, rfl, hb⟩
  go_wp2
  go_ret2
  exact ⟨_, _, rfl, hb⟩

theorem whole_ok (s : ByteArray) (hs : s.size ≤ 1048576) (v : Int) (h : wanted s.data.toList = (v, true)) (w : World) :
    Calls Tryd.prog 8 #[.iface 28 (.string s)] w fun e w' => e = .returned (.tuple #[.int .i64 v, .bool true]) ∧ Below w.heap.size w w' := by
  have H : Hid _ := h
  clear h
  have hta := assert28 w (.string s)
  go_enter Tryd.func8, Tryd.ntmps8
  go_wp2_with fail
  refine (int64_ok s hs v H.out w).mono ?_
  rintro e w' ⟨rfl, hb⟩
  go_wp2
  go_quiet (fail)
  go_wp2
  go_ret2
  exact ⟨rfl, Below.drewN hb _⟩

theorem whole_err (s : ByteArray) (hs : s.size ≤ 1048576) (v : Int) (h : wanted s.data.toList = (v, false)) (w : World) (tS tR : TypeId) (pS pR : Value) (hS : w.cell? ⟨0, 0, none⟩ = some (.iface tS pS)) (hR : w.cell? ⟨1, 0, none⟩ = some (.iface tR pR)) :
    Calls Tryd.prog 8 #[.iface 28 (.string s)] w fun e w' => e = .returned (.tuple #[.int .i64 v, .bool false]) ∧ Below w.heap.size w w' := by
  have H : Hid _ := h
  have HS : Hid _ := hS
  have HR : Hid _ := hR
  clear h hS hR
  have hta := assert28 w (.string s)
  go_enter Tryd.func8, Tryd.ntmps8
  go_wp2_with fail
  refine (int64_err s hs v H.out w tS tR pS pR HS.out HR.out).mono ?_
  rintro e w' ⟨t, N, rfl, hb⟩
  go_wp2
  go_quiet (fail)
  go_wp2
  go_ret2
  exact ⟨rfl, Below.drewN hb _⟩

theorem whole_any (s : ByteArray) (hs : s.size ≤ 1048576) (w : World) (tS tR : TypeId) (pS pR : Value) (hS : w.cell? ⟨0, 0, none⟩ = some (.iface tS pS)) (hR : w.cell? ⟨1, 0, none⟩ = some (.iface tR pR)) :
    Calls Tryd.prog 8 #[.iface 28 (.string s)] w fun e w' => e = .returned (.tuple #[.int .i64 (wanted s.data.toList).1, .bool (wanted s.data.toList).2]) ∧ Below w.heap.size w w' := by
  obtain ⟨⟨v, b⟩, h⟩ : ∃ x, wanted s.data.toList = x := ⟨_, rfl⟩
  rw [h]
  cases b
  · exact whole_err s hs v h w tS tR pS pR hS hR
  · exact whole_ok s hs v h w

theorem zzwhole_any (s : ByteArray) (hs : s.size ≤ 1048576) (w : World) (tS tR : TypeId) (pS pR : Value) (hS : w.cell? ⟨0, 0, none⟩ = some (.iface tS pS)) (hR : w.cell? ⟨1, 0, none⟩ = some (.iface tR pR)) :
    Calls Tryd.prog 6 #[.string s] w fun e w' => e = .returned (.tuple #[.int .i64 (wanted s.data.toList).1, .bool (wanted s.data.toList).2]) ∧ Below w.heap.size w w' := by
  have HS : Hid _ := hS
  have HR : Hid _ := hR
  clear hS hR
  go_enter Tryd.func6, Tryd.ntmps6
  go_wp2_with fail
  refine (whole_any s hs w tS tR pS pR HS.out HR.out).mono ?_
  rintro e w' ⟨rfl, hb⟩
  go_wp2
  go_ret2
  exact ⟨rfl, hb⟩

theorem bytes_any (s : ByteArray) (hs : s.size ≤ maxLen) (w : World) :
    Calls Tryd.prog 4 #[.string s] w fun e w' => e = .returned (.bool (decide (s.size ≤ 1048576))) ∧ w' = w := by
  unfold maxLen at hs
  by_cases h : (s.size : Int) ≤ 1048576
  · rw [decide_eq_true (by omega)]
    go_enter Tryd.func4, Tryd.ntmps4
    go_wp2
    go_ret
    exact ⟨rfl, rfl⟩
  · rw [decide_eq_false (by omega)]
    go_enter Tryd.func4, Tryd.ntmps4
    go_wp2
    go_ret
    exact ⟨rfl, rfl⟩

theorem law_any (s : ByteArray) (hs : s.size ≤ maxLen) (w : World) (tS tR : TypeId) (pS pR : Value) (hS : w.cell? ⟨0, 0, none⟩ = some (.iface tS pS)) (hR : w.cell? ⟨1, 0, none⟩ = some (.iface tR pR)) :
    Calls Tryd.prog 3 #[.string s] w fun e w' => e = .returned (.bool true) ∧ Below w.heap.size w w' := by
  have HB : Hid _ := bytes_any s hs w
  unfold maxLen at hs
  by_cases h : s.size ≤ 1048576
  · rw [decide_eq_true h] at HB
    have hh : (s.size : Int) ≤ 1048576 := by omega
    have HS : Hid (w.cell? ⟨0, 0, none⟩ = some (.iface tS pS)) := hS
    have HR : Hid (w.cell? ⟨1, 0, none⟩ = some (.iface tR pR)) := hR
    clear hS hR
    go_enter Tryd.func3, Tryd.ntmps3
    go_wp2_with fail
    refine Calls.mono HB.out ?_
    rintro e w' ⟨rfl, rfl⟩
    go_wp2_with fail
    refine (model_any s h w').mono ?_
    rintro e w1 ⟨rfl, n, rfl⟩
    rw [law]
    go_wp2_with fail
    refine (zzwhole_any s h (w'.drewN n) tS tR pS pR HS.out HR.out).mono ?_
    rintro e w2 ⟨rfl, hb⟩
    generalize wanted s.data.toList = r
    go_wp2
    go_ret
    refine ⟨ret_bool ?_, (below_drewN w' n).trans (hb.mono (Nat.le_refl _))⟩
    first | rfl | simp
  · rw [decide_eq_false h] at HB
    go_enter Tryd.func3, Tryd.ntmps3
    go_wp2_with fail
    refine Calls.mono HB.out ?_
    rintro e w' ⟨rfl, rfl⟩
    go_wp2
    go_ret
    exact ⟨rfl, Below.refl _ _⟩
end Go.Proofs.Qxb6612243aDoor
