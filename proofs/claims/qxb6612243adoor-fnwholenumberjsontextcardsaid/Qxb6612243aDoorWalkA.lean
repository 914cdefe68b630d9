import Derived.Test.Qxb6612243aDoorProg
import Derived.Test.Qxb6612243aDoorPlain
import Derived.WalkKit
import Derived.WalkLawsBesides
import Derived.Deep.QuietTactic
import Derived.BigQuiet
import Derived.KernelRfl
namespace Go.Proofs.Qxb6612243aDoor
open Go.RowKit
set_option linter.unusedVariables false

theorem ret_bool {a b : Bool} (h : a = b) : Ending.returned (.bool a) = .returned (.bool b) := by rw [h]

theorem drop_cons (s : ByteArray) (k : Nat) (h : k < s.size) : s.data.toList.drop k = s[k] :: s.data.toList.drop (k + 1) := by
  rw [List.drop_eq_getElem_cons (by simpa using h)]; rfl

theorem len_eq (s : ByteArray) : s.data.toList.length = s.size := Array.length_toList

theorem greater_any (a b : ByteArray) (ha : a.size ≤ 2097152) (hb : b.size ≤ 2097152) (w : World) :
    Calls Tryd.prog 7 #[.string a, .string b] w fun e w' => e = .returned (.bool (gtB a.data.toList b.data.toList)) ∧ ∃ n, w' = w.drewN n := by
  by_cases hl : a.size = b.size
  · have hg : gtB a.data.toList b.data.toList = lexGt a.data.toList b.data.toList := by
      unfold gtB; rw [if_pos (by rw [len_eq, len_eq]; exact hl)]
    rw [hg]
    obtain ⟨q, hq⟩ : ∃ q, lexGt a.data.toList b.data.toList = q := ⟨_, rfl⟩
    rw [hq]
    have HQ : Hid (lexGt a.data.toList b.data.toList = q) := hq
    clear hq hg
    have hl' : (a.size : Int) = (b.size : Int) := by omega
    go_enter Tryd.func7, Tryd.ntmps7
    go_wp2
    go_loopw [5] (fun i wr => ∃ k : Nat, k ≤ a.size ∧ i = .int .i64 k ∧ lexGt (a.data.toList.drop k) (b.data.toList.drop k) = q ∧ ∃ n, wr = w.drewN n) (fun i _ => a.size - (intOf i).toNat)
    case atStart => exact ⟨0, by omega, rfl, HQ.out, 0, rfl⟩
    case round =>
      obtain ⟨k, hk, rfl, hlex, n, rfl⟩ := hrel
      have HL : Hid (lexGt (a.data.toList.drop k) (b.data.toList.drop k) = q) := hlex
      clear hlex
      by_cases hlt : k < a.size
      · have hlb : k < b.size := by omega
        have h1 : (0 : Int) ≤ (k : Int) := by omega
        have h2 : (k : Int) < (a.size : Int) := by omega
        have h3 : (k : Int) < (b.size : Int) := by omega
        by_cases hc : (a[k].toNat : Int) = (b[k].toNat : Int)
        · have HS : Hid (lexGt (a.data.toList.drop (k + 1)) (b.data.toList.drop (k + 1)) = q) := by
            have := HL.out
            rw [drop_cons a k hlt, drop_cons b k hlb] at this
            unfold lexGt at this
            rwa [if_pos (by omega)] at this
          go_wp2
          go_quiet (fail)
          go_wp2
          go_roundw
          case rel => exact ⟨k + 1, by omega, by go_num, HS.out, _, rfl⟩
          case measure => simp [intOf]; omega
        · have HS : Hid (decide (b[k].toNat < a[k].toNat) = q) := by
            have := HL.out
            rw [drop_cons a k hlt, drop_cons b k hlb] at this
            unfold lexGt at this
            rwa [if_neg (by omega)] at this
          go_wp2
          go_quiet (fail)
          go_wp2
          go_quiet (fail)
          go_wp2
          go_ret
          refine ⟨ret_bool ?_, _, by rw [World.drewN_drewN, World.drewN_drewN]⟩
          rw [← HS.out, Bool.eq_iff_iff]
      · go_wp2
        go_ret
        have e : k = a.size := by omega
        refine ⟨ret_bool ?_, n, rfl⟩
        have := HL.out
        rw [e, List.drop_of_length_le (by rw [len_eq]; omega)] at this
        simpa [lexGt] using this
  · have hg : gtB a.data.toList b.data.toList = decide (b.size < a.size) := by
      unfold gtB; rw [if_neg (by rw [len_eq, len_eq]; exact hl), len_eq, len_eq]
    have hl' : ¬ (a.size : Int) = (b.size : Int) := by omega
    go_enter Tryd.func7, Tryd.ntmps7
    go_wp2
    go_ret
    refine ⟨ret_bool ?_, 0, rfl⟩
    rw [hg, Bool.eq_iff_iff]
end Go.Proofs.Qxb6612243aDoor
