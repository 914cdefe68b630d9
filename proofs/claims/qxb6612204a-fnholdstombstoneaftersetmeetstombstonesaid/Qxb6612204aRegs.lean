/-
  Registers: lists of bytes; 'add' and 'max', in plain words; the laws on them.
-/
import Derived.Test.Qxb6612204aPlain
import Derived.Lib.BitFns
namespace Go.Proofs.Qxb6612204a.Plain

def lx (h : Int) : Int := bits .or .u64 (IntKind.u64.wrap (h * 1024)) 512
/-- The rank that the hash h gives. -/
def rkI (h : Int) : Int := IntKind.u8.wrap (64 - (Lib.bitLen (lx h).toNat : Int) + 1)
def rk (h : Int) : UInt8 := (rkI h).toNat.toUInt8
/-- The register that the hash h hits. -/
def ix (h : Int) : Nat := (h / 18014398509481984).toNat

theorem lx_bd (h : Int) : 0 ≤ lx h ∧ lx h ≤ 18446744073709551615 := bits64_bd _ _ _
theorem rk_toNat (h : Int) : ((rk h).toNat : Int) = rkI h := by
  have hb := bounds_u8 (wf_wrap .u8 (64 - (Lib.bitLen (lx h).toNat : Int) + 1))
  have h1 : 0 ≤ rkI h ∧ rkI h ≤ 255 := hb
  unfold rk
  have : (rkI h).toNat < 256 := by omega
  simp [Nat.mod_eq_of_lt this]
  omega
theorem ix_lt (h : Int) (h0 : 0 ≤ h) (h1 : h ≤ 18446744073709551615) : ix h < 1024 := by unfold ix; omega

def umax (a b : UInt8) : UInt8 := if a < b then b else a
def maxL (l m : List UInt8) : List UInt8 := List.zipWith umax l m
def addL (l : List UInt8) (h : Int) : List UInt8 := if l.getD (ix h) 0 < rk h then l.set (ix h) (rk h) else l

theorem maxL_len (l m : List UInt8) (h : l.length = m.length) : (maxL l m).length = l.length := by simp [maxL, h]
theorem addL_len (l : List UInt8) (h : Int) : (addL l h).length = l.length := by unfold addL; split <;> simp

theorem maxL_get (l m : List UInt8) (h : l.length = m.length) (i : Nat) (hi : i < l.length) : (maxL l m).getD i 0 = umax (l.getD i 0) (m.getD i 0) := by
  simp [maxL, List.getD, List.getElem?_zipWith, hi, show i < m.length by omega]
theorem addL_get (l : List UInt8) (h : Int) (i : Nat) (hi : i < l.length) : (addL l h).getD i 0 = if i = ix h then umax (l.getD i 0) (rk h) else l.getD i 0 := by
  unfold addL
  by_cases hq : i = ix h
  · subst hq
    by_cases hc : l.getD (ix h) 0 < rk h
    · simp only [hc, if_true, umax]
      simp [List.getD, hi]
    · simp only [hc, if_false, if_true, umax]
  · rw [if_neg hq]
    split
    · simp [List.getD, Ne.symm hq]
    · rfl

theorem ext_getD {l m : List UInt8} (h : l.length = m.length) (hx : ∀ i, i < l.length → l.getD i 0 = m.getD i 0) : l = m := by
  apply List.ext_getElem?
  intro j
  by_cases hj : j < l.length
  · have := hx j hj
    have hj' : j < m.length := by omega
    simp only [List.getD, List.getElem?_eq_getElem hj, List.getElem?_eq_getElem hj', Option.getD_some] at this
    simp [List.getElem?_eq_getElem hj, List.getElem?_eq_getElem hj', this]
  · rw [List.getElem?_eq_none (by omega), List.getElem?_eq_none (by omega)]

theorem umax_nat (a b : UInt8) : (umax a b).toNat = max a.toNat b.toNat := by
  unfold umax
  by_cases h : a < b
  · have := UInt8.lt_iff_toNat_lt.1 h
    simp [h]; omega
  · have : ¬ a.toNat < b.toNat := fun q => h (UInt8.lt_iff_toNat_lt.2 q)
    simp [h]; omega
theorem umax_comm (a b : UInt8) : umax a b = umax b a := by apply UInt8.toNat_inj.1; rw [umax_nat, umax_nat]; omega
theorem umax_assoc (a b c : UInt8) : umax (umax a b) c = umax a (umax b c) := by apply UInt8.toNat_inj.1; simp only [umax_nat]; omega
theorem umax_self (a : UInt8) : umax a a = a := by apply UInt8.toNat_inj.1; simp only [umax_nat]; omega
theorem umax_zero (a : UInt8) : umax 0 a = a := by apply UInt8.toNat_inj.1; simp only [umax_nat]; simp

def zeros : List UInt8 := List.replicate 1024 0
theorem zeros_len : zeros.length = 1024 := List.length_replicate
theorem zeros_get (i : Nat) : zeros.getD i 0 = 0 := by
  simp only [zeros, List.getD, List.getElem?_replicate]
  split <;> rfl

/-- The law on two sets, in plain words. -/
theorem two_sets (a b : List UInt8) (h : Int) (ha : a.length = 1024) (hb : b.length = 1024) :
    addL (maxL (addL (maxL zeros a) h) b) h = addL (maxL a b) h ∧ addL (maxL (addL (maxL zeros b) h) a) h = addL (maxL a b) h := by
  have z := zeros_len
  have l1 : (maxL zeros a).length = 1024 := by rw [maxL_len _ _ (by omega)]; exact z
  have l2 : (maxL zeros b).length = 1024 := by rw [maxL_len _ _ (by omega)]; exact z
  have l3 : (maxL (addL (maxL zeros a) h) b).length = 1024 := by rw [maxL_len _ _ (by rw [addL_len]; omega), addL_len]; exact l1
  have l4 : (maxL (addL (maxL zeros b) h) a).length = 1024 := by rw [maxL_len _ _ (by rw [addL_len]; omega), addL_len]; exact l2
  have l5 : (maxL a b).length = 1024 := by rw [maxL_len _ _ (by omega)]; exact ha
  constructor
  · apply ext_getD
    · rw [addL_len, addL_len]; omega
    · intro i hi
      rw [addL_len] at hi
      rw [addL_get _ _ _ hi, addL_get _ _ _ (by omega), maxL_get _ _ (by rw [addL_len]; omega) _ (by rw [addL_len]; omega), addL_get _ _ _ (by omega), maxL_get _ _ (by omega) _ (by omega), maxL_get _ _ (by omega) _ (by omega), zeros_get, umax_zero]
      by_cases hq : i = ix h
      · simp only [hq, if_true]
        apply UInt8.toNat_inj.1; simp only [umax_nat]; omega
      · simp only [hq, if_false]
  · apply ext_getD
    · rw [addL_len, addL_len]; omega
    · intro i hi
      rw [addL_len] at hi
      rw [addL_get _ _ _ hi, addL_get _ _ _ (by omega), maxL_get _ _ (by rw [addL_len]; omega) _ (by rw [addL_len]; omega), addL_get _ _ _ (by omega), maxL_get _ _ (by omega) _ (by omega), maxL_get _ _ (by omega) _ (by omega), zeros_get, umax_zero]
      by_cases hq : i = ix h
      · simp only [hq, if_true]
        apply UInt8.toNat_inj.1; simp only [umax_nat]; omega
      · simp only [hq, if_false]
        apply UInt8.toNat_inj.1; simp only [umax_nat]; omega

/-- 'max' as far as index k. -/
def maxTo (l m : List UInt8) (k : Nat) : List UInt8 := (maxL l m).take k ++ l.drop k
theorem maxTo_zero (l m : List UInt8) : maxTo l m 0 = l := by simp [maxTo]
theorem maxTo_all (l m : List UInt8) (h : l.length = m.length) : maxTo l m l.length = maxL l m := by
  unfold maxTo
  rw [List.take_of_length_le (by rw [maxL_len _ _ h]; exact Nat.le_refl _)]
  simp
theorem maxTo_len (l m : List UInt8) (h : l.length = m.length) (k : Nat) (hk : k ≤ l.length) : (maxTo l m k).length = l.length := by
  simp [maxTo, maxL_len _ _ h]; omega
theorem maxTo_get (l m : List UInt8) (h : l.length = m.length) (k : Nat) (hk : k < l.length) : (maxTo l m k).getD k 0 = l.getD k 0 := by
  have : ((maxL l m).take k).length = k := by simp [maxL_len _ _ h]; omega
  simp only [maxTo, List.getD]
  rw [List.getElem?_append_right (by omega), this]
  simp
theorem maxTo_succ (l m : List UInt8) (h : l.length = m.length) (k : Nat) (hk : k < l.length) : maxTo l m (k + 1) = (maxTo l m k).set k (umax (l.getD k 0) (m.getD k 0)) := by
  apply ext_getD
  · rw [maxTo_len _ _ h _ (by omega), List.length_set, maxTo_len _ _ h _ (by omega)]
  · intro i hi
    rw [maxTo_len _ _ h _ (by omega)] at hi
    have hl : (maxL l m).length = l.length := maxL_len _ _ h
    have hm := maxL_get l m h
    by_cases h1 : i < k
    · simp only [maxTo, List.getD]
      rw [List.getElem?_append_left (by simp [hl]; omega), List.getElem?_set_ne (by omega), List.getElem?_append_left (by simp [hl]; omega)]
      rw [List.getElem?_take_of_lt (by omega), List.getElem?_take_of_lt h1]
    · by_cases h2 : i = k
      · subst h2
        have e1 : (maxTo l m (i + 1)).getD i 0 = (maxL l m).getD i 0 := by
          simp only [maxTo, List.getD]
          rw [List.getElem?_append_left (by simp [hl]; omega), List.getElem?_take_of_lt (by omega)]
        rw [e1, hm i hk]
        simp [List.getD, maxTo_len _ _ h i (by omega), hk]
      · simp only [maxTo, List.getD]
        have a1 : ((maxL l m).take (k + 1)).length = k + 1 := by simp [hl]; omega
        have a2 : ((maxL l m).take k).length = k := by simp [hl]; omega
        rw [List.getElem?_append_right (by omega), a1, List.getElem?_set_ne (by omega), List.getElem?_append_right (by omega), a2]
        simp only [List.getElem?_drop]
        rw [show k + 1 + (i - (k + 1)) = i by omega, show k + (i - k) = i by omega]
theorem maxTo_same (l m : List UInt8) (h : l.length = m.length) (k : Nat) (hk : k < l.length) (hc : ¬ l.getD k 0 < m.getD k 0) : maxTo l m (k + 1) = maxTo l m k := by
  rw [maxTo_succ l m h k hk]
  have e : umax (l.getD k 0) (m.getD k 0) = (maxTo l m k).getD k 0 := by rw [maxTo_get l m h k hk]; simp only [umax, hc, if_false]
  rw [e]
  apply ext_getD
  · simp
  · intro i hi
    simp only [List.length_set] at hi
    by_cases h2 : i = k
    · subst h2; simp [List.getD, hi]
    · simp [List.getD, Ne.symm h2]
end Go.Proofs.Qxb6612204a.Plain
