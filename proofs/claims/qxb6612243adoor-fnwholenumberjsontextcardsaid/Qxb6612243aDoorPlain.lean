/-
  The plain law: what the model says of a text is what strconv.ParseInt(s, 10, 64) says of it. No Go in this text.
-/
import Derived.Lib.ParseIntB
namespace Go.Proofs.Qxb6612243aDoor
set_option linter.unusedVariables false

/-- is c a decimal digit? -/
def dig (c : UInt8) : Bool := decide (48 ≤ c.toNat) && decide (c.toNat ≤ 57)
/-- how many cells from the front satisfy p -/
def span (p : UInt8 → Bool) : List UInt8 → Nat
  | [] => 0
  | c :: r => if p c then span p r + 1 else 0
/-- the number that the digits spell, digits before: acc -/
def valF (acc : Nat) (l : List UInt8) : Nat := l.foldl (fun a c => a * 10 + (c.toNat - 48)) acc
theorem valF_nil (acc : Nat) : valF acc [] = acc := rfl
theorem valF_cons (acc : Nat) (c : UInt8) (r : List UInt8) : valF acc (c :: r) = valF (acc * 10 + (c.toNat - 48)) r := by
  unfold valF; rw [List.foldl_cons]
def lexGt : List UInt8 → List UInt8 → Bool
  | x :: xs, y :: ys => if x.toNat = y.toNat then lexGt xs ys else decide (y.toNat < x.toNat)
  | _, _ => false
def gtB (a b : List UInt8) : Bool := if a.length = b.length then lexGt a b else decide (b.length < a.length)

def c1 : List UInt8 := [49, 56, 52, 52, 54, 55, 52, 52, 48, 55, 51, 55, 48, 57, 53, 53, 49, 54, 49, 53]
def c2 : List UInt8 := [57, 50, 50, 51, 51, 55, 50, 48, 51, 54, 56, 53, 52, 55, 55, 53, 56, 48, 55]
def c3 : List UInt8 := [57, 50, 50, 51, 51, 55, 50, 48, 51, 54, 56, 53, 52, 55, 55, 53, 56, 48, 56]

def isNeg (L : List UInt8) : Bool := match L with | [] => false | c :: _ => decide (c.toNat = 45)
def off (L : List UInt8) : Nat := match L with | [] => 0 | c :: _ => if c.toNat = 43 ∨ c.toNat = 45 then 1 else 0
def digits (L : List UInt8) : List UInt8 := (L.drop (off L)).take (span dig (L.drop (off L)))
def sig (L : List UInt8) : List UInt8 := (digits L).drop (span (fun c => decide (c.toNat = 48)) (digits L))

def mdl (L : List UInt8) : Int × Bool :=
  if gtB (sig L) c1 then (if isNeg L then -9223372036854775808 else 9223372036854775807, false)
  else if (digits L).length = 0 ∨ off L + span dig (L.drop (off L)) ≠ L.length then (0, false)
  else if isNeg L = false then (if gtB (sig L) c2 then (9223372036854775807, false) else ((valF 0 (sig L) : Nat), true))
  else if gtB (sig L) c3 then (-9223372036854775808, false) else (-((valF 0 (sig L) : Nat) : Int), true)

/-! ### spans -/
theorem span_le (p : UInt8 → Bool) (l : List UInt8) : span p l ≤ l.length := by
  induction l with
  | nil => simp [span]
  | cons c r ih => unfold span; split <;> simp; omega
theorem span_all (p : UInt8 → Bool) (l : List UInt8) : ∀ c ∈ l.take (span p l), p c = true := by
  induction l with
  | nil => simp [span]
  | cons c r ih =>
    unfold span
    split
    · rename_i h
      intro d hd
      simp only [List.take_succ_cons, List.mem_cons] at hd
      rcases hd with rfl | hd
      · exact h
      · exact ih d hd
    · simp

/-! ### values -/
def digV (l : List UInt8) : Nat := match l with | [] => 0 | c :: r => (c.toNat - 48) * 10 ^ r.length + digV r
theorem valF_eq (l : List UInt8) (acc : Nat) : valF acc l = acc * 10 ^ l.length + digV l := by
  induction l generalizing acc with
  | nil => rw [valF_nil]; simp [digV]
  | cons c r ih =>
    simp only [valF_cons, digV, List.length_cons, ih, Nat.add_mul, Nat.pow_succ]
    have : acc * 10 * 10 ^ r.length = acc * (10 ^ r.length * 10) := by rw [Nat.mul_assoc, Nat.mul_comm 10]
    omega
theorem digV_lt (l : List UInt8) (h : ∀ c ∈ l, dig c = true) : digV l < 10 ^ l.length := by
  induction l with
  | nil => simp [digV]
  | cons c r ih =>
    have hc := h c (by simp)
    simp [dig] at hc
    have := ih (fun d hd => h d (by simp [hd]))
    simp only [digV, List.length_cons, Nat.pow_succ]
    have h2 : (c.toNat - 48) * 10 ^ r.length ≤ 9 * 10 ^ r.length := Nat.mul_le_mul_right _ (by omega)
    omega
theorem lexGt_val (a b : List UInt8) (h : a.length = b.length) (ha : ∀ c ∈ a, dig c = true) (hb : ∀ c ∈ b, dig c = true) : lexGt a b = decide (digV b < digV a) := by
  induction a generalizing b with
  | nil =>
    cases b with
    | nil => simp [lexGt]
    | cons _ _ => simp at h
  | cons x xs ih =>
    cases b with
    | nil => simp at h
    | cons y ys =>
      have hl : xs.length = ys.length := by simpa using h
      have hx := ha x (by simp)
      have hy := hb y (by simp)
      simp [dig] at hx hy
      have hxs := digV_lt xs (fun d hd => ha d (by simp [hd]))
      have hys := digV_lt ys (fun d hd => hb d (by simp [hd]))
      rw [hl] at hxs
      unfold lexGt
      simp only [digV, hl]
      by_cases e : x.toNat = y.toNat
      · rw [if_pos e, ih ys hl (fun d hd => ha d (by simp [hd])) (fun d hd => hb d (by simp [hd])), e]
        rw [Bool.eq_iff_iff]; simp
      · rw [if_neg e]
        rw [Bool.eq_iff_iff]
        simp only [decide_eq_true_eq]
        generalize 10 ^ ys.length = T at *
        constructor
        · intro hlt
          have : (y.toNat - 48 + 1) * T ≤ (x.toNat - 48) * T := Nat.mul_le_mul_right _ (by omega)
          rw [Nat.add_mul] at this
          omega
        · intro hlt
          by_cases hh : y.toNat < x.toNat
          · exact hh
          · exfalso
            have : (x.toNat - 48 + 1) * T ≤ (y.toNat - 48) * T := Nat.mul_le_mul_right _ (by omega)
            rw [Nat.add_mul] at this
            omega
/-- digits, the first one no zero -/
structure Num (l : List UInt8) : Prop where
  all : ∀ c ∈ l, dig c = true
  head : ∀ c r, l = c :: r → c.toNat ≠ 48
theorem Num.ge {l : List UInt8} (h : Num l) (hn : 0 < l.length) : 10 ^ (l.length - 1) ≤ digV l := by
  cases l with
  | nil => simp at hn
  | cons c r =>
    have h1 := h.head c r rfl
    have h2 := h.all c (by simp)
    simp [dig] at h2
    simp only [digV, List.length_cons, Nat.add_sub_cancel]
    have : 1 * 10 ^ r.length ≤ (c.toNat - 48) * 10 ^ r.length := Nat.mul_le_mul_right _ (by omega)
    omega
theorem gtB_val {a b : List UInt8} (ha : Num a) (hb : Num b) : gtB a b = decide (digV b < digV a) := by
  unfold gtB
  by_cases e : a.length = b.length
  · rw [if_pos e]; exact lexGt_val a b e ha.all hb.all
  · rw [if_neg e, Bool.eq_iff_iff]
    simp only [decide_eq_true_eq]
    have la := digV_lt a ha.all
    have lb := digV_lt b hb.all
    constructor
    · intro h
      have h1 := ha.ge (by omega)
      have : 10 ^ b.length ≤ 10 ^ (a.length - 1) := Nat.pow_le_pow_right (by decide) (by omega)
      omega
    · intro h
      by_cases hh : b.length < a.length
      · exact hh
      · exfalso
        have h1 := hb.ge (by omega)
        have : 10 ^ a.length ≤ 10 ^ (b.length - 1) := Nat.pow_le_pow_right (by decide) (by omega)
        omega
theorem num_c1 : Num c1 := ⟨by decide, by intro c r h; injection h with h1 h2; subst h1; decide⟩
theorem num_c2 : Num c2 := ⟨by decide, by intro c r h; injection h with h1 h2; subst h1; decide⟩
theorem num_c3 : Num c3 := ⟨by decide, by intro c r h; injection h with h1 h2; subst h1; decide⟩
theorem val_c1 : digV c1 = 18446744073709551615 := by decide
theorem val_c2 : digV c2 = 9223372036854775807 := by decide
theorem val_c3 : digV c3 = 9223372036854775808 := by decide

theorem drop_zero_val (l : List UInt8) : digV (l.drop (span (fun c => decide (c.toNat = 48)) l)) = digV l := by
  induction l with
  | nil => rfl
  | cons c r ih =>
    unfold span
    by_cases h : c.toNat = 48
    · simp only [h, decide_true, if_true, List.drop_succ_cons]
      rw [ih]
      simp [digV, h]
    · simp [h]
theorem drop_zero_head (l : List UInt8) : ∀ c r, l.drop (span (fun c => decide (c.toNat = 48)) l) = c :: r → c.toNat ≠ 48 := by
  induction l with
  | nil => intro c r h; simp [span] at h
  | cons c r ih =>
    unfold span
    by_cases h : c.toNat = 48
    · simp only [h, decide_true, if_true, List.drop_succ_cons]
      exact ih
    · simp only [h, decide_false]
      intro d s hd
      injection hd with h1 _
      subst h1
      exact h
theorem digits_all (L : List UInt8) : ∀ c ∈ digits L, dig c = true := span_all _ _
theorem num_sig (L : List UInt8) : Num (sig L) := ⟨fun c hc => digits_all L c (List.mem_of_mem_drop hc), drop_zero_head _⟩
theorem val_sig (L : List UInt8) : digV (sig L) = digV (digits L) := drop_zero_val _
theorem valF_sig (L : List UInt8) : valF 0 (sig L) = digV (digits L) := by rw [valF_eq, val_sig]; omega

theorem valF_mono (l : List UInt8) (acc : Nat) : acc ≤ valF acc l := by
  rw [valF_eq]
  have : acc * 1 ≤ acc * 10 ^ l.length := Nat.mul_le_mul_left _ (Nat.one_le_pow _ _ (by decide))
  omega

/-! ### the library's function -/
theorem parse_eq (l : List UInt8) (acc : Nat) (hacc : acc ≤ 18446744073709551615) : Lib.parseUintM 18446744073709551615 acc l =
    if 18446744073709551615 < valF acc (l.take (span dig l)) then .range else if span dig l = l.length then .ok (valF acc l) else .syntax := by
  induction l generalizing acc with
  | nil =>
    have e : span dig [] = ([] : List UInt8).length := rfl
    rw [if_neg (show ¬ 18446744073709551615 < valF acc (List.take (span dig []) []) by rw [List.take_nil, valF_nil]; omega), if_pos e]; rfl
  | cons c r ih =>
    unfold Lib.parseUintM span
    by_cases h : 48 ≤ c.toNat ∧ c.toNat ≤ 57
    · have hd : dig c = true := by simp [dig, h]
      simp only [h, hd, if_true, and_self, List.take_succ_cons, valF_cons, List.length_cons, Nat.add_right_cancel_iff]
      have hm := valF_mono (r.take (span dig r)) (acc * 10 + (c.toNat - 48))
      by_cases h1 : 1844674407370955162 ≤ acc
      · rw [if_pos h1, if_pos (by omega)]
      · rw [if_neg h1]
        by_cases h2 : 18446744073709551615 < acc * 10 + (c.toNat - 48)
        · rw [if_pos h2, if_pos (by omega)]
        · rw [if_neg h2, ih _ (by omega)]
    · have hd : dig c = false := by
        simp only [dig]; rw [Bool.and_eq_false_iff]; simp; omega
      simp only [h, hd, if_false, Bool.false_eq_true]
      rw [if_neg (show ¬ 18446744073709551615 < valF acc (List.take 0 (c :: r)) from by rw [List.take_zero, valF_nil]; omega), if_neg (by simp)]

def wanted (L : List UInt8) : Int × Bool := match Lib.parseIntB 64 L with
  | .ok v => (v, true)
  | .syntax => (0, false)
  | .range => (Lib.intSat 64 L, false)

theorem uint_eq (R : List UInt8) : Lib.parseUintB 64 R =
    if 18446744073709551615 < digV (R.take (span dig R)) then .range
    else if (R.take (span dig R)).length = 0 ∨ span dig R ≠ R.length then .syntax else .ok (digV (R.take (span dig R))) := by
  unfold Lib.parseUintB
  have hle := span_le dig R
  by_cases h0 : R = []
  · subst h0; simp [span, digV]
  · rw [if_neg h0]
    have hp := parse_eq R 0 (by omega)
    have e : (2 ^ 64 - 1 : Nat) = 18446744073709551615 := by decide
    rw [e, hp, valF_eq]
    simp only [Nat.zero_mul, Nat.zero_add]
    by_cases h1 : 18446744073709551615 < digV (R.take (span dig R))
    · rw [if_pos h1, if_pos h1]
    · rw [if_neg h1, if_neg h1]
      by_cases h2 : span dig R = R.length
      · rw [if_pos h2, if_neg, valF_eq, h2, List.take_length]
        · simp
        · have : 0 < R.length := List.length_pos_iff.2 h0
          rw [h2, List.take_length]; omega
      · rw [if_neg h2, if_pos (Or.inr h2)]

theorem law (L : List UInt8) : mdl L = wanted L := by
  unfold mdl wanted
  rw [gtB_val (num_sig L) num_c1, gtB_val (num_sig L) num_c2, gtB_val (num_sig L) num_c3, val_sig, valF_sig, val_c1, val_c2, val_c3]
  cases L with
  | nil => decide
  | cons c r =>
    unfold Lib.parseIntB
    have hR : (if c.toNat = 43 ∨ c.toNat = 45 then r else c :: r) = (c :: r).drop (off (c :: r)) := by
      unfold off; dsimp only; split <;> simp
    have hlen : ∀ n, off (c :: r) + n ≠ (c :: r).length ↔ n ≠ ((c :: r).drop (off (c :: r))).length := by
      intro n
      rw [List.length_drop]
      have : off (c :: r) ≤ (c :: r).length := by unfold off; dsimp only; split <;> simp
      omega
    have hneg : isNeg (c :: r) = decide (c.toNat = 45) := rfl
    have hsat : Lib.intSat 64 (c :: r) = if isNeg (c :: r) then -9223372036854775808 else 9223372036854775807 := by
      unfold Lib.intSat
      rw [hneg]
      simp
    dsimp only
    rw [hR, uint_eq, hsat]
    simp only [hlen]
    have hD : digits (c :: r) = ((c :: r).drop (off (c :: r))).take (span dig ((c :: r).drop (off (c :: r)))) := rfl
    rw [← hD]
    generalize digV (digits (c :: r)) = V
    rw [hneg]
    generalize (digits (c :: r)).length = B1, span dig ((c :: r).drop (off (c :: r))) = B2, ((c :: r).drop (off (c :: r))).length = B3
    by_cases h1 : 18446744073709551615 < V
    · simp [h1]
    · simp only [h1, decide_false, if_false, Bool.false_eq_true]
      by_cases hB : B1 = 0 ∨ B2 ≠ B3
      · simp [hB]
      · simp only [hB, if_false]
        by_cases hn : c.toNat = 45
        · simp only [hn, decide_true, not_true_eq_false, false_and, if_false, true_and, if_true, Bool.true_eq_false]
          by_cases h3 : 9223372036854775808 < V
          · simp [h3]
          · simp [h3]
        · simp only [hn, decide_false, not_false_eq_true, true_and, false_and, if_false, if_true, Bool.false_eq_true, decide_eq_true_eq]
          by_cases h3 : 9223372036854775807 < V
          · have : (2 ^ (64 - 1) : Nat) ≤ V := by simp; omega
            simp [h3, this]
          · have : ¬ (2 ^ (64 - 1) : Nat) ≤ V := by simp; omega
            simp [h3, this]
end Go.Proofs.Qxb6612243aDoor
