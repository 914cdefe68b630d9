/-
  The plain model of 'nearest': addresses are lists of bytes; no Go in sight.
-/
import Derived.Lib.Bytealg
namespace Go.Proofs.Qxb6609493a.Plain
open Go.Lib

abbrev cb := compareBytes

theorem cb_self : ∀ a : List UInt8, cb a a = 0
  | [] => rfl
  | x :: a => by have h := cb_self a; show (if x < x then _ else if x < x then _ else compareBytes a a) = 0; simp [UInt8.lt_irrefl]; exact h

theorem cb_range : ∀ a b : List UInt8, cb a b = -1 ∨ cb a b = 0 ∨ cb a b = 1
  | [], [] => by simp [cb, compareBytes]
  | [], _ :: _ => by simp [cb, compareBytes]
  | _ :: _, [] => by simp [cb, compareBytes]
  | x :: a, y :: b => by
    have h := cb_range a b
    simp only [cb, compareBytes]
    split
    · simp
    · split
      · simp
      · exact h

theorem cb_eq : ∀ a b : List UInt8, cb a b = 0 → a = b
  | [], [] => fun _ => rfl
  | [], _ :: _ => by simp [cb, compareBytes]
  | _ :: _, [] => by simp [cb, compareBytes]
  | x :: a, y :: b => by
    intro h
    simp only [cb, compareBytes] at h
    split at h
    · simp at h
    · split at h
      · simp at h
      · rename_i h1 h2
        have : x = y := UInt8.le_antisymm (UInt8.not_lt.1 h2) (UInt8.not_lt.1 h1)
        subst this
        rw [cb_eq a b h]

theorem cb_swap : ∀ a b : List UInt8, cb b a = - cb a b
  | [], [] => by simp [cb, compareBytes]
  | [], _ :: _ => by simp [cb, compareBytes]
  | _ :: _, [] => by simp [cb, compareBytes]
  | x :: a, y :: b => by
    have h := cb_swap a b
    simp only [cb, compareBytes] at h ⊢
    by_cases h1 : x < y
    · have h2 : ¬ y < x := UInt8.lt_asymm h1
      simp [h1, h2]
    · by_cases h2 : y < x
      · simp [h1, h2]
      · simp [h1, h2, h]

theorem cb_trans : ∀ a b c : List UInt8, cb a b < 0 → cb b c < 0 → cb a c < 0
  | [], [], c => by simp [cb, compareBytes]
  | [], _ :: _, [] => by simp [cb, compareBytes]
  | [], _ :: _, _ :: _ => by simp [cb, compareBytes]
  | _ :: _, [], c => by simp [cb, compareBytes]
  | _ :: _, _ :: _, [] => by simp [cb, compareBytes]
  | x :: a, y :: b, z :: c => by
    have ih := cb_trans a b c
    simp only [cb, compareBytes] at ih ⊢
    intro h1 h2
    by_cases xy : x < y
    · by_cases yz : y < z
      · simp [UInt8.lt_trans xy yz]
      · by_cases zy : z < y
        · simp [yz, zy] at h2
        · have : y = z := UInt8.le_antisymm (UInt8.not_lt.1 zy) (UInt8.not_lt.1 yz)
          subst this; simp [xy]
    · by_cases yx : y < x
      · simp [xy, yx] at h1
      · have : x = y := UInt8.le_antisymm (UInt8.not_lt.1 yx) (UInt8.not_lt.1 xy)
        subst this
        by_cases yz : x < z
        · simp [yz]
        · by_cases zy : z < x
          · simp [yz, zy] at h2
          · simp [xy] at h1
            simp [yz, zy] at h2 ⊢
            exact ih h1 h2

/-- a lies strictly below b -/
def lt (a b : List UInt8) : Bool := decide (cb a b < 0)

theorem lt_irrefl (a : List UInt8) : lt a a = false := by simp [lt, cb_self]
theorem lt_trans {a b c : List UInt8} (h : lt a b = true) (k : lt b c = true) : lt a c = true := by
  simp only [lt, decide_eq_true_eq] at *; exact cb_trans a b c h k
theorem lt_asymm {a b : List UInt8} (h : lt a b = true) : lt b a = false := by
  simp only [lt, decide_eq_true_eq, decide_eq_false_iff_not] at *; have := cb_swap a b; omega
theorem lt_tri {a b : List UInt8} (h : lt a b = false) (k : lt b a = false) : a = b := by
  simp only [lt, decide_eq_false_iff_not] at *; have := cb_swap a b; exact cb_eq a b (by omega)
theorem cb_neg (a b : List UInt8) : (cb a b < 0) ↔ lt a b = true := by simp [lt]
theorem cb_nonpos (a b : List UInt8) : (cb a b ≤ 0) ↔ lt b a = false := by
  have := cb_swap a b; simp only [lt, decide_eq_false_iff_not]; omega

/-- What 'nearest' keeps: how many, and the two offsets. -/
structure St where
  c : Nat
  o0 : List UInt8
  o1 : List UInt8

/-- 'offer' -/
def offer (s : St) (x : List UInt8) : St :=
  if s.c = 0 then ⟨1, x, s.o1⟩
  else if lt s.o0 x then
    if s.c = 1 then ⟨2, s.o0, x⟩
    else if lt s.o1 x then s
    else if s.o1 = x then s
    else ⟨2, s.o0, x⟩
  else if s.o0 = x then s
  else ⟨2, x, s.o0⟩

def admits (s : St) (x : List UInt8) : Bool := decide (s.c < 2) || !lt s.o1 x

def z20 : List UInt8 := List.replicate 20 0
def start : St := ⟨0, z20, z20⟩
def run (l : List (List UInt8)) : St := l.foldl offer start

/-- What a run of offers keeps: the two smallest of those offered. -/
def Inv (l : List (List UInt8)) (s : St) : Prop :=
  (s.c = 0 ∧ l = []) ∨
  (s.c = 1 ∧ s.o0 ∈ l ∧ ∀ x ∈ l, x = s.o0) ∨
  (s.c = 2 ∧ s.o0 ∈ l ∧ s.o1 ∈ l ∧ lt s.o0 s.o1 = true ∧ ∀ x ∈ l, x = s.o0 ∨ x = s.o1 ∨ lt s.o1 x = true)

theorem inv_step {l : List (List UInt8)} {s : St} (h : Inv l s) (x : List UInt8) : Inv (l ++ [x]) (offer s x) := by
  rcases h with ⟨h, rfl⟩ | ⟨h, h0, ha⟩ | ⟨h, h0, h1, h01, ha⟩
  · right; left; simp [offer, h]
  · by_cases k : lt s.o0 x = true
    · right; right
      have e : offer s x = ⟨2, s.o0, x⟩ := by simp [offer, h, k]
      rw [e]
      refine ⟨rfl, by simp [h0], by simp, k, ?_⟩
      intro y hy
      rcases List.mem_append.1 hy with hy | hy
      · exact Or.inl (ha y hy)
      · simp at hy; exact Or.inr (Or.inl hy)
    · by_cases e0 : s.o0 = x
      · right; left
        have e : offer s x = s := by simp [offer, h, e0, lt_irrefl]
        rw [e]
        refine ⟨h, by simp [h0], ?_⟩
        intro y hy
        rcases List.mem_append.1 hy with hy | hy
        · exact ha y hy
        · simp at hy; rw [hy, e0]
      · right; right
        have e : offer s x = ⟨2, x, s.o0⟩ := by simp [offer, h, k, e0]
        rw [e]
        have hx : lt x s.o0 = true := by
          cases hq : lt x s.o0
          · exact absurd (lt_tri (by simpa using k) hq) e0
          · rfl
        refine ⟨rfl, by simp, by simp [h0], hx, ?_⟩
        intro y hy
        rcases List.mem_append.1 hy with hy | hy
        · exact Or.inr (Or.inl (ha y hy))
        · simp at hy; exact Or.inl hy
  · right; right
    have hc0 : ¬ s.c = 0 := by omega
    have hc1 : ¬ s.c = 1 := by omega
    by_cases k : lt s.o0 x = true
    · by_cases k1 : lt s.o1 x = true
      · have e : offer s x = s := by simp [offer, hc0, hc1, k, k1]
        rw [e]
        refine ⟨h, by simp [h0], by simp [h1], h01, ?_⟩
        intro y hy
        rcases List.mem_append.1 hy with hy | hy
        · exact ha y hy
        · simp at hy; subst hy; exact Or.inr (Or.inr k1)
      · by_cases e1 : s.o1 = x
        · have e : offer s x = s := by simp [offer, hc0, hc1, k, e1]
          rw [e]
          refine ⟨h, by simp [h0], by simp [h1], h01, ?_⟩
          intro y hy
          rcases List.mem_append.1 hy with hy | hy
          · exact ha y hy
          · simp at hy; subst hy; exact Or.inr (Or.inl e1.symm)
        · have e : offer s x = ⟨2, s.o0, x⟩ := by simp [offer, hc0, hc1, k, k1, e1]
          rw [e]
          have hx : lt x s.o1 = true := by
            cases hq : lt x s.o1
            · exact absurd (lt_tri (by simpa using k1) hq) e1
            · rfl
          refine ⟨rfl, by simp [h0], by simp, k, ?_⟩
          intro y hy
          rcases List.mem_append.1 hy with hy | hy
          · rcases ha y hy with rfl | rfl | hy
            · exact Or.inl rfl
            · exact Or.inr (Or.inr hx)
            · exact Or.inr (Or.inr (lt_trans hx hy))
          · simp at hy; exact Or.inr (Or.inl hy)
    · by_cases e0 : s.o0 = x
      · have e : offer s x = s := by simp [offer, hc0, e0, lt_irrefl]
        rw [e]
        refine ⟨h, by simp [h0], by simp [h1], h01, ?_⟩
        intro y hy
        rcases List.mem_append.1 hy with hy | hy
        · exact ha y hy
        · simp at hy; subst hy; exact Or.inl e0.symm
      · have e : offer s x = ⟨2, x, s.o0⟩ := by simp [offer, hc0, k, e0]
        rw [e]
        have hx : lt x s.o0 = true := by
          cases hq : lt x s.o0
          · exact absurd (lt_tri (by simpa using k) hq) e0
          · rfl
        refine ⟨rfl, by simp, by simp [h0], hx, ?_⟩
        intro y hy
        rcases List.mem_append.1 hy with hy | hy
        · rcases ha y hy with rfl | rfl | hy
          · exact Or.inr (Or.inl rfl)
          · exact Or.inr (Or.inr h01)
          · exact Or.inr (Or.inr (lt_trans h01 hy))
        · simp at hy; exact Or.inl hy

theorem run_snoc (l : List (List UInt8)) (x : List UInt8) : run (l ++ [x]) = offer (run l) x := by simp [run]

theorem inv_run_from (l : List (List UInt8)) : ∀ (m : List (List UInt8)) (s : St), Inv m s → Inv (m ++ l) (l.foldl offer s) := by
  induction l with
  | nil => intro m s h; simpa using h
  | cons x l ih => intro m s h; simpa using ih (m ++ [x]) (offer s x) (inv_step h x)

theorem inv_run (l : List (List UInt8)) : Inv l (run l) := by
  have h := inv_run_from l [] start (Or.inl ⟨rfl, rfl⟩)
  rw [List.nil_append] at h
  exact h

/-- What the law's second loop has found: the first below, and whether another one. -/
structure Lk where
  found : Bool
  first : List UInt8
  two : Bool

def look (off : List UInt8) (k : Lk) (x : List UInt8) : Lk :=
  if k.two then k
  else if lt x off then
    if !k.found then ⟨true, x, false⟩
    else if x = k.first then k
    else { k with two := true }
  else k

def lookAll (off : List UInt8) (l : List (List UInt8)) : Lk := l.foldl (look off) ⟨false, z20, false⟩

def LInv (off : List UInt8) (l : List (List UInt8)) (k : Lk) : Prop :=
  (k.two = false ∧ k.found = false ∧ ∀ x ∈ l, lt x off = false) ∨
  (k.two = false ∧ k.found = true ∧ k.first ∈ l ∧ lt k.first off = true ∧ ∀ x ∈ l, lt x off = true → x = k.first) ∨
  (k.two = true ∧ ∃ x ∈ l, ∃ y ∈ l, x ≠ y ∧ lt x off = true ∧ lt y off = true)

theorem linv_step {off : List UInt8} {l : List (List UInt8)} {k : Lk} (h : LInv off l k) (x : List UInt8) : LInv off (l ++ [x]) (look off k x) := by
  rcases h with ⟨h2, hf, ha⟩ | ⟨h2, hf, hm, hl, ha⟩ | ⟨h2, a, ham, b, hbm, hab, hla, hlb⟩
  · by_cases hx : lt x off = true
    · right; left
      have e : look off k x = ⟨true, x, false⟩ := by simp [look, h2, hf, hx]
      rw [e]
      refine ⟨rfl, rfl, by simp, hx, ?_⟩
      intro y hy hyo
      rcases List.mem_append.1 hy with hy | hy
      · rw [ha y hy] at hyo; simp at hyo
      · simpa using hy
    · left
      have e : look off k x = k := by simp [look, h2, hx]
      rw [e]
      refine ⟨h2, hf, ?_⟩
      intro y hy
      rcases List.mem_append.1 hy with hy | hy
      · exact ha y hy
      · simp at hy; subst hy; simpa using hx
  · by_cases hx : lt x off = true
    · by_cases e0 : x = k.first
      · right; left
        have e : look off k x = k := by simp [look, h2, hf, e0]
        rw [e]
        refine ⟨h2, hf, by simp [hm], hl, ?_⟩
        intro y hy hyo
        rcases List.mem_append.1 hy with hy | hy
        · exact ha y hy hyo
        · simp at hy; rw [hy, e0]
      · right; right
        have e : look off k x = { k with two := true } := by simp [look, h2, hf, hx, e0]
        rw [e]
        exact ⟨rfl, x, by simp, k.first, by simp [hm], e0, hx, hl⟩
    · right; left
      have e : look off k x = k := by simp [look, h2, hx]
      rw [e]
      refine ⟨h2, hf, by simp [hm], hl, ?_⟩
      intro y hy hyo
      rcases List.mem_append.1 hy with hy | hy
      · exact ha y hy hyo
      · simp at hy; subst hy; exact absurd hyo hx
  · right; right
    have e : look off k x = k := by simp [look, h2]
    rw [e]
    exact ⟨h2, a, by simp [ham], b, by simp [hbm], hab, hla, hlb⟩

theorem linv_from (off : List UInt8) (l : List (List UInt8)) : ∀ (m : List (List UInt8)) (s : Lk), LInv off m s → LInv off (m ++ l) (l.foldl (look off) s) := by
  induction l with
  | nil => intro m s h; simpa using h
  | cons x l ih => intro m s h; simpa using ih (m ++ [x]) (look off s x) (linv_step h x)

theorem linv_all (off : List UInt8) (l : List (List UInt8)) : LInv off l (lookAll off l) := by
  have h := linv_from off l [] ⟨false, z20, false⟩ (Or.inl ⟨rfl, rfl, by simp⟩)
  rw [List.nil_append] at h
  exact h

/-- Behind a run of looks that has found two, further looks change nothing: the loop may stop. -/
theorem look_stop (off : List UInt8) (l : List (List UInt8)) (k : Lk) (h : k.two = true) : (l.foldl (look off) k) = k := by
  induction l with
  | nil => rfl
  | cons x l ih => simp [List.foldl_cons, look, h]; simpa using ih

theorem lookAll_snoc (off : List UInt8) (l : List (List UInt8)) (x : List UInt8) : lookAll off (l ++ [x]) = look off (lookAll off l) x := by simp [lookAll]

theorem lookAll_stop (off : List UInt8) (l : List (List UInt8)) (k : Nat) (h : (lookAll off (l.take k)).two = true) : (lookAll off l).two = true := by
  have e : l = l.take k ++ l.drop k := by simp
  rw [e]
  unfold lookAll at h ⊢
  rw [List.foldl_append, look_stop off _ _ h]
  exact h

/-- THE FIRST LAW, in plain words. -/
theorem law1 (l : List (List UInt8)) (off : List UInt8) : admits (run l) off = !(lookAll off l).two := by
  have h := inv_run l
  have k := linv_all off l
  rcases h with ⟨h, rfl⟩ | ⟨h, h0, ha⟩ | ⟨h, h0, h1, h01, ha⟩
  · rw [show admits (run []) off = true by simp [admits, h]]; simp [lookAll]
  · rw [show admits (run l) off = true by simp [admits, h]]
    rcases k with ⟨k, _⟩ | ⟨k, _⟩ | ⟨k, a, ham, b, hbm, hab, _⟩
    · simp [k]
    · simp [k]
    · exact absurd ((ha a ham).trans (ha b hbm).symm) hab
  · have e : admits (run l) off = !lt (run l).o1 off := by simp [admits, h]
    rw [e]
    cases hq : lt (run l).o1 off
    · rcases k with ⟨k, _⟩ | ⟨k, _⟩ | ⟨k, a, ham, b, hbm, hab, hla, hlb⟩
      · simp [k]
      · simp [k]
      · exfalso
        have key : ∀ x ∈ l, lt x off = true → x = (run l).o0 := by
          intro x hx hxo
          rcases ha x hx with rfl | rfl | hy
          · rfl
          · rw [hq] at hxo; simp at hxo
          · have := lt_trans hy hxo; rw [hq] at this; simp at this
        exact hab ((key a ham hla).trans (key b hbm hlb).symm)
    · have h0o := lt_trans h01 hq
      have hne : (run l).o0 ≠ (run l).o1 := by intro e; rw [e, lt_irrefl] at h01; simp at h01
      rcases k with ⟨k, _, kx⟩ | ⟨k, _, _, _, kx⟩ | ⟨k, _⟩
      · have := kx _ h1; rw [hq] at this; simp at this
      · exact absurd ((kx _ h0 h0o).trans (kx _ h1 hq).symm) hne
      · simp [k]

/-- Is x among what is kept? -/
def kept (s : St) (x : List UInt8) : Bool := (decide (0 < s.c) && decide (s.o0 = x)) || (decide (1 < s.c) && decide (s.o1 = x))
def want (l : List (List UInt8)) (x : List UInt8) : Nat := if l.all (fun y => decide (y = x)) then 1 else 2

/-- THE SECOND LAW, in plain words. -/
theorem law2 (l : List (List UInt8)) (x : List UInt8) : admits (run l) x = kept (offer (run l) x) x ∧ (offer (run l) x).c = want l x := by
  have h := inv_run l
  rcases h with ⟨h, rfl⟩ | ⟨h, h0, ha⟩ | ⟨h, h0, h1, h01, ha⟩
  · have e : offer (run []) x = ⟨1, x, (run []).o1⟩ := by simp [offer, h]
    rw [e]; simp [admits, h, kept, want]
  · have hw : want l x = if (run l).o0 = x then 1 else 2 := by
      unfold want
      by_cases e : (run l).o0 = x
      · rw [if_pos, if_pos e]; simp only [List.all_eq_true, decide_eq_true_eq]; intro y hy; rw [ha y hy, e]
      · rw [if_neg, if_neg e]; simp only [List.all_eq_true, decide_eq_true_eq]; intro hq; exact e (hq _ h0)
    rw [hw]
    have ea : admits (run l) x = true := by simp [admits, h]
    rw [ea]
    by_cases e0 : (run l).o0 = x
    · have e : offer (run l) x = run l := by simp [offer, h, e0, lt_irrefl]
      rw [e]; simp [kept, h, e0]
    · by_cases k : lt (run l).o0 x = true
      · have e : offer (run l) x = ⟨2, (run l).o0, x⟩ := by simp [offer, h, k]
        rw [e]; simp [kept, e0]
      · have e : offer (run l) x = ⟨2, x, (run l).o0⟩ := by simp [offer, h, k, e0]
        rw [e]; simp [kept, e0]
  · have hne : (run l).o0 ≠ (run l).o1 := by intro e; rw [e, lt_irrefl] at h01; simp at h01
    have hw : want l x = 2 := by
      unfold want
      rw [if_neg]
      simp only [List.all_eq_true, decide_eq_true_eq]
      intro hq
      exact hne ((hq _ h0).trans (hq _ h1).symm)
    rw [hw]
    have hc0 : ¬ (run l).c = 0 := by omega
    have hc1 : ¬ (run l).c = 1 := by omega
    have ea : admits (run l) x = !lt (run l).o1 x := by simp [admits, h]
    rw [ea]
    by_cases k : lt (run l).o0 x = true
    · have hn0 : (run l).o0 ≠ x := by intro e; rw [e, lt_irrefl] at k; simp at k
      by_cases k1 : lt (run l).o1 x = true
      · have hn1 : (run l).o1 ≠ x := by intro e; rw [e, lt_irrefl] at k1; simp at k1
        have e : offer (run l) x = run l := by simp [offer, hc0, hc1, k, k1]
        rw [e]; simp [kept, h, k1, hn0, hn1]
      · by_cases e1 : (run l).o1 = x
        · have e : offer (run l) x = run l := by simp [offer, hc0, hc1, k, e1]
          rw [e]; simp [kept, h, e1, lt_irrefl]
        · have e : offer (run l) x = ⟨2, (run l).o0, x⟩ := by simp [offer, hc0, hc1, k, k1, e1]
          rw [e]; simp [kept, k1]
    · have hk1 : lt (run l).o1 x = false := by
        cases hq : lt (run l).o1 x
        · rfl
        · exact absurd (lt_trans h01 hq) k
      by_cases e0 : (run l).o0 = x
      · have e : offer (run l) x = run l := by simp [offer, hc0, e0, lt_irrefl]
        rw [e]; simp [kept, h, hk1, e0]
      · have e : offer (run l) x = ⟨2, x, (run l).o0⟩ := by simp [offer, hc0, k, e0]
        rw [e]; simp [kept, hk1]
end Go.Proofs.Qxb6609493a.Plain
