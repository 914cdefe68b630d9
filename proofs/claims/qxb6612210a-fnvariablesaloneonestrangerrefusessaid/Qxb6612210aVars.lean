import Derived.Test.Qxb6612210aProg
import Derived.WalkKit
import Derived.WalkLawsBesides
import Derived.Handy
import Derived.Below
import Derived.Deep.OwnRows
import Derived.KernelRfl
namespace Go.Proofs.Qxb6612210a
open Go.RowKit
set_option linter.unusedVariables false

def Seg (w : World) (g off : Nat) (cs : Array Value) : Prop := ∀ j, j < cs.size → w.cell? ⟨g, off + j, none⟩ = cs[j]?

theorem add_at (g o j : Nat) : (⟨g, o, none⟩ : Addr).add j = ⟨g, o + j, none⟩ := by unfold Addr.add; split <;> simp_all
section
variable {P : Program}

theorem run_loadVar_seg (w : World) (g off : Nat) (ty : TypeId) (cs : Array Value) (d : TypeDesc) (hg : Seg w g off cs)
    (hu : P.underlying ty = some d) (hd : (match d with | .struct _ | .array _ _ => true | _ => false) = true) (hi : (P.info? ty).map (·.size) = some cs.size) :
    (loadVar ty ⟨g, off, none⟩).run P w = .ok (.agg cs) w := by
  have hl : (loadCells ⟨g, off, none⟩ cs.toList.length).run P w = .ok cs.toList.toArray w :=
    run_loadCells_list (P := P) w ⟨g, off, none⟩ cs.toList (fun j v hv => by
      rw [add_at]
      have hj : j < cs.size := by
        have := (List.getElem?_eq_some_iff.1 hv).1
        simpa using this
      rw [hg j hj]
      simpa using hv)
  cases hq : P.info? ty with
  | none => simp [hq] at hi
  | some i =>
    have hs : i.size = cs.size := by simpa [hq] using hi
    have hagg : (isAgg ty).run P w = .ok true w := by
      unfold isAgg
      rw [Sem.run_bind, run_underlying hu w]
      cases d <;> simp_all
    simp only [Array.length_toList, Array.toArray_toList] at hl
    simp [loadVar, Sem.run_bind, hagg, sizeOf, typeInfo, hq, hs, hl]

theorem wp_load_seg {o : Oper} {a : Act} {w : World} {K : Act → World → Prop} {Q : Exit → Act → World → Prop} (ty : TypeId) (x : Operand) (ho : o.op = .load ty x)
    (g off : Nat) (hx : a.eval x = .pointer (some ⟨g, off, none⟩)) (cs : Array Value) (d : TypeDesc) (hg : Seg w g off cs)
    (hu : P.underlying ty = some d) (hd : (match d with | .struct _ | .array _ _ => true | _ => false) = true) (hi : (P.info? ty).map (·.size) = some cs.size)
    (h : K (a.put o.dst (.agg cs)) w) : o.wp P a w K Q := by
  unfold Oper.wp execOp
  simp only [ho, hx, Instr.loadAt, Instr.sureAddr, Sem.run_bind, Sem.run_pure, Result.andThen_ok, run_loadVar_seg w g off ty cs d hg hu hd hi]
  exact h

/-- A whole struct is read, in the walk. -/
theorem wpList_load_seg {ops : Array Oper} {rest : List Oper} {o : Oper} {a : Act} {w : World} {Q : Exit → Act → World → Prop} (hgd : o.guard = none) (ty : TypeId) (x : Operand) (ho : o.op = .load ty x)
    (g off : Nat) (hx : a.eval x = .pointer (some ⟨g, off, none⟩)) (cs : Array Value) (d : TypeDesc) (hg : Seg w g off cs)
    (hu : P.underlying ty = some d) (hd : (match d with | .struct _ | .array _ _ => true | _ => false) = true) (hi : (P.info? ty).map (·.size) = some cs.size)
    (h : wpList P ops Q rest (a.put o.dst (.agg cs)) w) : wpList P ops Q (o :: rest) a w :=
  wpList_plain hgd fun _ hK => wp_load_seg ty x ho g off hx cs d hg hu hd hi (hK _ _ h)
end

/-- the cells of a Field of kind k, all else zero -/
def fld (k : Int) : Array Value := #[.int .u8 k, .string ByteArray.empty, .string ByteArray.empty, .string ByteArray.empty, .string ByteArray.empty, .int .u8 0, .string ByteArray.empty, .string ByteArray.empty]
theorem Try.info37 : (Try.prog.info? 37).map (fun i => (i.zero, i.size, i.bytes)) = some (some (.agg (fld 0)), 8, 112) := by kernel_rfl

def row (κ : Nat → Int) (k : Nat) : Value := (fld (κ (k / 8)))[k % 8]!

theorem seg_of_row {w : World} {g n : Nat} {κ : Nat → Int} (h : w.rowIs g 37 (n * 8) (row κ)) (i : Nat) (hi : i < n) : Seg w g (i * 8) (fld (κ i)) := by
  intro j hj
  have h8 : j < 8 := hj
  rw [h.cell (by omega)]
  unfold row
  have e1 : (i * 8 + j) / 8 = i := by omega
  have e2 : (i * 8 + j) % 8 = j := by omega
  rw [e1, e2]
  simp [hj]

theorem row_set {w : World} {g n : Nat} {κ : Nat → Int} (h : w.rowIs g 37 (n * 8) (row κ)) (i : Nat) (v : Int) :
    (w.setCell ⟨g, i * 8, none⟩ (.int .u8 v)).rowIs g 37 (n * 8) (row fun j => if j = i then v else κ j) := by
  refine (h.set (i * 8) (.int .u8 v)).congr fun j hj => ?_
  unfold row
  by_cases e : j = i * 8
  · subst e
    have e1 : i * 8 / 8 = i := by omega
    have e2 : i * 8 % 8 = 0 := by omega
    simp [e1, e2, fld]
  · rw [if_neg e]
    by_cases e1 : j / 8 = i
    · simp only [e1, if_pos]
      have : ∃ m, j % 8 = m + 1 ∧ m < 7 := ⟨j % 8 - 1, by omega, by omega⟩
      obtain ⟨m, hm, h7⟩ := this
      rw [hm]
      simp [fld]
    · simp only [e1, if_neg, not_false_eq_true]

theorem row_made (w : World) (n : Nat) : (w.alloc (.cells (madeCells (fld 0) (n * 8)) 37)).rowIs w.heap.size 37 (n * 8) (row fun _ => 0) := by
  have := World.rowIs_alloc w (madeCells (fld 0) (n * 8)) 37 (row fun _ => 0) (fun i hi => by
    rw [size_madeCells] at hi
    simp [madeCells, hi, row, fld])
  rwa [size_madeCells] at this

theorem make_any (n : Nat) (h : n ≤ 65537) (w : World) : (Instr.makeSlice 29 (.int .i64 (n : Int)) (.int .i64 (n : Int))).run Try.prog w = .ok (.slice (some ⟨w.heap.size, 0, none⟩) n n) (w.alloc (.cells (madeCells (fld 0) (n * 8)) 37)) := by
  obtain ⟨i, hi, hz0, hz1, hz2⟩ := info_parts Try.info37
  have hr := run_make (P := Try.prog) w 29 37 i _ Try.underlying29 hi hz0 .i64 .i64 n n (by omega) (Int.le_refl _) (by rw [hz2]; omega) (by omega)
  simp only [Int.toNat_natCast, hz1] at hr
  exact hr

def allVar (κ : Nat → Int) : Nat → Bool
  | 0 => true
  | k + 1 => allVar κ k && decide (κ k = 3)
theorem allVar_false {κ : Nat → Int} {n : Nat} (i : Nat) (hi : i < n) (h : κ i ≠ 3) : allVar κ n = false := by
  induction n with
  | zero => omega
  | succ n ih =>
    by_cases e : i = n
    · subst e; simp [allVar, h]
    · simp [allVar, ih (by omega)]
theorem allVar_true {κ : Nat → Int} {n : Nat} (h : ∀ i, i < n → κ i = 3) : allVar κ n = true := by
  induction n with
  | zero => rfl
  | succ n ih => simp [allVar, ih (fun i hi => h i (by omega)), h n (by omega)]

theorem ret_bool {a b : Bool} (h : a = b) : Ending.returned (.bool a) = .returned (.bool b) := by rw [h]

theorem alone_any (s g n : Nat) (κ : Nat → Int) (w : World) (hn : n ≤ 65537) (hs : s < w.heap.size) (hc : w.cell? ⟨s, 0, none⟩ = some (.slice (some ⟨g, 0, none⟩) n n)) (hr : w.rowIs g 37 (n * 8) (row κ)) :
    Calls Try.prog 13 #[.pointer (some ⟨s, 0, none⟩)] w fun e w' => e = .returned (.bool (decide (0 < n) && allVar κ n)) ∧ Below w.heap.size w w' := by
  have hgs := hr.lt
  have HR : Hid (w.rowIs g 37 (n * 8) (row κ)) := hr
  clear hr
  have hn' : (n : Int) ≤ 65537 := by omega
  have HN : Hid (n ≤ 65537) := hn
  clear hn
  by_cases h0 : n = 0
  · subst h0
    go_enter Try.func13, Try.ntmps13
    go_wp2
    go_ret
    exact ⟨rfl, Below.refl _ _⟩
  · go_enter Try.func13, Try.ntmps13
    go_wp2
    go_loopw [16] (fun i wr => ∃ k : Nat, k ≤ n ∧ i = .int .i64 k ∧ (∀ j, j < k → κ j = 3) ∧ Below w.heap.size w wr) (fun i _ => n - (intOf i).toNat)
    case atStart => exact ⟨0, by omega, rfl, fun j hj => absurd hj (Nat.not_lt_zero _), Below.refl _ _⟩
    case round =>
      obtain ⟨k, hk, rfl, hall, hb⟩ := hrel
      have HA : Hid (∀ j, j < k → κ j = 3) := hall
      clear hall
      by_cases hlt : k < n
      · have HS : Hid (Seg wr g (k * 8) (fld (κ k))) := seg_of_row (HR.out.of_block (hb.block _ hgs)) k hlt
        obtain ⟨z, hz⟩ : ∃ z, z = κ k := ⟨_, rfl⟩
        rw [← hz] at HS
        have HZ : Hid (z = κ k) := hz
        clear hz
        by_cases h3 : z = 3
        · subst h3
          go_wp2_with (first
            | (refine wpList_load_seg rfl 37 (.tmp 18) rfl _ _ rfl (fld 3) _ ?_ Try.underlying37 rfl ?_ ?_; (exact HS.out); (kernel_rfl); (simp only [fld, Act.put, List.setIfInBounds_toArray, List.set_cons_succ, List.set_cons_zero])))
          go_roundw
          case rel => exact ⟨k + 1, by omega, by go_num, fun j hj => by
            by_cases e : j = k
            · rw [e]; exact HZ.out.symm
            · exact HA.out j (by omega), by have := hb.size; exact hb.alloc (by omega) _⟩
          case measure => simp [intOf]; omega
        · go_wp2_with (first
            | (refine wpList_load_seg rfl 37 (.tmp 18) rfl _ _ rfl (fld z) _ ?_ Try.underlying37 rfl ?_ ?_; (exact HS.out); (kernel_rfl); (simp only [fld, Act.put, List.setIfInBounds_toArray, List.set_cons_succ, List.set_cons_zero])))
          go_ret
          refine ⟨ret_bool ?_, ?_⟩
          · rw [allVar_false k hlt (by rw [← HZ.out]; exact h3), Bool.and_false]
          · have := hb.size; exact hb.alloc (by omega) _
      · go_wp2
        go_ret
        have e : k = n := by omega
        refine ⟨ret_bool ?_, hb⟩
        rw [allVar_true (fun i hi => HA.out i (by omega)), Bool.and_true]
        exact (decide_eq_true (by omega)).symm

theorem zzalone_any (s g n : Nat) (κ : Nat → Int) (w : World) (hn : n ≤ 65537) (hs : s < w.heap.size) (hc : w.cell? ⟨s, 0, none⟩ = some (.slice (some ⟨g, 0, none⟩) n n)) (hr : w.rowIs g 37 (n * 8) (row κ)) :
    Calls Try.prog 10 #[.pointer (some ⟨s, 0, none⟩)] w fun e w' => e = .returned (.bool (decide (0 < n) && allVar κ n)) ∧ Below w.heap.size w w' := by
  go_enter Try.func10, Try.ntmps10
  go_wp2_with fail
  refine (alone_any s g n κ w hn hs hc hr).mono ?_
  rintro e w' ⟨rfl, hb⟩
  go_wp2
  go_ret
  exact ⟨rfl, hb⟩
end Go.Proofs.Qxb6612210a
