import Derived.Test.Qxb6609493aWalkA
namespace Go.Proofs.Qxb6609493a
open Go.RowKit Plain
set_option linter.unusedVariables false

def ov (o0 o1 : List UInt8) (k : Nat) : List UInt8 := if k = 0 then o0 else o1

theorem nst_at {w : World} {g : Nat} {l0 l1 : Value} {o0 o1 : List UInt8} {c : Int} (h : w.heap[g]? = some (.cells (nst l0 l1 o0 o1 c) 54)) (h0 : o0.length = 20) (k : Nat) (hk : k < 2) :
    Seg w g (2 + k * 20) (bv (ov o0 o1 k)) := by
  match k, hk with
  | 0, _ => exact nst_0 h
  | 1, _ => exact nst_1 h h0

theorem Try.eqg51 : Try.prog.eqGuardType Try.prog.depth 51 = false := by kernel_rfl
theorem Try.info5 : (Try.prog.info? 5).map (·.size) = some 1 := by kernel_rfl

/-- What the tail of 'offer' carries along: the row of the 'nearest', the box of the offset, all else below as it was. -/
structure Tl (w : World) (g : Nat) (x : List UInt8) (row : Array Value) (wi : World) : Prop where
  row : wi.heap[g]? = some (.cells row 54 (0, 0))
  box : wi.heap[w.heap.size]? = some (.cells (bv x) 51)
  below : Below g w wi
  lt : g < w.heap.size

namespace Tl
variable {w wi w2 : World} {g : Nat} {x : List UInt8} {row : Array Value}
theorem size (h : Tl w g x row wi) : w.heap.size < wi.heap.size := (Array.getElem?_eq_some_iff.1 h.box).1
theorem later (h : Tl w g x row wi) (hb : Below wi.heap.size wi w2) : Tl w g x row w2 :=
  ⟨(hb.block _ (by have := h.size; have := h.lt; omega)).trans h.row, (hb.block _ h.size).trans h.box, h.below.trans (hb.mono (by have := h.size; have := h.lt; omega)), h.lt⟩
theorem setRow (h : Tl w g x row wi) (cs : Array Value) : Tl w g x cs (wi.setRow g cs) :=
  ⟨setRow_heap _ _ _ _ _ _ h.row, (setRow_other _ _ _ _ (by have := h.lt; omega)).trans h.box,
   h.below.trans ⟨rfl, rfl, rfl, by simp, fun k hk => setRow_other _ _ _ _ (by omega)⟩, h.lt⟩
theorem setCell (h : Tl w g x row wi) (i : Nat) (v : Value) (hi : i < row.size) : Tl w g x (over row i #[v]) (wi.setCell ⟨g, i, none⟩ v) := by
  rw [setCell_eq_setRow _ _ _ _ _ _ _ h.row, set_over _ _ _ hi]
  exact h.setRow _
theorem drew (h : Tl w g x row wi) : Tl w g x row wi.drew := ⟨h.row, h.box, h.below.drew, h.lt⟩
theorem cell (h : Tl w g x row wi) (i : Nat) : wi.cell? ⟨g, i, none⟩ = row[i]? := cell_of_row _ _ _ _ _ _ h.row
theorem frozen (h : Tl w g x row wi) (i : Nat) : wi.frozen? ⟨g, i, none⟩ = false := frozen_of_row _ _ _ _ _ h.row
theorem cells {row' : Array Value} (h : Tl w g x row wi) (e : row = row') : Tl w g x row' wi := e ▸ h
end Tl

section
variable {l0 l1 : Value} {o0 o1 : List UInt8} {c : Int}
theorem nst_getc (h0 : o0.length = 20) (h1 : o1.length = 20) : (nst l0 l1 o0 o1 c)[42]? = some (.int .i64 c) := by
  rw [nst, Array.getElem?_append_right (by simp [bv_size, h0]), Array.getElem?_append_right (by simp [bv_size, h0, h1])]
  simp [bv_size, h0, h1]
theorem nst_get0 : (nst l0 l1 o0 o1 c)[0]? = some l0 := by
  rw [nst, Array.append_assoc, Array.getElem?_append_left (by simp)]; rfl
theorem nst_get1 : (nst l0 l1 o0 o1 c)[1]? = some l1 := by
  rw [nst, Array.append_assoc, Array.getElem?_append_left (by simp)]; rfl
theorem nst_setc (c' : Int) (h0 : o0.length = 20) (h1 : o1.length = 20) : over (nst l0 l1 o0 o1 c) 42 #[.int .i64 c'] = nst l0 l1 o0 o1 c' := by
  have e : ∀ c, nst l0 l1 o0 o1 c = (#[l0, l1] ++ bv o0 ++ bv o1) ++ #[.int .i64 c] ++ #[] := by intro c; simp [nst, Array.append_assoc]
  have hs : ((#[l0, l1] ++ bv o0) ++ bv o1).size = 42 := by simp [bv_size, h0, h1]
  rw [e, e, ← hs]
  exact over_mid _ _ _ _ rfl
theorem nst_set0 (l : Value) : over (nst l0 l1 o0 o1 c) 0 #[l] = nst l l1 o0 o1 c := by
  have e : ∀ l, nst l l1 o0 o1 c = #[] ++ #[l] ++ (#[l1] ++ bv o0 ++ (bv o1 ++ #[.int .i64 c])) := by
    intro l; apply Array.ext'; simp [nst]
  rw [e, e]
  exact over_mid #[] _ _ _ rfl
theorem nst_set1 (l : Value) : over (nst l0 l1 o0 o1 c) 1 #[l] = nst l0 l o0 o1 c := by
  have e : ∀ l, nst l0 l o0 o1 c = #[l0] ++ #[l] ++ (bv o0 ++ (bv o1 ++ #[.int .i64 c])) := by
    intro l; apply Array.ext'; simp [nst]
  rw [e, e]
  exact over_mid #[l0] _ _ _ rfl
theorem nst_seto0 (o : List UInt8) (h : o.length = o0.length) : over (nst l0 l1 o0 o1 c) 2 (bv o) = nst l0 l1 o o1 c := by
  unfold nst
  exact over_mid #[l0, l1] _ _ _ (by rw [bv_size, bv_size, h])
theorem nst_seto1 (o : List UInt8) (h0 : o0.length = 20) (h : o.length = o1.length) : over (nst l0 l1 o0 o1 c) 22 (bv o) = nst l0 l1 o0 o c := by
  have e : ∀ o, nst l0 l1 o0 o c = (#[l0, l1] ++ bv o0) ++ bv o ++ #[.int .i64 c] := by intro o; simp [nst, Array.append_assoc]
  have hs : (#[l0, l1] ++ bv o0).size = 22 := by simp [bv_size, h0]
  rw [e, e, ← hs]
  exact over_mid _ _ _ _ (by rw [bv_size, bv_size, h])
end

theorem one_ptr (p : Option Addr) : (#[Value.pointer p].all fun v => v.oneCell') = true := by simp [Value.oneCell']
theorem Try.info49 : (Try.prog.info? 49).map (·.size) = some 1 := by kernel_rfl

namespace Tl
variable {w wi : World} {g : Nat} {x : List UInt8} {row : Array Value}
/-- copy of nothing -/
theorem copy0 (h : Tl w g x row wi) (T elem : TypeId) (size : Nat) (hu : Try.prog.underlying T = some (.slice elem)) (hs : (Try.prog.info? elem).map (·.size) = some size) (o dCap o2 sLen sCap : Nat) (ho : o ≤ row.size) :
    ∃ w4, (Builtin.copy_ #[T, T] 3 #[.slice (some ⟨g, o, none⟩) 0 dCap, .slice (some ⟨g, o2, none⟩) sLen sCap]).run Try.prog wi.drew = .ok (.int .i64 0) w4 ∧ Tl w g x row w4 := by
  refine ⟨_, ?_, h.drew⟩
  have := run_copy_seg (P := Try.prog) wi.drew T T 3 elem size g o 0 dCap g o2 sLen sCap row #[] 54 hu hs h.drew.row (by simp) (fun j hj => absurd hj (Nat.not_lt_zero _)) (by simpa using ho) (by simp)
  rw [over_nil, setRow_self _ _ _ _ _ h.drew.row] at this
  rw [this]
  simp [goInt]
/-- copy of one element -/
theorem copy1 (h : Tl w g x row wi) (T elem : TypeId) (size : Nat) (hu : Try.prog.underlying T = some (.slice elem)) (hs : (Try.prog.info? elem).map (·.size) = some size) (o dCap o2 sLen sCap : Nat) (cs : Array Value) (hc : cs.size = size) (hsl : 1 ≤ sLen)
    (hsrc : Seg wi g o2 cs) (hfit : o + cs.size ≤ row.size) (h1 : cs.all (·.oneCell') = true) :
    ∃ w4, (Builtin.copy_ #[T, T] 3 #[.slice (some ⟨g, o, none⟩) 1 dCap, .slice (some ⟨g, o2, none⟩) sLen sCap]).run Try.prog wi.drew = .ok (.int .i64 1) w4 ∧ Tl w g x (over row o cs) w4 := by
  refine ⟨_, ?_, h.drew.setRow _⟩
  have hm : Nat.min sLen 1 = 1 := by simp [Nat.min_def]; omega
  have := run_copy_seg (P := Try.prog) wi.drew T T 3 elem size g o 1 dCap g o2 sLen sCap row cs 54 hu hs h.drew.row (by rw [hm, hc]; omega) hsrc hfit h1
  rw [this, hm]
  rfl
end Tl

theorem setCells_row {w : World} {g off : Nat} {cur : Array Value} {t : TypeId} (x : List UInt8) (hg : w.heap[g]? = some (.cells cur t (0, 0))) (hx : x.length = 20) (ho : off + 20 ≤ cur.size) :
    w.there g off 20 ∧ w.setCells g off (bv x).toList = w.setRow g (over cur off (bv x)) := by
  have ht : w.there g off 20 := fun j hj => ⟨by rw [cell_of_row w g _ _ _ _ hg, Array.getElem?_eq_getElem (by omega)]; rfl, frozen_of_row _ _ _ _ _ hg⟩
  refine ⟨ht, ?_⟩
  have hi : (Try.prog.info? 51).map (·.size) = some (bv x).size := by rw [bv_size, hx]; exact Try.info51
  have e1 := run_storeVar_mid (P := Try.prog) w g off 51 (bv x) (by rw [bv_size, hx]; exact ht) hi (bv_one x)
  have e2 := run_storeVar_seg (P := Try.prog) w g off t 51 cur (bv x) hg hi (by rw [bv_size, hx]; exact ho) (bv_one x)
  rw [e1] at e2
  injection e2

namespace Tl
variable {w wi : World} {g : Nat} {x : List UInt8} {row : Array Value}
/-- What the last statement ('s.links[i], s.offsets[i] = l, offset') wants of the world, and what it leaves. -/
theorem put (h : Tl w g x row wi) (hx : x.length = 20) (k off : Nat) (v : Value) (hk : k < row.size) (ho : off + 20 ≤ row.size) (hsz : (over row k #[v]).size = row.size) :
    (wi.drew.rangeAt w.heap.size 0 (bv x).toList ∧ wi.drew.there g off 20) ∧
    ((wi.drew.setCell ⟨g, k, none⟩ v).rangeAt w.heap.size 0 (bv x).toList ∧ (wi.drew.setCell ⟨g, k, none⟩ v).there g off 20) ∧
    (((wi.drew.setCell ⟨g, k, none⟩ v).setCells g off (bv x).toList).rangeAt w.heap.size 0 (bv x).toList ∧ ((wi.drew.setCell ⟨g, k, none⟩ v).setCells g off (bv x).toList).there g off 20) ∧
    Tl w g x (over (over row k #[v]) off (bv x)) ((wi.drew.setCell ⟨g, k, none⟩ v).setCells g off (bv x).toList) := by
  have h1 := h.drew
  have h2 := h1.setCell k v hk
  obtain ⟨t1, -⟩ := setCells_row x h1.row hx ho
  obtain ⟨t2, e2⟩ := setCells_row (off := off) x h2.row hx (by rw [hsz]; exact ho)
  have h3 := h2.setRow (over (over row k #[v]) off (bv x))
  rw [← e2] at h3
  have r : ∀ {wj : World} {row' : Array Value}, Tl w g x row' wj → wj.rangeAt w.heap.size 0 (bv x).toList := fun hj => by
    intro j u hu
    rw [cell_of_row _ _ _ _ _ _ hj.box, Nat.zero_add]
    simpa using hu
  exact ⟨⟨r h1, t1⟩, ⟨r h2, t2⟩, ⟨r h3, World.there_setCells t2 _ _ _⟩, h3⟩
end Tl

theorem over_size (cur : Array Value) (o : Nat) (vs : Array Value) (h : o + vs.size ≤ cur.size) : (over cur o vs).size = cur.size := by
  unfold over
  simp
  omega

theorem range_bv {w : World} {g : Nat} {t : TypeId} {x : List UInt8} (h : w.heap[g]? = some (.cells (bv x) t (0, 0))) : w.rangeAt g 0 (bv x).toList := by
  intro j v hv
  rw [cell_of_row w g _ _ _ _ h, Nat.zero_add]
  simpa using hv

set_option maxRecDepth 10000 in
set_option maxHeartbeats 4000000 in
theorem offer_core (la p0 p1 : Option Addr) (o0 o1 x : List UInt8) (c K : Nat) (g : Nat) (w : World) (h0 : o0.length = 20) (h1 : o1.length = 20) (hx : x.length = 20)
    (hg : w.heap[g]? = some (.cells (nst (.pointer p0) (.pointer p1) o0 o1 c) 54)) (hc : c ≤ 2) (hK : K ≤ c) (hlo : ∀ j, j < K → cb (ov o0 o1 j) x < 0) (hhi : K < c → 0 ≤ cb (ov o0 o1 K) x) :
    Calls Try.prog 23 #[.pointer (some ⟨g, 0, none⟩), .pointer la, .agg (bv x)] w fun e w' => e = .returned (.tuple #[]) ∧
      (∃ p0 p1, w'.heap[g]? = some (.cells (nst (.pointer p0) (.pointer p1) (offer ⟨c, o0, o1⟩ x).o0 (offer ⟨c, o0, o1⟩ x).o1 (offer ⟨c, o0, o1⟩ x).c) 54)) ∧ Below g w w' := by
  have hgs : g < w.heap.size := (Array.getElem?_eq_some_iff.1 hg).1
  go_enter Try.func23, Try.ntmps23
  go_wp2
  have HLO : Hid (∀ j, j < K → cb (ov o0 o1 j) x < 0) := hlo
  have HHI : Hid (K < c → 0 ≤ cb (ov o0 o1 K) x) := hhi
  clear hlo hhi
  go_loopw [6] (fun i wr => ∃ k : Nat, k ≤ K ∧ i = .int .i64 k ∧ Below (w.heap.size + 1) (w.alloc (.cells (bv x) 51)) wr) (fun i _ => K - (intOf i).toNat)
  case atStart => exact ⟨0, by omega, rfl, Below.refl _ _⟩
  case round =>
    obtain ⟨k, hk, rfl, hbl⟩ := hrel
    have hsz : w.heap.size + 1 ≤ wr.heap.size := by have := hbl.size; simpa using this
    have hgr : wr.heap[g]? = some (.cells (nst (.pointer p0) (.pointer p1) o0 o1 c) 54) := (hbl.block g (by omega)).trans ((Below.heap_alloc _ _ _ hgs).trans hg)
    have hxr : wr.heap[w.heap.size]? = some (.cells (bv x) 51) := (hbl.block _ (by omega)).trans (heap_alloc_new _ _)
    have hn := later_some wr
    have kg : ∀ e : Later wr, e.x.heap[g]? = some (.cells (nst (.pointer p0) (.pointer p1) o0 o1 c) 54) := fun e => (e.h.block _ (by omega)).trans hgr
    have hcc : ∀ e : Later wr, e.x.cell? ⟨g, 42, none⟩ = some (.int .i64 c) := fun e => nst_c (kg e) h0 h1
    have s2 : ∀ e : Later wr, Seg e.x w.heap.size 0 (bv x) := fun e => seg_row ((e.h.block _ (by omega)).trans hxr)
    have HG : Hid (∀ e : Later wr, e.x.heap[g]? = some (.cells (nst (.pointer p0) (.pointer p1) o0 o1 c) 54)) := kg
    have HS2 : Hid (∀ e : Later wr, Seg e.x w.heap.size 0 (bv x)) := s2
    have HGR : Hid (wr.heap[g]? = some (.cells (nst (.pointer p0) (.pointer p1) o0 o1 c) 54)) := hgr
    have HG0 : Hid (w.heap[g]? = some (.cells (nst (.pointer p0) (.pointer p1) o0 o1 c) 54)) := hg
    have HXR : Hid (wr.heap[w.heap.size]? = some (.cells (bv x) 51)) := hxr
    clear kg s2 hgr hxr hg
    by_cases hkK : k < K
    · have hkc : decide ((k : Int) < (c : Int)) = true := by simp; omega
      have hk2 : k < 2 := by omega
      have hkc' : (k : Int) < (c : Int) := by omega
      have hcmp : cb (ov o0 o1 k) x < 0 := HLO.out k hkK
      have s1 : Hid (∀ e : Later wr, Seg e.x g (2 + k * 20) (bv (ov o0 o1 k))) := fun e => nst_at (HG.out e) h0 k hk2
      have hol : (ov o0 o1 k).length = 20 := by unfold ov; split <;> assumption
      go_wp2
      refine wp_region_later Try.follows (by kernel_rfl) ?_
      repeat (first
        | (go_big_quiet_want; refine later_load 51 (.tmp 5) rfl _ _ rfl _ _ HS2.out Try.underlying51 rfl (by rw [Try.info51, bv_size, hx]) ?_; simp only [Act.put, List.setIfInBounds_toArray, List.set_cons_succ, List.set_cons_zero]; go_big_quiet_on)
        | (go_big_quiet_want; refine later_load 51 (.tmp 18) rfl _ _ rfl _ _ s1.out Try.underlying51 rfl (by rw [Try.info51, bv_size, hol]) ?_; simp only [Act.put, List.setIfInBounds_toArray, List.set_cons_succ, List.set_cons_zero]; go_big_quiet_on)
        | go_big_quiet_step ((go_at_call 28; exact later_call _ (cmp_any _ x _ hol hx))))
      refine wpQuiet_nil ?_
      rintro ⟨w1, hb1⟩; dsimp only
      clear hcc hn
      go_wp2
      go_roundw
      case rel => exact ⟨k + 1, by omega, by go_num, hbl.trans (hb1.mono (by omega))⟩
      case measure => simp [intOf]; omega
    · obtain rfl : k = K := by omega
      by_cases hkc : k < c
      · have hk2 : k < 2 := by omega
        have hkc' : (k : Int) < (c : Int) := by omega
        have hcmp : ¬ cb (ov o0 o1 k) x < 0 := by have := HHI.out hkc; omega
        have hcmp' : decide (cb (ov o0 o1 k) x < 0) = false := by simpa using hcmp
        have s1 : Hid (∀ e : Later wr, Seg e.x g (2 + k * 20) (bv (ov o0 o1 k))) := fun e => nst_at (HG.out e) h0 k hk2
        have hol : (ov o0 o1 k).length = 20 := by unfold ov; split <;> assumption
        go_wp2
        refine wp_region_later Try.follows (by kernel_rfl) ?_
        repeat (first
          | (go_big_quiet_want; refine later_load 51 (.tmp 5) rfl _ _ rfl _ _ HS2.out Try.underlying51 rfl (by rw [Try.info51, bv_size, hx]) ?_; simp only [Act.put, List.setIfInBounds_toArray, List.set_cons_succ, List.set_cons_zero]; go_big_quiet_on)
          | (go_big_quiet_want; refine later_load 51 (.tmp 18) rfl _ _ rfl _ _ s1.out Try.underlying51 rfl (by rw [Try.info51, bv_size, hol]) ?_; simp only [Act.put, List.setIfInBounds_toArray, List.set_cons_succ, List.set_cons_zero]; go_big_quiet_on)
          | go_big_quiet_step ((go_at_call 28; exact later_call _ (cmp_any _ x _ hol hx))))
        refine wpQuiet_nil ?_
        rintro ⟨w1, hb1⟩; dsimp only
        go_wp2
        have HT : Hid (Tl w g x (nst (.pointer p0) (.pointer p1) o0 o1 c) w1) := Tl.later ⟨HGR.out, HXR.out, ((Below.refl _ _).alloc (by omega) _).trans (hbl.mono (by omega)), hgs⟩ hb1
        clear hcc hn HG HS2 HGR HXR hb1 hbl hkK hcmp hcmp' s1
        have hn := later_some w1
        have hcc : ∀ e : Later w1, e.x.cell? ⟨g, 42, none⟩ = some (.int .i64 c) := fun e => ((HT.out.later e.h).cell 42).trans (nst_getc h0 h1)
        have HS2 : Hid (∀ e : Later w1, Seg e.x w.heap.size 0 (bv x)) := fun e => seg_row (HT.out.later e.h).box
        have s1 : Hid (∀ e : Later w1, Seg e.x g (2 + k * 20) (bv (ov o0 o1 k))) := fun e => nst_at (HT.out.later e.h).row h0 k hk2
        have hnlt := HHI.out hkc
        have HHI2 : Hid (0 ≤ cb (ov o0 o1 k) x) := hnlt
        clear hnlt HHI
        have heg := Try.eqg51
        by_cases hoe : ov o0 o1 k = x
        · have heq : ∀ w, (Op.equalIn 10000 51 (.agg (bv (ov o0 o1 k))) (.agg (bv x))).run Try.prog w = .ok true w := fun w => by
            rw [equalIn_bv (P := Try.prog) w 9998 51 5 20 Try.underlying51 Try.underlying5 Try.info5 _ _ hol hx]; simp [hoe]
          have HOE : Hid (ov o0 o1 k = x) := hoe
          clear hoe
          have hk2' : ((k : Int) == 2) = false := by rw [beq_eq_false_iff_ne]; omega
          refine wp_region_later Try.follows (by kernel_rfl) ?_
          repeat (first
            | (go_big_quiet_want; refine later_load 51 (.tmp 5) rfl _ _ rfl _ _ HS2.out Try.underlying51 rfl (by rw [Try.info51, bv_size, hx]) ?_; simp only [Act.put, List.setIfInBounds_toArray, List.set_cons_succ, List.set_cons_zero]; go_big_quiet_on)
            | (go_big_quiet_want; refine later_load 51 (.tmp 40) rfl _ _ rfl _ _ s1.out Try.underlying51 rfl (by rw [Try.info51, bv_size, hol]) ?_; simp only [Act.put, List.setIfInBounds_toArray, List.set_cons_succ, List.set_cons_zero]; go_big_quiet_on)
            | go_big_quiet_step (fail))
          refine wpQuiet_nil ?_
          rintro ⟨w2, hb2⟩; dsimp only
          have HT2 := HT.out.later hb2
          clear hcc hn
          go_wp2
          refine bodyPost_ret (results_none rfl _ _ _) rfl ?_
          have ho : offer ⟨c, o0, o1⟩ x = ⟨c, o0, o1⟩ := by
            have hk01 : k = 0 ∨ k = 1 := by omega
            rcases hk01 with rfl | rfl
            · have e0 : o0 = x := HOE.out
              have c0 : ¬ c = 0 := by omega
              simp [offer, c0, e0, lt_irrefl]
            · have e0 : o1 = x := HOE.out
              have l0 := (cb_neg _ _).1 (HLO.out 0 (by omega))
              have c0 : ¬ c = 0 := by omega
              have c1 : ¬ c = 1 := by omega
              simp [offer, c0, c1, show lt o0 x = true from l0, e0, lt_irrefl]
          rw [ho]
          exact ⟨rfl, ⟨_, _, HT2.row⟩, HT2.below⟩
        · have heq : ∀ w, (Op.equalIn 10000 51 (.agg (bv (ov o0 o1 k))) (.agg (bv x))).run Try.prog w = .ok false w := fun w => by
            rw [equalIn_bv (P := Try.prog) w 9998 51 5 20 Try.underlying51 Try.underlying5 Try.info5 _ _ hol hx]; simp [hoe]
          have HOE : Hid (¬ ov o0 o1 k = x) := hoe
          clear hoe
          have hk2' : ((k : Int) == 2) = false := by rw [beq_eq_false_iff_ne]; omega
          refine wp_region_later Try.follows (by kernel_rfl) ?_
          repeat (first
            | (go_big_quiet_want; refine later_load 51 (.tmp 5) rfl _ _ rfl _ _ HS2.out Try.underlying51 rfl (by rw [Try.info51, bv_size, hx]) ?_; simp only [Act.put, List.setIfInBounds_toArray, List.set_cons_succ, List.set_cons_zero]; go_big_quiet_on)
            | (go_big_quiet_want; refine later_load 51 (.tmp 40) rfl _ _ rfl _ _ s1.out Try.underlying51 rfl (by rw [Try.info51, bv_size, hol]) ?_; simp only [Act.put, List.setIfInBounds_toArray, List.set_cons_succ, List.set_cons_zero]; go_big_quiet_on)
            | go_big_quiet_step (fail))
          refine wpQuiet_nil ?_
          rintro ⟨w2, hb2⟩; dsimp only
          have HT2a := HT.out.later hb2
          have HT2 : Hid (Tl w g x (nst (.pointer p0) (.pointer p1) o0 o1 c) w2) := HT2a
          clear hcc hn HT HS2 s1 hb2 heq HT2a hk2'
          have h3 : (k = 0 ∧ c = 1) ∨ (k = 0 ∧ c = 2) ∨ (k = 1 ∧ c = 2) := by omega
          rcases h3 with ⟨rfl, rfl⟩ | ⟨rfl, rfl⟩ | ⟨rfl, rfl⟩
          · have hc2 : w2.cell? ⟨g, 42, none⟩ = some (.int .i64 1) := (HT2.out.cell 42).trans (nst_getc h0 h1)
            have hf2 : w2.frozen? ⟨g, 42, none⟩ = false := HT2.out.frozen 42
            go_wp2
            have HT3 : Hid (Tl w g x (nst (.pointer p0) (.pointer p1) o0 o1 2) (w2.setCell ⟨g, 42, none⟩ (.int .i64 2))) := (HT2.out.setCell 42 _ (by rw [nst_size h0 h1]; omega)).cells (nst_setc 2 h0 h1)
            generalize w2.setCell ⟨g, 42, none⟩ (.int .i64 2) = w3 at HT3 ⊢
            clear HT2 hc2 hf2
            have hc3 : w3.cell? ⟨g, 42, none⟩ = some (.int .i64 2) := (HT3.out.cell 42).trans (nst_getc h0 h1)
            have hw1 : IntKind.i64.wrap 1 = 1 := by decide
            have hw2 : IntKind.i64.wrap 2 = 2 := by decide
            obtain ⟨w4, hcp4, HT4'⟩ := HT3.out.copy1 70 49 1 Try.underlying70 Try.info49 1 1 0 2 2 #[.pointer p0] rfl (by omega) (fun j hj => by obtain rfl : j = 0 := (by simpa using hj); exact (HT3.out.cell 0).trans nst_get0) (by rw [nst_size h0 h1]; simp) (one_ptr p0)
            have HT4 : Hid _ := HT4'.cells (nst_set1 _)
            have hc4 : w4.cell? ⟨g, 42, none⟩ = some (.int .i64 2) := (HT4.out.cell 42).trans (nst_getc h0 h1)
            clear HT4'
            go_region_held3 (fun w' => w'.cell? ⟨g, 42, none⟩ = some (.int .i64 2)) (first | (simpa using hc3) | (simpa using hc4)) (fail)
            clear HT3 hc3 hcp4
            go_wp2
            obtain ⟨w5, hcp5, HT5'⟩ := HT4.out.copy1 87 51 20 Try.underlying87 Try.info51 22 1 2 2 2 (bv o0) (by rw [bv_size, h0]) (by omega) (nst_0 HT4.out.row) (by rw [nst_size h0 h1, bv_size, h0]; omega) (bv_one o0)
            have HT5 : Hid _ := HT5'.cells (nst_seto1 o0 h0 (h0.trans h1.symm))
            have hc5 : w5.cell? ⟨g, 42, none⟩ = some (.int .i64 2) := (HT5.out.cell 42).trans (nst_getc h0 h0)
            clear HT5'
            go_region_held3 (fun w' => w'.cell? ⟨g, 42, none⟩ = some (.int .i64 2)) (first | (simpa using hc4) | (simpa using hc5)) (fail)
            clear HT4 hc4 hcp5
            go_wp2
            obtain ⟨S1, S2, S3, HT6'⟩ := HT5.out.put hx 0 2 (.pointer la) (by rw [nst_size h0 h0]; omega) (by rw [nst_size h0 h0]; omega) (over_size _ _ _ (by rw [nst_size h0 h0]; simp))
            have HS1 : Hid _ := S1
            have HS2 : Hid _ := S2
            have HS3 : Hid _ := S3
            rw [nst_set0, nst_seto0 x (hx.trans h0.symm)] at HT6'
            have hlk : w5.cell? ⟨g, 0, none⟩ = some (.pointer p0) := (HT5.out.cell 0).trans nst_get0
            have HT6 : Hid _ := HT6'
            have hfk : w5.frozen? ⟨g, 0, none⟩ = false := HT5.out.frozen 0
            clear S1 S2 S3 HT6' HT5 hc5
            have hu51 := Try.underlying51
            have hi51 : (Try.prog.info? 51).map (·.size) = some (bv x).toList.length := by rw [Array.length_toList, bv_size, hx]; exact Try.info51
            have hlen : (bv x).toList.length = 20 := by rw [Array.length_toList, bv_size, hx]
            have hml : (List.map (fun y : UInt8 => Value.int .u8 (y.toNat : Int)) x).length = 20 := by rw [List.length_map, hx]
            have hone : ∀ v ∈ (bv x).toList, v.oneCell' = true := fun v hv => (Array.all_eq_true_iff_forall_mem.1 (bv_one x)) v (by simpa using hv)
            go_region_held3 (fun w' => w'.rangeAt w.heap.size 0 (bv x).toList ∧ w'.there g 2 20) (first | exact HS1.out | exact HS2.out | exact HS3.out) (fail)
            go_end0
            have ho : offer ⟨1, o0, o1⟩ x = ⟨2, x, o0⟩ := by have e : ¬ o0 = x := HOE.out; simp [offer, (by have h8 : 0 ≤ cb o0 x := HHI2.out; simp only [lt, decide_eq_false_iff_not]; omega : lt o0 x = false), e]
            rw [ho]
            exact ⟨rfl, ⟨_, _, HT6.out.row⟩, HT6.out.below⟩
          · have hc2 : w2.cell? ⟨g, 42, none⟩ = some (.int .i64 2) := (HT2.out.cell 42).trans (nst_getc h0 h1)
            have hf2 : w2.frozen? ⟨g, 42, none⟩ = false := HT2.out.frozen 42
            go_wp2
            have HT3 : Hid (Tl w g x (nst (.pointer p0) (.pointer p1) o0 o1 2) (w2.setCell ⟨g, 42, none⟩ (.int .i64 2))) := (HT2.out.setCell 42 _ (by rw [nst_size h0 h1]; omega)).cells (nst_setc 2 h0 h1)
            generalize w2.setCell ⟨g, 42, none⟩ (.int .i64 2) = w3 at HT3 ⊢
            clear HT2 hc2 hf2
            have hc3 : w3.cell? ⟨g, 42, none⟩ = some (.int .i64 2) := (HT3.out.cell 42).trans (nst_getc h0 h1)
            have hw1 : IntKind.i64.wrap 1 = 1 := by decide
            have hw2 : IntKind.i64.wrap 2 = 2 := by decide
            obtain ⟨w4, hcp4, HT4'⟩ := HT3.out.copy1 70 49 1 Try.underlying70 Try.info49 1 1 0 2 2 #[.pointer p0] rfl (by omega) (fun j hj => by obtain rfl : j = 0 := (by simpa using hj); exact (HT3.out.cell 0).trans nst_get0) (by rw [nst_size h0 h1]; simp) (one_ptr p0)
            have HT4 : Hid _ := HT4'.cells (nst_set1 _)
            have hc4 : w4.cell? ⟨g, 42, none⟩ = some (.int .i64 2) := (HT4.out.cell 42).trans (nst_getc h0 h1)
            clear HT4'
            go_region_held3 (fun w' => w'.cell? ⟨g, 42, none⟩ = some (.int .i64 2)) (first | (simpa using hc3) | (simpa using hc4)) (fail)
            clear HT3 hc3 hcp4
            go_wp2
            obtain ⟨w5, hcp5, HT5'⟩ := HT4.out.copy1 87 51 20 Try.underlying87 Try.info51 22 1 2 2 2 (bv o0) (by rw [bv_size, h0]) (by omega) (nst_0 HT4.out.row) (by rw [nst_size h0 h1, bv_size, h0]; omega) (bv_one o0)
            have HT5 : Hid _ := HT5'.cells (nst_seto1 o0 h0 (h0.trans h1.symm))
            have hc5 : w5.cell? ⟨g, 42, none⟩ = some (.int .i64 2) := (HT5.out.cell 42).trans (nst_getc h0 h0)
            clear HT5'
            go_region_held3 (fun w' => w'.cell? ⟨g, 42, none⟩ = some (.int .i64 2)) (first | (simpa using hc4) | (simpa using hc5)) (fail)
            clear HT4 hc4 hcp5
            go_wp2
            obtain ⟨S1, S2, S3, HT6'⟩ := HT5.out.put hx 0 2 (.pointer la) (by rw [nst_size h0 h0]; omega) (by rw [nst_size h0 h0]; omega) (over_size _ _ _ (by rw [nst_size h0 h0]; simp))
            have HS1 : Hid _ := S1
            have HS2 : Hid _ := S2
            have HS3 : Hid _ := S3
            rw [nst_set0, nst_seto0 x (hx.trans h0.symm)] at HT6'
            have hlk : w5.cell? ⟨g, 0, none⟩ = some (.pointer p0) := (HT5.out.cell 0).trans nst_get0
            have HT6 : Hid _ := HT6'
            have hfk : w5.frozen? ⟨g, 0, none⟩ = false := HT5.out.frozen 0
            clear S1 S2 S3 HT6' HT5 hc5
            have hu51 := Try.underlying51
            have hi51 : (Try.prog.info? 51).map (·.size) = some (bv x).toList.length := by rw [Array.length_toList, bv_size, hx]; exact Try.info51
            have hlen : (bv x).toList.length = 20 := by rw [Array.length_toList, bv_size, hx]
            have hml : (List.map (fun y : UInt8 => Value.int .u8 (y.toNat : Int)) x).length = 20 := by rw [List.length_map, hx]
            have hone : ∀ v ∈ (bv x).toList, v.oneCell' = true := fun v hv => (Array.all_eq_true_iff_forall_mem.1 (bv_one x)) v (by simpa using hv)
            go_region_held3 (fun w' => w'.rangeAt w.heap.size 0 (bv x).toList ∧ w'.there g 2 20) (first | exact HS1.out | exact HS2.out | exact HS3.out) (fail)
            go_end0
            have ho : offer ⟨2, o0, o1⟩ x = ⟨2, x, o0⟩ := by have e : ¬ o0 = x := HOE.out; simp [offer, (by have h8 : 0 ≤ cb o0 x := HHI2.out; simp only [lt, decide_eq_false_iff_not]; omega : lt o0 x = false), e]
            rw [ho]
            exact ⟨rfl, ⟨_, _, HT6.out.row⟩, HT6.out.below⟩
          · have hc2 : w2.cell? ⟨g, 42, none⟩ = some (.int .i64 2) := (HT2.out.cell 42).trans (nst_getc h0 h1)
            have hf2 : w2.frozen? ⟨g, 42, none⟩ = false := HT2.out.frozen 42
            go_wp2
            have HT3 : Hid (Tl w g x (nst (.pointer p0) (.pointer p1) o0 o1 2) (w2.setCell ⟨g, 42, none⟩ (.int .i64 2))) := (HT2.out.setCell 42 _ (by rw [nst_size h0 h1]; omega)).cells (nst_setc 2 h0 h1)
            generalize w2.setCell ⟨g, 42, none⟩ (.int .i64 2) = w3 at HT3 ⊢
            clear HT2 hc2 hf2
            have hc3 : w3.cell? ⟨g, 42, none⟩ = some (.int .i64 2) := (HT3.out.cell 42).trans (nst_getc h0 h1)
            have hw1 : IntKind.i64.wrap 1 = 1 := by decide
            have hw2 : IntKind.i64.wrap 2 = 2 := by decide
            obtain ⟨w4, hcp4, HT4'⟩ := HT3.out.copy0 70 49 1 Try.underlying70 Try.info49 0 0 1 1 1 (by rw [nst_size h0 h1]; omega)
            have HT4 : Hid _ := HT4'
            have hc4 : w4.cell? ⟨g, 42, none⟩ = some (.int .i64 2) := (HT4.out.cell 42).trans (nst_getc h0 h1)
            clear HT4'
            go_region_held3 (fun w' => w'.cell? ⟨g, 42, none⟩ = some (.int .i64 2)) (first | (simpa using hc3) | (simpa using hc4)) (fail)
            clear HT3 hc3 hcp4
            go_wp2
            obtain ⟨w5, hcp5, HT5'⟩ := HT4.out.copy0 87 51 20 Try.underlying87 Try.info51 2 0 22 1 1 (by rw [nst_size h0 h1]; omega)
            have HT5 : Hid _ := HT5'
            have hc5 : w5.cell? ⟨g, 42, none⟩ = some (.int .i64 2) := (HT5.out.cell 42).trans (nst_getc h0 h1)
            clear HT5'
            go_region_held3 (fun w' => w'.cell? ⟨g, 42, none⟩ = some (.int .i64 2)) (first | (simpa using hc4) | (simpa using hc5)) (fail)
            clear HT4 hc4 hcp5
            go_wp2
            obtain ⟨S1, S2, S3, HT6'⟩ := HT5.out.put hx 1 22 (.pointer la) (by rw [nst_size h0 h1]; omega) (by rw [nst_size h0 h1]; omega) (over_size _ _ _ (by rw [nst_size h0 h1]; simp))
            have HS1 : Hid _ := S1
            have HS2 : Hid _ := S2
            have HS3 : Hid _ := S3
            rw [nst_set1, nst_seto1 x h0 (hx.trans h1.symm)] at HT6'
            have hlk : w5.cell? ⟨g, 1, none⟩ = some (.pointer p1) := (HT5.out.cell 1).trans nst_get1
            have HT6 : Hid _ := HT6'
            have hfk : w5.frozen? ⟨g, 1, none⟩ = false := HT5.out.frozen 1
            clear S1 S2 S3 HT6' HT5 hc5
            have hu51 := Try.underlying51
            have hi51 : (Try.prog.info? 51).map (·.size) = some (bv x).toList.length := by rw [Array.length_toList, bv_size, hx]; exact Try.info51
            have hlen : (bv x).toList.length = 20 := by rw [Array.length_toList, bv_size, hx]
            have hml : (List.map (fun y : UInt8 => Value.int .u8 (y.toNat : Int)) x).length = 20 := by rw [List.length_map, hx]
            have hone : ∀ v ∈ (bv x).toList, v.oneCell' = true := fun v hv => (Array.all_eq_true_iff_forall_mem.1 (bv_one x)) v (by simpa using hv)
            go_region_held3 (fun w' => w'.rangeAt w.heap.size 0 (bv x).toList ∧ w'.there g 22 20) (first | exact HS1.out | exact HS2.out | exact HS3.out) (fail)
            go_end0
            have ho : offer ⟨2, o0, o1⟩ x = ⟨2, o0, x⟩ := by have e : ¬ o1 = x := HOE.out; have l0 := (cb_neg _ _).1 (HLO.out 0 (by omega)); simp [offer, show lt o0 x = true from l0, (by have h8 : 0 ≤ cb o1 x := HHI2.out; simp only [lt, decide_eq_false_iff_not]; omega : lt o1 x = false), e]
            rw [ho]
            exact ⟨rfl, ⟨_, _, HT6.out.row⟩, HT6.out.below⟩
      · obtain rfl : c = k := by omega
        have hkc' : decide ((c : Int) < (c : Int)) = false := by simp
        go_wp2
        refine wp_region_later Try.follows (by kernel_rfl) ?_
        repeat (go_big_quiet_step (fail))
        refine wpQuiet_nil ?_
        rintro ⟨w1, hb1⟩; dsimp only
        have HT : Hid (Tl w g x (nst (.pointer p0) (.pointer p1) o0 o1 c) w1) := Tl.later ⟨HGR.out, HXR.out, ((Below.refl _ _).alloc (by omega) _).trans (hbl.mono (by omega)), hgs⟩ hb1
        clear hcc hn HG HS2 HGR HXR hb1 hbl hkK
        have hn := later_some w1
        have hcc : ∀ e : Later w1, e.x.cell? ⟨g, 42, none⟩ = some (.int .i64 c) := fun e => ((HT.out.later e.h).cell 42).trans (nst_getc h0 h1)
        have h3 : c = 0 ∨ c = 1 ∨ c = 2 := by omega
        rcases h3 with rfl | rfl | rfl
        · go_wp2
          refine wp_region_later Try.follows (by kernel_rfl) ?_
          repeat (go_big_quiet_step (fail))
          refine wpQuiet_nil ?_
          rintro ⟨w2, hb2⟩; dsimp only
          have HT2 : Hid (Tl w g x (nst (.pointer p0) (.pointer p1) o0 o1 0) w2) := HT.out.later hb2
          clear HT hb2 hcc hn
          have hc2 : w2.cell? ⟨g, 42, none⟩ = some (.int .i64 0) := (HT2.out.cell 42).trans (nst_getc h0 h1)
          have hf2 : w2.frozen? ⟨g, 42, none⟩ = false := HT2.out.frozen 42
          go_wp2
          have HT3 : Hid (Tl w g x (nst (.pointer p0) (.pointer p1) o0 o1 1) (w2.setCell ⟨g, 42, none⟩ (.int .i64 1))) := (HT2.out.setCell 42 _ (by rw [nst_size h0 h1]; omega)).cells (nst_setc 1 h0 h1)
          generalize w2.setCell ⟨g, 42, none⟩ (.int .i64 1) = w3 at HT3 ⊢
          clear HT2 hc2 hf2
          have hc3 : w3.cell? ⟨g, 42, none⟩ = some (.int .i64 1) := (HT3.out.cell 42).trans (nst_getc h0 h1)
          have hw1 : IntKind.i64.wrap 1 = 1 := by decide
          have hw2 : IntKind.i64.wrap 2 = 2 := by decide
          obtain ⟨w4, hcp4, HT4'⟩ := HT3.out.copy0 70 49 1 Try.underlying70 Try.info49 1 1 0 2 2 (by rw [nst_size h0 h1]; omega)
          have HT4 : Hid _ := HT4'
          have hc4 : w4.cell? ⟨g, 42, none⟩ = some (.int .i64 1) := (HT4.out.cell 42).trans (nst_getc h0 h1)
          clear HT4'
          go_region_held3 (fun w' => w'.cell? ⟨g, 42, none⟩ = some (.int .i64 1)) (first | (simpa using hc3) | (simpa using hc4)) (fail)
          clear HT3 hc3 hcp4
          go_wp2
          obtain ⟨w5, hcp5, HT5'⟩ := HT4.out.copy0 87 51 20 Try.underlying87 Try.info51 22 1 2 2 2 (by rw [nst_size h0 h1]; omega)
          have HT5 : Hid _ := HT5'
          have hc5 : w5.cell? ⟨g, 42, none⟩ = some (.int .i64 1) := (HT5.out.cell 42).trans (nst_getc h0 h1)
          clear HT5'
          go_region_held3 (fun w' => w'.cell? ⟨g, 42, none⟩ = some (.int .i64 1)) (first | (simpa using hc4) | (simpa using hc5)) (fail)
          clear HT4 hc4 hcp5
          go_wp2
          obtain ⟨S1, S2, S3, HT6'⟩ := HT5.out.put hx 0 2 (.pointer la) (by rw [nst_size h0 h1]; omega) (by rw [nst_size h0 h1]; omega) (over_size _ _ _ (by rw [nst_size h0 h1]; simp))
          have HS1 : Hid _ := S1
          have HS2 : Hid _ := S2
          have HS3 : Hid _ := S3
          rw [nst_set0, nst_seto0 x (hx.trans h0.symm)] at HT6'
          have hlk : w5.cell? ⟨g, 0, none⟩ = some (.pointer p0) := (HT5.out.cell 0).trans nst_get0
          have HT6 : Hid _ := HT6'
          have hfk : w5.frozen? ⟨g, 0, none⟩ = false := HT5.out.frozen 0
          clear S1 S2 S3 HT6' HT5 hc5
          have hu51 := Try.underlying51
          have hi51 : (Try.prog.info? 51).map (·.size) = some (bv x).toList.length := by rw [Array.length_toList, bv_size, hx]; exact Try.info51
          have hlen : (bv x).toList.length = 20 := by rw [Array.length_toList, bv_size, hx]
          have hml : (List.map (fun y : UInt8 => Value.int .u8 (y.toNat : Int)) x).length = 20 := by rw [List.length_map, hx]
          have hone : ∀ v ∈ (bv x).toList, v.oneCell' = true := fun v hv => (Array.all_eq_true_iff_forall_mem.1 (bv_one x)) v (by simpa using hv)
          go_region_held3 (fun w' => w'.rangeAt w.heap.size 0 (bv x).toList ∧ w'.there g 2 20) (first | exact HS1.out | exact HS2.out | exact HS3.out) (fail)
          go_end0
          have ho : offer ⟨0, o0, o1⟩ x = ⟨1, x, o1⟩ := by simp [offer]
          rw [ho]
          exact ⟨rfl, ⟨_, _, HT6.out.row⟩, HT6.out.below⟩
        · go_wp2
          refine wp_region_later Try.follows (by kernel_rfl) ?_
          repeat (go_big_quiet_step (fail))
          refine wpQuiet_nil ?_
          rintro ⟨w2, hb2⟩; dsimp only
          have HT2 : Hid (Tl w g x (nst (.pointer p0) (.pointer p1) o0 o1 1) w2) := HT.out.later hb2
          clear HT hb2 hcc hn
          have hc2 : w2.cell? ⟨g, 42, none⟩ = some (.int .i64 1) := (HT2.out.cell 42).trans (nst_getc h0 h1)
          have hf2 : w2.frozen? ⟨g, 42, none⟩ = false := HT2.out.frozen 42
          go_wp2
          have HT3 : Hid (Tl w g x (nst (.pointer p0) (.pointer p1) o0 o1 2) (w2.setCell ⟨g, 42, none⟩ (.int .i64 2))) := (HT2.out.setCell 42 _ (by rw [nst_size h0 h1]; omega)).cells (nst_setc 2 h0 h1)
          generalize w2.setCell ⟨g, 42, none⟩ (.int .i64 2) = w3 at HT3 ⊢
          clear HT2 hc2 hf2
          have hc3 : w3.cell? ⟨g, 42, none⟩ = some (.int .i64 2) := (HT3.out.cell 42).trans (nst_getc h0 h1)
          have hw1 : IntKind.i64.wrap 1 = 1 := by decide
          have hw2 : IntKind.i64.wrap 2 = 2 := by decide
          obtain ⟨w4, hcp4, HT4'⟩ := HT3.out.copy0 70 49 1 Try.underlying70 Try.info49 0 0 1 1 1 (by rw [nst_size h0 h1]; omega)
          have HT4 : Hid _ := HT4'
          have hc4 : w4.cell? ⟨g, 42, none⟩ = some (.int .i64 2) := (HT4.out.cell 42).trans (nst_getc h0 h1)
          clear HT4'
          go_region_held3 (fun w' => w'.cell? ⟨g, 42, none⟩ = some (.int .i64 2)) (first | (simpa using hc3) | (simpa using hc4)) (fail)
          clear HT3 hc3 hcp4
          go_wp2
          obtain ⟨w5, hcp5, HT5'⟩ := HT4.out.copy0 87 51 20 Try.underlying87 Try.info51 2 0 22 1 1 (by rw [nst_size h0 h1]; omega)
          have HT5 : Hid _ := HT5'
          have hc5 : w5.cell? ⟨g, 42, none⟩ = some (.int .i64 2) := (HT5.out.cell 42).trans (nst_getc h0 h1)
          clear HT5'
          go_region_held3 (fun w' => w'.cell? ⟨g, 42, none⟩ = some (.int .i64 2)) (first | (simpa using hc4) | (simpa using hc5)) (fail)
          clear HT4 hc4 hcp5
          go_wp2
          obtain ⟨S1, S2, S3, HT6'⟩ := HT5.out.put hx 1 22 (.pointer la) (by rw [nst_size h0 h1]; omega) (by rw [nst_size h0 h1]; omega) (over_size _ _ _ (by rw [nst_size h0 h1]; simp))
          have HS1 : Hid _ := S1
          have HS2 : Hid _ := S2
          have HS3 : Hid _ := S3
          rw [nst_set1, nst_seto1 x h0 (hx.trans h1.symm)] at HT6'
          have hlk : w5.cell? ⟨g, 1, none⟩ = some (.pointer p1) := (HT5.out.cell 1).trans nst_get1
          have HT6 : Hid _ := HT6'
          have hfk : w5.frozen? ⟨g, 1, none⟩ = false := HT5.out.frozen 1
          clear S1 S2 S3 HT6' HT5 hc5
          have hu51 := Try.underlying51
          have hi51 : (Try.prog.info? 51).map (·.size) = some (bv x).toList.length := by rw [Array.length_toList, bv_size, hx]; exact Try.info51
          have hlen : (bv x).toList.length = 20 := by rw [Array.length_toList, bv_size, hx]
          have hml : (List.map (fun y : UInt8 => Value.int .u8 (y.toNat : Int)) x).length = 20 := by rw [List.length_map, hx]
          have hone : ∀ v ∈ (bv x).toList, v.oneCell' = true := fun v hv => (Array.all_eq_true_iff_forall_mem.1 (bv_one x)) v (by simpa using hv)
          go_region_held3 (fun w' => w'.rangeAt w.heap.size 0 (bv x).toList ∧ w'.there g 22 20) (first | exact HS1.out | exact HS2.out | exact HS3.out) (fail)
          go_end0
          have ho : offer ⟨1, o0, o1⟩ x = ⟨2, o0, x⟩ := by have hl := (cb_neg _ _).1 (HLO.out 0 (by omega)); simp [offer, show lt o0 x = true from hl]
          rw [ho]
          exact ⟨rfl, ⟨_, _, HT6.out.row⟩, HT6.out.below⟩
        · go_wp2
          refine wp_region_later Try.follows (by kernel_rfl) ?_
          repeat (go_big_quiet_step (fail))
          refine wpQuiet_nil ?_
          rintro ⟨w2, hb2⟩; dsimp only
          have HT2 := HT.out.later hb2
          clear hcc hn
          go_wp2
          refine bodyPost_ret (results_none rfl _ _ _) rfl ?_
          have ho : offer ⟨2, o0, o1⟩ x = ⟨2, o0, o1⟩ := by
            have l0 := (cb_neg _ _).1 (HLO.out 0 (by omega))
            have l1 := (cb_neg _ _).1 (HLO.out 1 (by omega))
            simp [offer, show lt o0 x = true from l0, show lt o1 x = true from l1]
          rw [ho]
          exact ⟨rfl, ⟨_, _, HT2.row⟩, HT2.below⟩
end Go.Proofs.Qxb6609493a
