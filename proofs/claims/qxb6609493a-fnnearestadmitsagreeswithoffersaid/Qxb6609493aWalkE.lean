import Derived.Test.Qxb6609493aWalkD
namespace Go.Proofs.Qxb6609493a
open Go.RowKit Plain
set_option linter.unusedVariables false

set_option maxHeartbeats 400000 in
theorem zzbytes14 (a : Option Addr) (len cap : Nat) (cs : Array Value) (w : World) (hl : len ≤ 9223372036854775807) :
    Calls Try.prog 14 #[.slice a len cap, .agg cs] w fun e w' => e = .returned (.bool (decide (21 * len ≤ 1048576))) ∧ Below w.heap.size w w' := by
  by_cases h1 : (len : Int) ≤ 1048576
  · go_enter Try.func14, Try.ntmps14
    go_wp2
    go_loopw [5, 6] (fun z i wr => ∃ k : Nat, k ≤ len ∧ (len : Int) + 20 * k ≤ 1048576 ∧ i = .int .i64 k ∧ z = .int .i64 ((len : Int) + 20 * k) ∧ Below w.heap.size w wr) (fun _ i _ => len - (intOf i).toNat)
    case atStart => exact ⟨0, by omega, by omega, rfl, by simp, (Below.refl _ _).alloc (Nat.le_refl _) _⟩
    case round =>
      obtain ⟨k, hk, hz, rfl, rfl, hb⟩ := hrel
      obtain ⟨z, hzz⟩ : ∃ z : Int, z = (len : Int) + 20 * k := ⟨_, rfl⟩
      rw [← hzz] at hz ⊢
      have hz0 : 0 ≤ z := by omega
      have HZ : Hid (z = (len : Int) + 20 * k) := hzz
      clear hzz
      by_cases hlt : k < len
      · by_cases h2 : z + 20 ≤ 1048576
        · go_wp2
          go_roundw
          case rel => exact ⟨k + 1, by omega, by have := HZ.out; omega, by go_num, by have := HZ.out; rw [this]; go_num, hb⟩
          case measure => simp [intOf]; omega
        · go_wp2
          go_ret
          refine ⟨ret_bool ?_, hb⟩
          have := HZ.out
          simp; omega
      · go_wp2
        go_ret
        refine ⟨ret_bool ?_, hb⟩
        have := HZ.out
        simp; omega
  · go_enter Try.func14, Try.ntmps14
    go_wp2
    go_ret
    refine ⟨ret_bool ?_, (Below.refl _ _).alloc (Nat.le_refl _) _⟩
    simp; omega

set_option maxHeartbeats 400000 in
theorem zzcount_any (l0 l1 : Value) (s : St) (g : Nat) (w : World) (h0 : s.o0.length = 20) (h1 : s.o1.length = 20)
    (hg : w.heap[g]? = some (.cells (nst l0 l1 s.o0 s.o1 s.c) 54)) :
    Calls Try.prog 15 #[.pointer (some ⟨g, 0, none⟩)] w fun e w' => e = .returned (.int .i64 s.c) ∧ w' = w := by
  have hc := nst_c hg h0 h1
  clear hg
  go_enter Try.func15, Try.ntmps15
  go_wp2
  go_ret
  exact ⟨rfl, rfl⟩

set_option maxHeartbeats 400000 in
theorem zzoffset_any (l0 l1 : Value) (s : St) (g k : Nat) (w : World) (h0 : s.o0.length = 20) (h1 : s.o1.length = 20) (hk : k < 2)
    (hg : w.heap[g]? = some (.cells (nst l0 l1 s.o0 s.o1 s.c) 54)) :
    Calls Try.prog 16 #[.pointer (some ⟨g, 0, none⟩), .int .i64 k] w fun e w' => e = .returned (.agg (bv (ov s.o0 s.o1 k))) ∧ Below w.heap.size w w' := by
  have hgs : g < w.heap.size := (Array.getElem?_eq_some_iff.1 hg).1
  have hol : (ov s.o0 s.o1 k).length = 20 := by unfold ov; split <;> assumption
  have hs : Hid (Seg (w.alloc (.cells (bv z20) 30)) g (2 + k * 20) (bv (ov s.o0 s.o1 k))) := nst_at ((Below.heap_alloc _ _ _ hgs).trans hg) h0 k hk
  have hr : Hid ((w.alloc (.cells (bv z20) 30)).heap[w.heap.size]? = some (.cells (bv z20) 30)) := heap_alloc_new _ _
  clear hg
  go_enter Try.func16, Try.ntmps16
  go_wp2_with (first
    | (refine wpList_load_seg rfl 51 (.tmp 9) rfl _ _ rfl (bv (ov s.o0 s.o1 k)) _ (by exact hs.out) Try.underlying51 rfl (by rw [Try.info51, bv_size, hol]) ?_)
    | (refine wpList_store_seg rfl 30 (.tmp 4) (.tmp 10) rfl _ _ (bv (ov s.o0 s.o1 k)) rfl rfl _ _ (by exact hr.out) (by rw [Try.info30, bv_size, hol]) (by rw [bv_size, bv_size, hol]; simp [z20]) (bv_one _) ?_))
  refine bodyPost_ret (v := .agg (bv (ov s.o0 s.o1 k))) ?_ rfl ⟨rfl, ?_⟩
  · refine results_cell_row (P := Try.prog) rfl _ _ w.heap.size 30 (bv (ov s.o0 s.o1 k)) (0, 0) _ rfl ?_ Try.underlying30 rfl (by rw [Try.info30, bv_size, hol])
    have e := over_all (bv z20) (bv (ov s.o0 s.o1 k)) (by rw [bv_size, bv_size, hol]; rfl)
    exact (setRow_heap _ _ _ _ _ _ hr.out).trans (by rw [e])
  · exact ((Below.refl _ _).alloc (Nat.le_refl _) _).trans ⟨rfl, rfl, rfl, by simp, fun q hq => setRow_other _ _ _ _ (by omega)⟩

/-- What the law's loop over what is kept has found. -/
def keptTo (s : St) (x : List UInt8) : Nat → Bool
  | 0 => false
  | k + 1 => keptTo s x k || decide (ov s.o0 s.o1 k = x)

theorem keptTo_all (s : St) (x : List UInt8) (hc : s.c ≤ 2) : keptTo s x s.c = kept s x := by
  have h : s.c = 0 ∨ s.c = 1 ∨ s.c = 2 := by omega
  rcases h with h | h | h <;> simp [h, keptTo, kept, ov]

theorem want_one (l : List (List UInt8)) (x : List UInt8) (h : ∀ i, i < l.length → l.getD i [] = x) : want l x = 1 := by
  unfold want
  rw [if_pos]
  simp only [List.all_eq_true, decide_eq_true_eq]
  intro y hy
  obtain ⟨i, hi, rfl⟩ := List.mem_iff_getElem.1 hy
  have := h i hi
  simpa [List.getD, hi] using this
theorem want_two (l : List (List UInt8)) (x : List UInt8) (i : Nat) (hi : i < l.length) (h : l.getD i [] ≠ x) : want l x = 2 := by
  unfold want
  rw [if_neg]
  simp only [List.all_eq_true, decide_eq_true_eq]
  intro hq
  apply h
  have := hq l[i] (List.getElem_mem hi)
  simpa [List.getD, hi] using this

set_option maxRecDepth 10000 in
set_option maxHeartbeats 1000000 in
theorem law2_walk (a : Option Addr) (b off len cap : Nat) (l : List (List UInt8)) (x : List UInt8) (w : World) (hl : l.length = len) (hlen : len ≤ 9223372036854775807) (h20 : ∀ y ∈ l, y.length = 20) (hx : x.length = 20)
    (ha : 0 < len → a = some ⟨b, off, none⟩) (hoff : ∀ i, i < l.length → Seg w b (off + i * 20) (bv (l.getD i []))) (hb : 0 < l.length → b < w.heap.size) :
    Calls Try.prog 5 #[.slice a len cap, .agg (bv x)] w fun e w' => e = .returned (.bool true) ∧ Below w.heap.size w w' := by
  have E1 : Hid (Env w b off l x (w.alloc (.cells (bv x) 30))) := ⟨fun i hi => (hoff i hi).below ((Below.refl w.heap.size _).alloc (Nat.le_refl _) _) (hb (by omega)), heap_alloc_new _ _, (Below.refl _ _).alloc (Nat.le_refl _) _, hb⟩
  have HL : Hid (l.length = len) := hl
  have H20 : Hid (∀ y ∈ l, y.length = 20) := h20
  have HA : Hid (0 < len → a = some ⟨b, off, none⟩) := ha
  clear hoff hb hl h20 ha
  go_enter Try.func5, Try.ntmps5
  go_wp2_with (first | (refine wpList_load_seg rfl 30 (.tmp 3) rfl _ _ rfl (bv x) _ (by exact seg_row E1.out.box) Try.underlying30 rfl (by rw [Try.info30, bv_size, hx]) ?_))
  refine (zzbytes14 _ len cap _ _ hlen).mono ?_
  rintro e w1 ⟨rfl, hb1⟩
  have E2 : Hid (Env w b off l x w1) := E1.out.later hb1 (by simp)
  clear hb1 E1
  by_cases hz : 21 * len ≤ 1048576
  case neg =>
    have hz' : decide (21 * len ≤ 1048576) = false := by simpa using hz
    rw [hz']
    clear hz hz'
    go_wp2
    go_ret
    exact ⟨rfl, E2.out.below⟩
  have hz' : decide (21 * len ≤ 1048576) = true := by simpa using hz
  rw [hz']
  have hlen' : (len : Int) ≤ 49932 := by omega
  clear hz hz' hlen
  by_cases h15 : (32768 : Int) < (len : Int)
  case pos =>
    go_wp2
    go_ret
    exact ⟨rfl, E2.out.below⟩
  go_wp2_with fail
  refine (zznew_any _).mono ?_
  rintro e w2 ⟨rfl, rfl⟩
  have E3 : Hid (Env w b off l x (w1.alloc (.cells (nst (.pointer none) (.pointer none) z20 z20 0) 54))) := E2.out.later ((Below.refl w1.heap.size _).alloc (Nat.le_refl _) _) E2.out.size
  have hgN : w.heap.size < w1.heap.size := E2.out.size
  have G3 : Hid ((w1.alloc (.cells (nst (.pointer none) (.pointer none) z20 z20 0) 54)).heap[w1.heap.size]? = some (.cells (nst (.pointer none) (.pointer none) (run (l.take 0)).o0 (run (l.take 0)).o1 (run (l.take 0)).c) 54)) := heap_alloc_new _ _
  obtain ⟨g, hg⟩ : ∃ g, g = w1.heap.size := ⟨_, rfl⟩
  rw [← hg] at G3 hgN ⊢
  generalize w1.alloc (.cells (nst (.pointer none) (.pointer none) z20 z20 0) 54) = w2 at E3 G3 ⊢
  clear E2 hg
  go_wp2
  go_loopw [6] (fun i wr => ∃ k : Nat, k ≤ len ∧ i = .int .i64 k ∧ (∃ p0 p1, wr.heap[g]? = some (.cells (nst (.pointer p0) (.pointer p1) (run (l.take k)).o0 (run (l.take k)).o1 (run (l.take k)).c) 54)) ∧ Env w b off l x wr) (fun i _ => len - (intOf i).toNat)
  case atStart => exact ⟨0, by omega, rfl, ⟨_, _, G3.out⟩, E3.out⟩
  case round =>
    obtain ⟨k, hk, rfl, ⟨p0, p1, hg⟩, hE⟩ := hrel
    have HG : Hid (wr.heap[g]? = some (.cells (nst (.pointer p0) (.pointer p1) (run (l.take k)).o0 (run (l.take k)).o1 (run (l.take k)).c) 54)) := hg
    have HE : Hid (Env w b off l x wr) := hE
    have hgs : g < wr.heap.size := (Array.getElem?_eq_some_iff.1 hg).1
    clear hg hE E3 G3
    obtain ⟨r0, r1, rc⟩ := run_len l H20.out k
    have R0 : Hid _ := r0
    have R1 : Hid _ := r1
    have RC : Hid _ := rc
    clear r0 r1 rc
    by_cases hlt : k < len
    · obtain rfl := HA.out (by omega)
      obtain ⟨y, hy⟩ : ∃ y, y = l.getD k [] := ⟨_, rfl⟩
      have hyl : y.length = 20 := by
        rw [hy]; apply H20.out
        have hk' : k < l.length := by rw [HL.out]; exact hlt
        simp [List.getD, hk']
      have HY : Hid (y = l.getD k []) := hy
      clear hy
      have hs : Hid (Seg wr b (off + k * 20) (bv y)) := by have := HE.out.offs k (by rw [HL.out]; exact hlt); rw [← HY.out] at this; exact this
      go_wp2_with (first | (refine wpList_load_seg rfl 30 (.tmp 30) rfl _ _ rfl (bv y) _ (by exact hs.out) Try.underlying30 rfl (by rw [Try.info30, bv_size, hyl]) ?_))
      refine (zzoffer_any p0 p1 (run (l.take k)) y g _ R0.out R1.out hyl HG.out RC.out).mono ?_
      rintro e w3 ⟨rfl, hp, hb3⟩
      have HP : Hid _ := hp
      have HE3 : Hid (Env w b off l x w3) := HE.out.later hb3 hgN
      clear hp hb3 hs HG HE R0 R1 RC
      go_wp2
      go_roundw
      case rel =>
        refine ⟨k + 1, by omega, by go_num, ?_, HE3.out⟩
        rw [run_take l k (by rw [HL.out]; exact hlt), ← HY.out]
        exact HP.out
      case measure => simp [intOf]; omega
    · obtain rfl : k = len := by omega
      go_wp2_with (first | (refine wpList_load_seg rfl 30 (.tmp 3) rfl _ _ rfl (bv x) _ (by exact seg_row HE.out.box) Try.underlying30 rfl (by rw [Try.info30, bv_size, hx]) ?_))
      refine (zzadmits_any _ _ (run (l.take k)) x g _ R0.out R1.out hx HG.out).mono ?_
      rintro e w4 ⟨rfl, hb4⟩
      have HE4 : Hid (Env w b off l x w4) := HE.out.later hb4 (by omega)
      have HG4 : Hid (w4.heap[g]? = some (.cells (nst (.pointer p0) (.pointer p1) (run (l.take k)).o0 (run (l.take k)).o1 (run (l.take k)).c) 54)) := (hb4.block _ hgs).trans HG.out
      clear HE HG hgs hb4
      have hbo : Hid (admits (run (l.take k)) x = kept (offer (run (l.take k)) x) x ∧ (offer (run (l.take k)) x).c = want l x) := by rw [List.take_of_length_le (by rw [HL.out]; exact Nat.le_refl _)]; exact law2 l x
      have hol := offer_len R0.out R1.out hx RC.out
      obtain ⟨got, hgot⟩ : ∃ got, got = admits (run (l.take k)) x := ⟨_, rfl⟩
      rw [← hgot] at hbo ⊢
      clear hgot
      go_wp2_with (first | (refine wpList_load_seg rfl 30 (.tmp 3) rfl _ _ rfl (bv x) _ (by exact seg_row HE4.out.box) Try.underlying30 rfl (by rw [Try.info30, bv_size, hx]) ?_))
      refine (zzoffer_any p0 p1 (run (l.take k)) x g _ R0.out R1.out hx HG4.out RC.out).mono ?_
      obtain ⟨s, hs⟩ : ∃ s, s = offer (run (l.take k)) x := ⟨_, rfl⟩
      rw [← hs] at hbo hol ⊢
      clear hs R0 R1 RC
      rintro e w5 ⟨rfl, ⟨q0, q1, hg5⟩, hb5⟩
      have HE5 : Hid (Env w b off l x w5) := HE4.out.later hb5 hgN
      have HG5 : Hid (w5.heap[g]? = some (.cells (nst (.pointer q0) (.pointer q1) s.o0 s.o1 s.c) 54)) := hg5
      obtain ⟨s0, s1, sc⟩ := hol
      clear HE4 HG4 hb5 hg5
      go_wp2_with fail
      refine (zzcount_any _ _ s g _ s0 s1 HG5.out).mono ?_
      rintro e w6 ⟨rfl, rfl⟩
      go_wp2
      go_loopw [9, 10] (fun f i wr => ∃ j : Nat, j ≤ s.c ∧ i = .int .i64 j ∧ f = .bool (keptTo s x j) ∧ wr.heap[g]? = some (.cells (nst (.pointer q0) (.pointer q1) s.o0 s.o1 s.c) 54) ∧ Env w b off l x wr) (fun _ i _ => s.c - (intOf i).toNat)
      case atStart => exact ⟨0, by omega, rfl, rfl, HG5.out, HE5.out⟩
      case round =>
        obtain ⟨j, hj, rfl, rfl, hg, hE⟩ := hrel
        have HG : Hid (wr.heap[g]? = some (.cells (nst (.pointer q0) (.pointer q1) s.o0 s.o1 s.c) 54)) := hg
        have HE : Hid (Env w b off l x wr) := hE
        have hgs : g < wr.heap.size := (Array.getElem?_eq_some_iff.1 hg).1
        have hNs : w.heap.size < wr.heap.size := hE.size
        clear hg hE HG5 HE5
        by_cases hlt : j < s.c
        · have hol : (ov s.o0 s.o1 j).length = 20 := by unfold ov; split <;> assumption
          have hn := later_some wr
          have s2 : Hid (∀ e : Later wr, Seg e.x w.heap.size 0 (bv x)) := fun e => seg_row (HE.out.later e.h hNs).box
          have kg : Hid (∀ e : Later wr, e.x.heap[g]? = some (.cells (nst (.pointer q0) (.pointer q1) s.o0 s.o1 s.c) 54)) := fun e => (e.h.block _ hgs).trans HG.out
          have heg := Try.eqg30
          have heq : ∀ w, (Op.equalIn 10000 30 (.agg (bv (ov s.o0 s.o1 j))) (.agg (bv x))).run Try.prog w = .ok (decide (ov s.o0 s.o1 j = x)) w := fun w =>
            equalIn_bv (P := Try.prog) w 9998 30 5 20 Try.underlying30 Try.underlying5 Try.info5 _ _ hol hx
          have hks : Hid (keptTo s x (j + 1) = (keptTo s x j || decide (ov s.o0 s.o1 j = x))) := rfl
          obtain ⟨kb, hkb⟩ : ∃ kb, kb = keptTo s x j := ⟨_, rfl⟩
          rw [← hkb] at hks ⊢
          clear hkb
          obtain ⟨eb, heb⟩ : ∃ eb, eb = decide (ov s.o0 s.o1 j = x) := ⟨_, rfl⟩
          rw [← heb] at hks heq
          clear heb
          go_wp2
          refine wp_region_later Try.follows (by kernel_rfl) ?_
          repeat (first
            | (go_big_quiet_want; refine later_load 30 (.tmp 3) rfl _ _ rfl _ _ s2.out Try.underlying30 rfl (by rw [Try.info30, bv_size, hx]) ?_; simp only [Act.put, List.setIfInBounds_toArray, List.set_cons_succ, List.set_cons_zero]; go_big_quiet_on)
            | go_big_quiet_step ((go_at_call 16; exact later_call _ (zzoffset_any _ _ s g j _ s0 s1 (by omega) (kg.out _)))))
          refine wpQuiet_nil ?_
          rintro ⟨w7, hb7⟩; dsimp only
          have HE7 : Hid (Env w b off l x w7) := HE.out.later hb7 hNs
          have HG7 : Hid (w7.heap[g]? = some (.cells (nst (.pointer q0) (.pointer q1) s.o0 s.o1 s.c) 54)) := (hb7.block _ hgs).trans HG.out
          clear HE HG hb7 s2 kg hn heq
          cases eb
          · go_wp2
            go_roundw
            case rel => exact ⟨j + 1, by omega, by go_num, by rw [hks.out]; simp, HG7.out, HE7.out⟩
            case measure => simp [intOf]; omega
          · go_wp2
            go_roundw
            case rel => exact ⟨j + 1, by omega, by go_num, by rw [hks.out]; simp, HG7.out, HE7.out⟩
            case measure => simp [intOf]; omega
        · obtain rfl : j = s.c := by omega
          have hkt := keptTo_all s x sc
          rw [hkt, ← hbo.out.1]
          have hwc : Hid (s.c = want l x) := hbo.out.2
          clear hkt hbo HG hgs
          go_wp2
          go_loopw [11, 12] (fun f i wr => ∃ j : Nat, j ≤ k ∧ i = .int .i64 j ∧ f = .int .i64 1 ∧ (∀ i, i < j → l.getD i [] = x) ∧ Env w b off l x wr) (fun _ i _ => k - (intOf i).toNat)
          case atStart => exact ⟨0, by omega, rfl, rfl, fun i hi => absurd hi (Nat.not_lt_zero _), HE.out⟩
          case round =>
            obtain ⟨j, hj, rfl, rfl, hall, hE⟩ := hrel
            have HALL : Hid (∀ i, i < j → l.getD i [] = x) := hall
            have HE' : Hid (Env w b off l x wr) := hE
            have hNs : w.heap.size < wr.heap.size := hE.size
            clear hall hE HE
            by_cases hlt : j < k
            · obtain rfl := HA.out (by omega)
              obtain ⟨y, hy⟩ : ∃ y, y = l.getD j [] := ⟨_, rfl⟩
              have hj' : j < l.length := by rw [HL.out]; exact hlt
              have HJ : Hid (j < l.length) := hj'
              have hyl : y.length = 20 := by
                rw [hy]; apply H20.out
                simp [List.getD, hj']
              have HY : Hid (y = l.getD j []) := hy
              clear hy hj'
              have hn := later_some wr
              have s1' : Hid (∀ e : Later wr, Seg e.x b (off + j * 20) (bv y)) := fun e => by have := (HE'.out.later e.h hNs).offs j HJ.out; rw [← HY.out] at this; exact this
              have s2 : Hid (∀ e : Later wr, Seg e.x w.heap.size 0 (bv x)) := fun e => seg_row (HE'.out.later e.h hNs).box
              have heg := Try.eqg30
              by_cases hyx : y = x
              · have heq : ∀ w, (Op.equalIn 10000 30 (.agg (bv y)) (.agg (bv x))).run Try.prog w = .ok true w := fun w => by
                  rw [equalIn_bv (P := Try.prog) w 9998 30 5 20 Try.underlying30 Try.underlying5 Try.info5 _ _ hyl hx]; simp [hyx]
                have HYX : Hid (y = x) := hyx
                clear hyx
                go_wp2
                refine wp_region_later Try.follows (by kernel_rfl) ?_
                repeat (first
                  | (go_big_quiet_want; refine later_load 30 (.tmp 3) rfl _ _ rfl _ _ s2.out Try.underlying30 rfl (by rw [Try.info30, bv_size, hx]) ?_; simp only [Act.put, List.setIfInBounds_toArray, List.set_cons_succ, List.set_cons_zero]; go_big_quiet_on)
                  | (go_big_quiet_want; refine later_load 30 (.tmp 65) rfl _ _ rfl _ _ s1'.out Try.underlying30 rfl (by rw [Try.info30, bv_size, hyl]) ?_; simp only [Act.put, List.setIfInBounds_toArray, List.set_cons_succ, List.set_cons_zero]; go_big_quiet_on)
                  | go_big_quiet_step (fail))
                refine wpQuiet_nil ?_
                rintro ⟨w7, hb7⟩; dsimp only
                have HE7 : Hid (Env w b off l x w7) := HE'.out.later hb7 hNs
                clear HE' hb7 s1' s2 hn heq
                go_wp2
                go_roundw
                case rel => exact ⟨j + 1, by omega, by go_num, rfl, fun i hi => by
                  rcases Nat.lt_succ_iff_lt_or_eq.1 hi with h | rfl
                  · exact HALL.out i h
                  · rw [← HY.out]; exact HYX.out, HE7.out⟩
                case measure => simp [intOf]; omega
              · have heq : ∀ w, (Op.equalIn 10000 30 (.agg (bv y)) (.agg (bv x))).run Try.prog w = .ok false w := fun w => by
                  rw [equalIn_bv (P := Try.prog) w 9998 30 5 20 Try.underlying30 Try.underlying5 Try.info5 _ _ hyl hx]; simp [hyx]
                have hw2 : s.c = 2 := by rw [hwc.out]; exact want_two l x j HJ.out (by rw [← HY.out]; exact hyx)
                have HYX : Hid (s.c = 2) := hw2
                clear hyx hw2
                go_wp2
                refine wp_region_later Try.follows (by kernel_rfl) ?_
                repeat (first
                  | (go_big_quiet_want; refine later_load 30 (.tmp 3) rfl _ _ rfl _ _ s2.out Try.underlying30 rfl (by rw [Try.info30, bv_size, hx]) ?_; simp only [Act.put, List.setIfInBounds_toArray, List.set_cons_succ, List.set_cons_zero]; go_big_quiet_on)
                  | (go_big_quiet_want; refine later_load 30 (.tmp 65) rfl _ _ rfl _ _ s1'.out Try.underlying30 rfl (by rw [Try.info30, bv_size, hyl]) ?_; simp only [Act.put, List.setIfInBounds_toArray, List.set_cons_succ, List.set_cons_zero]; go_big_quiet_on)
                  | go_big_quiet_step (fail))
                refine wpQuiet_nil ?_
                rintro ⟨w7, hb7⟩; dsimp only
                have HE7 : Hid (Env w b off l x w7) := HE'.out.later hb7 hNs
                clear HE' hb7 s1' s2 hn heq
                go_wp2
                go_ret
                exact ⟨ret_bool (by have := HYX.out; simp; omega), HE7.out.below⟩
            · have hw1 : Hid (s.c = 1) := by
                show s.c = 1
                rw [hwc.out]; exact want_one l x (fun i hi => HALL.out i (by rw [HL.out] at hi; omega))
              go_wp2
              go_ret
              exact ⟨ret_bool (by have := hw1.out; simp; omega), HE'.out.below⟩
end Go.Proofs.Qxb6609493a
