import Derived.Test.Qxb6609493aWalkC
namespace Go.Proofs.Qxb6609493a
open Go.RowKit Plain
set_option linter.unusedVariables false

set_option maxHeartbeats 400000 in
theorem zzbytes9 (a : Option Addr) (len cap : Nat) (cs : Array Value) (w : World) (hl : len ≤ 9223372036854775807) :
    Calls Try.prog 9 #[.slice a len cap, .agg cs] w fun e w' => e = .returned (.bool (decide (21 * len ≤ 1048576))) ∧ Below w.heap.size w w' := by
  by_cases h1 : (len : Int) ≤ 1048576
  · go_enter Try.func9, Try.ntmps9
    go_wp2
    go_loopw [5, 6] (fun z i wr => ∃ k : Nat, k ≤ len ∧ (len : Int) + 20 * k ≤ 1048576 ∧ i = .int .i64 k ∧ z = .int .i64 ((len : Int) + 20 * k) ∧ Below w.heap.size w wr) (fun _ i _ => len - (intOf i).toNat)
    case atStart => exact ⟨0, by omega, by omega, rfl, by simp, (Below.refl _ _).alloc (Nat.le_refl _) _⟩
    case round =>
      obtain ⟨k, hk, hz, rfl, rfl, hb⟩ := hrel
      obtain ⟨z, hzz⟩ : ∃ z : Int, z = (len : Int) + 20 * k := ⟨_, rfl⟩
      rw [← hzz] at hz ⊢
      have hz0 : 0 ≤ z := by omega
      have HZ : Hid (z = (len : Int) + 20 * k) := hzz
      clear hzz
      by_cases hlt : k < len
      · by_cases h2 : z + 20 ≤ 1048576
        · go_wp2
          go_roundw
          case rel => exact ⟨k + 1, by omega, by have := HZ.out; omega, by go_num, by have := HZ.out; rw [this]; go_num, hb⟩
          case measure => simp [intOf]; omega
        · go_wp2
          go_ret
          refine ⟨ret_bool ?_, hb⟩
          have := HZ.out
          simp; omega
      · go_wp2
        go_ret
        refine ⟨ret_bool ?_, hb⟩
        have := HZ.out
        simp; omega
  · go_enter Try.func9, Try.ntmps9
    go_wp2
    go_ret
    refine ⟨ret_bool ?_, (Below.refl _ _).alloc (Nat.le_refl _) _⟩
    simp; omega

/-- What the laws' walks carry along: the offers and the offset, as they lie in memory. -/
structure Env (w : World) (b off : Nat) (l : List (List UInt8)) (x : List UInt8) (wi : World) : Prop where
  offs : ∀ i, i < l.length → Seg wi b (off + i * 20) (bv (l.getD i []))
  box : wi.heap[w.heap.size]? = some (.cells (bv x) 30)
  below : Below w.heap.size w wi
  lt : 0 < l.length → b < w.heap.size

namespace Env
variable {w wi w2 : World} {b off : Nat} {l : List (List UInt8)} {x : List UInt8}
theorem size (h : Env w b off l x wi) : w.heap.size < wi.heap.size := (Array.getElem?_eq_some_iff.1 h.box).1
theorem later {B : Nat} (h : Env w b off l x wi) (hb : Below B wi w2) (hB : w.heap.size < B) : Env w b off l x w2 :=
  ⟨fun i hi => (h.offs i hi).below hb (by have := h.lt (by omega); omega), (hb.block _ hB).trans h.box, h.below.trans (hb.mono (by omega)), h.lt⟩
end Env

theorem over_all (cur vs : Array Value) (h : vs.size = cur.size) : over cur 0 vs = vs := by
  unfold over
  apply Array.ext'
  simp [h]
theorem Try.eqg30 : Try.prog.eqGuardType Try.prog.depth 30 = false := by kernel_rfl

theorem run_len (l : List (List UInt8)) (hl : ∀ y ∈ l, y.length = 20) (k : Nat) : (run (l.take k)).o0.length = 20 ∧ (run (l.take k)).o1.length = 20 ∧ (run (l.take k)).c ≤ 2 := by
  have key : ∀ (m : List (List UInt8)) (s : St), (∀ y ∈ m, y.length = 20) → s.o0.length = 20 ∧ s.o1.length = 20 ∧ s.c ≤ 2 → (m.foldl offer s).o0.length = 20 ∧ (m.foldl offer s).o1.length = 20 ∧ (m.foldl offer s).c ≤ 2 := by
    intro m
    induction m with
    | nil => intro s _ h; exact h
    | cons y m ih => intro s hm h; exact ih _ (fun z hz => hm z (by simp [hz])) (offer_len h.1 h.2.1 (hm y (by simp)) h.2.2)
  exact key _ _ (fun y hy => hl y (List.mem_of_mem_take hy)) ⟨by simp [Plain.start, z20], by simp [Plain.start, z20], by simp [Plain.start]⟩

theorem take_snoc' (l : List (List UInt8)) (k : Nat) (h : k < l.length) : l.take (k + 1) = l.take k ++ [l.getD k []] := by
  rw [List.take_succ_eq_append_getElem h]
  simp [List.getD, h]

theorem run_take (l : List (List UInt8)) (k : Nat) (h : k < l.length) : run (l.take (k + 1)) = offer (run (l.take k)) (l.getD k []) := by
  rw [take_snoc' l k h, run_snoc]
theorem look_take (x : List UInt8) (l : List (List UInt8)) (k : Nat) (h : k < l.length) : lookAll x (l.take (k + 1)) = Plain.look x (lookAll x (l.take k)) (l.getD k []) := by
  rw [take_snoc' l k h, lookAll_snoc]

set_option maxRecDepth 10000 in
set_option maxHeartbeats 1000000 in
theorem law1_empty (a : Option Addr) (cap : Nat) (x : List UInt8) (w : World) (hx : x.length = 20) :
    Calls Try.prog 4 #[.slice a 0 cap, .agg (bv x)] w fun e w' => e = .returned (.bool true) ∧ Below w.heap.size w w' := by
  have hb1 : Hid ((w.alloc (.cells (bv x) 30)).heap[w.heap.size]? = some (.cells (bv x) 30)) := heap_alloc_new _ _
  have hw1 : Hid (Below w.heap.size w (w.alloc (.cells (bv x) 30))) := (Below.refl _ _).alloc (Nat.le_refl _) _
  go_enter Try.func4, Try.ntmps4
  go_wp2_with (first | (refine wpList_load_seg rfl 30 (.tmp 3) rfl _ _ rfl (bv x) _ (by exact seg_row hb1.out) Try.underlying30 rfl (by rw [Try.info30, bv_size, hx]) ?_))
  refine (zzbytes9 _ 0 cap _ _ (by omega)).mono ?_
  rintro e w1 ⟨rfl, hb2⟩
  have hx1 : Hid (w1.heap[w.heap.size]? = some (.cells (bv x) 30)) := (hb2.block _ (by simp)).trans hb1.out
  have hw2 : Hid (Below w.heap.size w w1) := hw1.out.trans (hb2.mono (by simp))
  have hs1 : w.heap.size < w1.heap.size := (Array.getElem?_eq_some_iff.1 hx1.out).1
  clear hb2 hb1 hw1
  rw [show decide (21 * 0 ≤ 1048576) = true from rfl]
  go_wp2_with fail
  refine (zznew_any _).mono ?_
  rintro e w2 ⟨rfl, rfl⟩
  have G3 : Hid ((w1.alloc (.cells (nst (.pointer none) (.pointer none) z20 z20 0) 54)).heap[w1.heap.size]? = some (.cells (nst (.pointer none) (.pointer none) z20 z20 (0 : Nat)) 54)) := heap_alloc_new _ _
  have hx2 : Hid ((w1.alloc (.cells (nst (.pointer none) (.pointer none) z20 z20 0) 54)).heap[w.heap.size]? = some (.cells (bv x) 30)) := (Below.heap_alloc _ _ _ hs1).trans hx1.out
  have hw3 : Hid (Below w.heap.size w (w1.alloc (.cells (nst (.pointer none) (.pointer none) z20 z20 0) 54))) := hw2.out.alloc (by omega) _
  generalize w1.alloc (.cells (nst (.pointer none) (.pointer none) z20 z20 0) 54) = w2 at G3 hx2 hw3 ⊢
  clear hx1 hw2
  go_wp2
  refine wp_loop_rounds 1 ?_
  rw [rounds_succ]
  go_wp2_with (first | (refine wpList_load_seg rfl 30 (.tmp 3) rfl _ _ rfl (bv x) _ (by exact seg_row hx2.out) Try.underlying30 rfl (by rw [Try.info30, bv_size, hx]) ?_))
  refine (zzadmits_any _ _ Plain.start x w1.heap.size _ rfl rfl hx G3.out).mono ?_
  rintro e w4 ⟨rfl, hb4⟩
  have hw4 : Hid (Below w.heap.size w w4) := hw3.out.trans (hb4.mono hw3.out.size)
  clear hb4 hw3 G3 hx2
  rw [show admits Plain.start x = true by simp [admits, Plain.start]]
  go_wp2
  refine wp_loop_rounds 1 ?_
  rw [rounds_succ]
  go_wp2
  go_ret
  exact ⟨rfl, hw4.out.alloc hw4.out.size _⟩

set_option maxRecDepth 10000 in
set_option maxHeartbeats 1000000 in
theorem law1_walk (b off len cap : Nat) (l : List (List UInt8)) (x : List UInt8) (w : World) (hl : l.length = len) (hlen : len ≤ 9223372036854775807) (h20 : ∀ y ∈ l, y.length = 20) (hx : x.length = 20)
    (hoff : ∀ i, i < l.length → Seg w b (off + i * 20) (bv (l.getD i []))) (hb : 0 < l.length → b < w.heap.size) :
    Calls Try.prog 4 #[.slice (some ⟨b, off, none⟩) len cap, .agg (bv x)] w fun e w' => e = .returned (.bool true) ∧ Below w.heap.size w w' := by
  have E1 : Hid (Env w b off l x (w.alloc (.cells (bv x) 30))) := ⟨fun i hi => (hoff i hi).below ((Below.refl w.heap.size _).alloc (Nat.le_refl _) _) (hb (by omega)), heap_alloc_new _ _, (Below.refl _ _).alloc (Nat.le_refl _) _, hb⟩
  have HL : Hid (l.length = len) := hl
  have H20 : Hid (∀ y ∈ l, y.length = 20) := h20
  clear hoff hb hl h20
  go_enter Try.func4, Try.ntmps4
  go_wp2_with (first | (refine wpList_load_seg rfl 30 (.tmp 3) rfl _ _ rfl (bv x) _ (by exact seg_row E1.out.box) Try.underlying30 rfl (by rw [Try.info30, bv_size, hx]) ?_))
  refine (zzbytes9 _ len cap _ _ hlen).mono ?_
  rintro e w1 ⟨rfl, hb1⟩
  have E2 : Hid (Env w b off l x w1) := E1.out.later hb1 (by simp)
  clear hb1 E1
  by_cases hz : 21 * len ≤ 1048576
  case neg =>
    have hz' : decide (21 * len ≤ 1048576) = false := by simpa using hz
    rw [hz']
    clear hz hz'
    go_wp2
    go_ret
    exact ⟨rfl, E2.out.below⟩
  have hz' : decide (21 * len ≤ 1048576) = true := by simpa using hz
  rw [hz']
  have hlen' : (len : Int) ≤ 49932 := by omega
  clear hz hz' hlen
  by_cases h15 : (32768 : Int) < (len : Int)
  case pos =>
    go_wp2
    go_ret
    exact ⟨rfl, E2.out.below⟩
  go_wp2_with fail
  refine (zznew_any _).mono ?_
  rintro e w2 ⟨rfl, rfl⟩
  have E3 : Hid (Env w b off l x (w1.alloc (.cells (nst (.pointer none) (.pointer none) z20 z20 0) 54))) := E2.out.later ((Below.refl w1.heap.size _).alloc (Nat.le_refl _) _) E2.out.size
  have hgN : w.heap.size < w1.heap.size := E2.out.size
  have G3 : Hid ((w1.alloc (.cells (nst (.pointer none) (.pointer none) z20 z20 0) 54)).heap[w1.heap.size]? = some (.cells (nst (.pointer none) (.pointer none) (run (l.take 0)).o0 (run (l.take 0)).o1 (run (l.take 0)).c) 54)) := heap_alloc_new _ _
  obtain ⟨g, hg⟩ : ∃ g, g = w1.heap.size := ⟨_, rfl⟩
  rw [← hg] at G3 hgN ⊢
  generalize w1.alloc (.cells (nst (.pointer none) (.pointer none) z20 z20 0) 54) = w2 at E3 G3 ⊢
  clear E2 hg
  go_wp2
  go_loopw [6] (fun i wr => ∃ k : Nat, k ≤ len ∧ i = .int .i64 k ∧ (∃ p0 p1, wr.heap[g]? = some (.cells (nst (.pointer p0) (.pointer p1) (run (l.take k)).o0 (run (l.take k)).o1 (run (l.take k)).c) 54)) ∧ Env w b off l x wr) (fun i _ => len - (intOf i).toNat)
  case atStart => exact ⟨0, by omega, rfl, ⟨_, _, G3.out⟩, E3.out⟩
  case round =>
    obtain ⟨k, hk, rfl, ⟨p0, p1, hg⟩, hE⟩ := hrel
    have HG : Hid (wr.heap[g]? = some (.cells (nst (.pointer p0) (.pointer p1) (run (l.take k)).o0 (run (l.take k)).o1 (run (l.take k)).c) 54)) := hg
    have HE : Hid (Env w b off l x wr) := hE
    have hgs : g < wr.heap.size := (Array.getElem?_eq_some_iff.1 hg).1
    clear hg hE E3 G3
    obtain ⟨r0, r1, rc⟩ := run_len l H20.out k
    have R0 : Hid _ := r0
    have R1 : Hid _ := r1
    have RC : Hid _ := rc
    clear r0 r1 rc
    by_cases hlt : k < len
    · obtain ⟨y, hy⟩ : ∃ y, y = l.getD k [] := ⟨_, rfl⟩
      have hyl : y.length = 20 := by
        rw [hy]; apply H20.out
        have hk' : k < l.length := by rw [HL.out]; exact hlt
        simp [List.getD, hk']
      have HY : Hid (y = l.getD k []) := hy
      clear hy
      have hs : Hid (Seg wr b (off + k * 20) (bv y)) := by have := HE.out.offs k (by rw [HL.out]; exact hlt); rw [← HY.out] at this; exact this
      go_wp2_with (first | (refine wpList_load_seg rfl 30 (.tmp 29) rfl _ _ rfl (bv y) _ (by exact hs.out) Try.underlying30 rfl (by rw [Try.info30, bv_size, hyl]) ?_))
      refine (zzoffer_any p0 p1 (run (l.take k)) y g _ R0.out R1.out hyl HG.out RC.out).mono ?_
      rintro e w3 ⟨rfl, hp, hb3⟩
      have HP : Hid _ := hp
      have HE3 : Hid (Env w b off l x w3) := HE.out.later hb3 hgN
      clear hp hb3 hs HG HE R0 R1 RC
      go_wp2
      go_roundw
      case rel =>
        refine ⟨k + 1, by omega, by go_num, ?_, HE3.out⟩
        rw [run_take l k (by rw [HL.out]; exact hlt), ← HY.out]
        exact HP.out
      case measure => simp [intOf]; omega
    · obtain rfl : k = len := by omega
      go_wp2_with (first | (refine wpList_load_seg rfl 30 (.tmp 3) rfl _ _ rfl (bv x) _ (by exact seg_row HE.out.box) Try.underlying30 rfl (by rw [Try.info30, bv_size, hx]) ?_))
      refine (zzadmits_any _ _ (run (l.take k)) x g _ R0.out R1.out hx HG.out).mono ?_
      rintro e w4 ⟨rfl, hb4⟩
      have HE4 : Hid (Env w b off l x w4) := HE.out.later hb4 (by omega)
      have hF : w.heap.size < w4.heap.size := HE4.out.size
      clear HE HG R0 R1 RC hgs hb4
      have hbo : Hid (admits (run (l.take k)) x = !(lookAll x l).two) := by rw [List.take_of_length_le (by rw [HL.out]; exact Nat.le_refl _)]; exact law1 l x
      obtain ⟨got, hgot⟩ : ∃ got, got = admits (run (l.take k)) x := ⟨_, rfl⟩
      rw [← hgot] at hbo ⊢
      clear hgot
      go_wp2
      have F0 : Hid ((w4.alloc (.cells (bv z20) 30)).heap[w4.heap.size]? = some (.cells (bv (lookAll x (l.take 0)).first) 30)) := heap_alloc_new _ _
      have HE5 : Hid (Env w b off l x (w4.alloc (.cells (bv z20) 30))) := HE4.out.later ((Below.refl w4.heap.size _).alloc (Nat.le_refl _) _) hF
      have hz20 : (#[Value.int .u8 0, Value.int .u8 0, Value.int .u8 0, Value.int .u8 0, Value.int .u8 0, Value.int .u8 0, Value.int .u8 0, Value.int .u8 0, Value.int .u8 0, Value.int .u8 0, Value.int .u8 0, Value.int .u8 0, Value.int .u8 0, Value.int .u8 0, Value.int .u8 0, Value.int .u8 0, Value.int .u8 0, Value.int .u8 0, Value.int .u8 0, Value.int .u8 0] : Array Value) = bv z20 := rfl
      rw [hz20]
      clear hz20
      obtain ⟨F, hFe⟩ : ∃ F, F = w4.heap.size := ⟨_, rfl⟩
      rw [← hFe] at hF F0 ⊢
      generalize w4.alloc (.cells (bv z20) 30) = w5 at F0 HE5 ⊢
      clear HE4 hFe
      go_loopw [9, 10, 11] (fun f t i wr => ∃ j : Nat, j ≤ k ∧ i = .int .i64 j ∧ f = .bool (lookAll x (l.take j)).found ∧ t = .bool (lookAll x (l.take j)).two ∧ wr.heap[F]? = some (.cells (bv (lookAll x (l.take j)).first) 30) ∧ (lookAll x (l.take j)).first.length = 20 ∧ Env w b off l x wr) (fun _ _ i _ => k - (intOf i).toNat)
      case atStart => exact ⟨0, by omega, rfl, rfl, rfl, F0.out, rfl, HE5.out⟩
      case round =>
        obtain ⟨j, hj, rfl, rfl, rfl, hf, hfl, hE⟩ := hrel
        have HF : Hid (wr.heap[F]? = some (.cells (bv (lookAll x (l.take j)).first) 30)) := hf
        have HE : Hid (Env w b off l x wr) := hE
        have hFs : F < wr.heap.size := (Array.getElem?_eq_some_iff.1 hf).1
        have hNs : w.heap.size < wr.heap.size := hE.size
        clear hf hE F0 HE5
        obtain ⟨L, hL⟩ : ∃ L, L = lookAll x (l.take j) := ⟨_, rfl⟩
        rw [← hL] at HF hfl ⊢
        have HLk : Hid (L = lookAll x (l.take j)) := hL
        clear hL
        obtain ⟨fd, fs, tw⟩ := L
        dsimp only at HF hfl ⊢
        by_cases hlt : j < k
        case neg =>
          obtain rfl : j = k := by omega
          have hr : got = !tw := by
            rw [hbo.out]
            have e1 := HLk.out
            rw [List.take_of_length_le (by rw [HL.out]; exact Nat.le_refl _)] at e1
            rw [← e1]
          subst hr
          have hd : decide ((j : Int) < (j : Int)) = false := by simp
          go_wp2
          go_ret
          exact ⟨ret_bool (by simp), HE.out.below⟩
        case pos =>
        cases tw
        case true =>
          have hr : got = false := by
            rw [hbo.out, lookAll_stop x l j (by rw [← HLk.out])]; rfl
          subst hr
          go_wp2
          go_ret
          exact ⟨rfl, HE.out.below⟩
        case false =>
        obtain ⟨y, hy⟩ : ∃ y, y = l.getD j [] := ⟨_, rfl⟩
        have hj' : j < l.length := by rw [HL.out]; exact hlt
        have HJ : Hid (j < l.length) := hj'
        have hyl : y.length = 20 := by
          rw [hy]; apply H20.out
          simp [List.getD, hj']
        have HY : Hid (y = l.getD j []) := hy
        clear hy hj'
        have hn := later_some wr
        have s1 : Hid (∀ e : Later wr, Seg e.x b (off + j * 20) (bv y)) := fun e => by have := (HE.out.later e.h hNs).offs j HJ.out; rw [← HY.out] at this; exact this
        have s2 : Hid (∀ e : Later wr, Seg e.x w.heap.size 0 (bv x)) := fun e => seg_row (HE.out.later e.h hNs).box
        go_wp2
        refine wp_region_later Try.follows (by kernel_rfl) ?_
        repeat (first
          | (go_big_quiet_want; refine later_load 30 (.tmp 3) rfl _ _ rfl _ _ s2.out Try.underlying30 rfl (by rw [Try.info30, bv_size, hx]) ?_; simp only [Act.put, List.setIfInBounds_toArray, List.set_cons_succ, List.set_cons_zero]; go_big_quiet_on)
          | (go_big_quiet_want; refine later_load 30 (.tmp 47) rfl _ _ rfl _ _ s1.out Try.underlying30 rfl (by rw [Try.info30, bv_size, hyl]) ?_; simp only [Act.put, List.setIfInBounds_toArray, List.set_cons_succ, List.set_cons_zero]; go_big_quiet_on)
          | go_big_quiet_step ((go_at_call 13; exact later_call _ (less_any y x _ hyl hx))))
        refine wpQuiet_nil ?_
        rintro ⟨w6, hb6⟩; dsimp only
        have HE6 : Hid (Env w b off l x w6) := HE.out.later hb6 hNs
        have HF6 : Hid (w6.heap[F]? = some (.cells (bv fs) 30)) := (hb6.block _ hFs).trans HF.out
        clear HE HF hb6 s1 s2 hn
        have hstep : Hid (lookAll x (l.take (j + 1)) = Plain.look x ⟨fd, fs, false⟩ y) := by
          show _ = _
          rw [look_take x l j HJ.out, ← HY.out, ← HLk.out]
        obtain ⟨ly, hly⟩ : ∃ v, v = lt y x := ⟨_, rfl⟩
        rw [← hly]
        have HLY : Hid (ly = lt y x) := hly
        clear hly
        cases ly
        case false =>
          have hst : Hid (lookAll x (l.take (j + 1)) = ⟨fd, fs, false⟩) := by
            show _ = _
            rw [hstep.out]; simp [Plain.look, ← HLY.out]
          go_wp2
          go_roundw
          case rel => exact ⟨j + 1, by omega, by go_num, by rw [hst.out], by rw [hst.out], by rw [hst.out]; exact HF6.out, by rw [hst.out]; exact hfl, HE6.out⟩
          case measure => simp [intOf]; omega
        case true =>
        cases fd
        case false =>
          have hst : Hid (lookAll x (l.take (j + 1)) = ⟨true, y, false⟩) := by
            show _ = _
            rw [hstep.out]; simp [Plain.look, ← HLY.out]
          have s1 : Hid (Seg w6 b (off + j * 20) (bv y)) := by have := HE6.out.offs j HJ.out; rw [← HY.out] at this; exact this
          go_wp2_with (first
            | (refine wpList_load_seg rfl 30 (.tmp 55) rfl _ _ rfl (bv y) _ (by exact s1.out) Try.underlying30 rfl (by rw [Try.info30, bv_size, hyl]) ?_)
            | (refine wpList_store_seg rfl 30 (.tmp 8) (.tmp 56) rfl _ _ (bv y) rfl rfl _ _ (by exact HF6.out) (by rw [Try.info30, bv_size, hyl]) (by rw [bv_size, bv_size, hyl, hfl]; omega) (bv_one y) ?_))
          go_roundw
          case rel =>
            refine ⟨j + 1, by omega, by go_num, by rw [hst.out], by rw [hst.out], ?_, by rw [hst.out]; exact hyl, HE6.out.later (B := F) ⟨rfl, rfl, rfl, by simp, fun q hq => setRow_other _ _ _ _ (by omega)⟩ hF⟩
            rw [hst.out, setRow_heap _ _ _ _ _ _ HF6.out, over_all _ _ (by rw [bv_size, bv_size, hyl, hfl])]
          case measure => simp [intOf]; omega
        case true =>
          have hn := later_some w6
          have hNs6 : w.heap.size < w6.heap.size := HE6.out.size
          have hFs6 : F < w6.heap.size := (Array.getElem?_eq_some_iff.1 HF6.out).1
          have s1 : Hid (∀ e : Later w6, Seg e.x b (off + j * 20) (bv y)) := fun e => by have := (HE6.out.later e.h hNs6).offs j HJ.out; rw [← HY.out] at this; exact this
          have s2 : Hid (∀ e : Later w6, Seg e.x F 0 (bv fs)) := fun e => seg_row ((e.h.block _ hFs6).trans HF6.out)
          have heg := Try.eqg30
          by_cases hyf : y = fs
          · have heq : ∀ w, (Op.equalIn 10000 30 (.agg (bv y)) (.agg (bv fs))).run Try.prog w = .ok true w := fun w => by
              rw [equalIn_bv (P := Try.prog) w 9998 30 5 20 Try.underlying30 Try.underlying5 Try.info5 _ _ hyl hfl]; simp [hyf]
            have hst : Hid (lookAll x (l.take (j + 1)) = ⟨true, fs, false⟩) := by
              show _ = _
              rw [hstep.out]; simp [Plain.look, hyf]
            clear hyf
            go_wp2
            refine wp_region_later Try.follows (by kernel_rfl) ?_
            repeat (first
              | (go_big_quiet_want; refine later_load 30 (.tmp 8) rfl _ _ rfl _ _ s2.out Try.underlying30 rfl (by rw [Try.info30, bv_size, hfl]) ?_; simp only [Act.put, List.setIfInBounds_toArray, List.set_cons_succ, List.set_cons_zero]; go_big_quiet_on)
              | (go_big_quiet_want; refine later_load 30 (.tmp 59) rfl _ _ rfl _ _ s1.out Try.underlying30 rfl (by rw [Try.info30, bv_size, hyl]) ?_; simp only [Act.put, List.setIfInBounds_toArray, List.set_cons_succ, List.set_cons_zero]; go_big_quiet_on)
              | go_big_quiet_step (fail))
            refine wpQuiet_nil ?_
            rintro ⟨w7, hb7⟩; dsimp only
            have HE7 : Hid (Env w b off l x w7) := HE6.out.later hb7 hNs6
            have HF7 : Hid (w7.heap[F]? = some (.cells (bv fs) 30)) := (hb7.block _ hFs6).trans HF6.out
            clear HE6 HF6 hb7 s1 s2 hn heq
            go_wp2
            go_roundw
            case rel => exact ⟨j + 1, by omega, by go_num, by rw [hst.out], by rw [hst.out], by rw [hst.out]; exact HF7.out, by rw [hst.out]; exact hfl, HE7.out⟩
            case measure => simp [intOf]; omega
          · have heq : ∀ w, (Op.equalIn 10000 30 (.agg (bv y)) (.agg (bv fs))).run Try.prog w = .ok false w := fun w => by
              rw [equalIn_bv (P := Try.prog) w 9998 30 5 20 Try.underlying30 Try.underlying5 Try.info5 _ _ hyl hfl]; simp [hyf]
            have hst : Hid (lookAll x (l.take (j + 1)) = ⟨true, fs, true⟩) := by
              show _ = _
              rw [hstep.out]; simp [Plain.look, hyf, ← HLY.out]
            clear hyf
            go_wp2
            refine wp_region_later Try.follows (by kernel_rfl) ?_
            repeat (first
              | (go_big_quiet_want; refine later_load 30 (.tmp 8) rfl _ _ rfl _ _ s2.out Try.underlying30 rfl (by rw [Try.info30, bv_size, hfl]) ?_; simp only [Act.put, List.setIfInBounds_toArray, List.set_cons_succ, List.set_cons_zero]; go_big_quiet_on)
              | (go_big_quiet_want; refine later_load 30 (.tmp 59) rfl _ _ rfl _ _ s1.out Try.underlying30 rfl (by rw [Try.info30, bv_size, hyl]) ?_; simp only [Act.put, List.setIfInBounds_toArray, List.set_cons_succ, List.set_cons_zero]; go_big_quiet_on)
              | go_big_quiet_step (fail))
            refine wpQuiet_nil ?_
            rintro ⟨w7, hb7⟩; dsimp only
            have HE7 : Hid (Env w b off l x w7) := HE6.out.later hb7 hNs6
            have HF7 : Hid (w7.heap[F]? = some (.cells (bv fs) 30)) := (hb7.block _ hFs6).trans HF6.out
            clear HE6 HF6 hb7 s1 s2 hn heq
            go_wp2
            go_roundw
            case rel => exact ⟨j + 1, by omega, by go_num, by rw [hst.out], by rw [hst.out], by rw [hst.out]; exact HF7.out, by rw [hst.out]; exact hfl, HE7.out⟩
            case measure => simp [intOf]; omega
end Go.Proofs.Qxb6609493a
