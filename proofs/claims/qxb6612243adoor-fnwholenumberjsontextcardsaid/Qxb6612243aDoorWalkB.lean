import Derived.Test.Qxb6612243aDoorWalkA
import Derived.Laws.DeepStrings4
import Derived.Lib.Strings
namespace Go.Proofs.Qxb6612243aDoor
open Go.RowKit
set_option linter.unusedVariables false

/-- the rest of a right-nested row of statements -/
def tl : Nat → Code → Code
  | 0, c => c
  | n + 1, .seq _ b => tl n b
  | _ + 1, c => c

theorem ret_two {a b : Int} {x y : Bool} (h : a = b) (h2 : x = y) : Ending.returned (.tuple #[.int .i64 a, .bool x]) = .returned (.tuple #[.int .i64 b, .bool y]) := by rw [h, h2]

def r14 (neg : Bool) (g : List UInt8) : Int × Bool :=
  if neg = false then (if gtB g c2 then (9223372036854775807, false) else ((valF 0 g : Nat), true))
  else if gtB g c3 then (-9223372036854775808, false) else (-((valF 0 g : Nat) : Int), true)
def r10 (neg : Bool) (dl j len : Nat) (g : List UInt8) : Int × Bool :=
  if gtB g c1 then (if neg then -9223372036854775808 else 9223372036854775807, false)
  else if dl = 0 ∨ j ≠ len then (0, false)
  else r14 neg g

abbrev Post (w : World) (r : Int × Bool) (Q : Exit → Act → World → Prop) : Prop := Q = bodyPost Tryd.prog Tryd.f5 fun e w' => e = .returned (.tuple #[.int .i64 r.1, .bool r.2]) ∧ ∃ n, w' = w.drewN n

theorem xor_max (V : Nat) (h : V ≤ 18446744073709551615) : bits .xor .u64 IntKind.u64.max (V : Int) = 18446744073709551615 - (V : Int) := by
  have e0 : bits .xor .u64 IntKind.u64.max (V : Int) = IntKind.u64.wrap ((BitVec.ofInt 64 18446744073709551615 ^^^ BitVec.ofInt 64 (V : Int)).toNat : Int) := rfl
  have e1 : BitVec.ofInt 64 18446744073709551615 = BitVec.allOnes 64 := by decide
  have e3 : (BitVec.allOnes 64 ^^^ BitVec.ofNat 64 V).toNat = 18446744073709551615 - V := by
    rw [BitVec.allOnes_xor, BitVec.toNat_not, BitVec.toNat_ofNat, Nat.mod_eq_of_lt (by omega)]
  rw [e0, e1, BitVec.ofInt_natCast, e3]
  have e4 : ((18446744073709551615 - V : Nat) : Int) = 18446744073709551615 - (V : Int) := by omega
  rw [e4]
  unfold IntKind.wrap
  have e5 : IntKind.u64.bits = 64 := rfl
  have e6 : IntKind.u64.signed = false := rfl
  simp only [e5, e6]
  simp
  omega
theorem neg_back (V : Nat) (h : V ≤ 9223372036854775808) : wrap64 (IntKind.u64.wrap (bits BinOp.xor IntKind.u64 IntKind.u64.max (V : Int) + 1)) = -(V : Int) := by
  rw [xor_max V (by omega)]
  unfold IntKind.wrap wrap64
  have e5 : IntKind.u64.bits = 64 := rfl
  have e6 : IntKind.u64.signed = false := rfl
  simp only [e5, e6]
  simp
  omega

set_option maxRecDepth 10000 in
set_option maxHeartbeats 1000000 in
theorem tail14 (neg : Bool) (g : ByteArray) (V : Nat) (hg : g.size ≤ 1048576) (hV : V = valF 0 g.data.toList) (h2 : gtB g.data.toList c2 = false → V ≤ 9223372036854775807) (h3 : gtB g.data.toList c3 = false → V ≤ 9223372036854775808) (w wn : World) (n0 : Nat) (hw : wn = w.drewN n0)
    {u0 u1 u2 u3 u4 u6 u7 u8 u11 u12 u13 u14 u15 u16 u17 u18 u19 u20 u21 u22 u23 u24 u25 u26 u27 u28 u29 u30 u31 u32 u33 u34 u35 u36 u37 u38 u39 u40 u41 u42 u43 u44 u45 u46 u47 u48 u49 u50 u51 u52 u53 u54 u55 u56 u57 u58 u59 u60 u61 u62 u63 u64 u65 u66 u67 u68 u69 u70 u71 u72 u73 u74 u75 u76 u77 u78 u79 u80 u81 u82 u83 u84 u85 u86 u87 u88 u89 u90 u91 u92 u93 u94 u95 u96 u97 u98 u99 u100 u101 u102 u103 : Value} (Q : Exit → Act → World → Prop) (hQ : Post w (r14 neg g.data.toList) Q) :
    Code.wp Tryd.prog (tl 14 (Tryd.f5.body.getD .skip)) Q ⟨#[u0, u1, u2, u3, u4, .bool neg, u6, u7, u8, .string g, .int .u64 (V : Nat), u11, u12, u13, u14, u15, u16, u17, u18, u19, u20, u21, u22, u23, u24, u25, u26, u27, u28, u29, u30, u31, u32, u33, u34, u35, u36, u37, u38, u39, u40, u41, u42, u43, u44, u45, u46, u47, u48, u49, u50, u51, u52, u53, u54, u55, u56, u57, u58, u59, u60, u61, u62, u63, u64, u65, u66, u67, u68, u69, u70, u71, u72, u73, u74, u75, u76, u77, u78, u79, u80, u81, u82, u83, u84, u85, u86, u87, u88, u89, u90, u91, u92, u93, u94, u95, u96, u97, u98, u99, u100, u101, u102, u103], []⟩ wn := by
  delta Tryd.f5
  dsimp only [tl, Option.getD_some]
  unfold Post at hQ
  have HV : Hid (V = valF 0 g.data.toList) := hV
  clear hV
  subst hw
  cases neg
  · obtain ⟨q, hq⟩ : ∃ q, gtB g.data.toList c2 = q := ⟨_, rfl⟩
    have hr : r14 false g.data.toList = if q then (9223372036854775807, false) else ((V : Int), true) := by
      unfold r14; rw [if_pos rfl, hq, HV.out]
    rw [hr] at hQ
    have HG : Hid _ := greater_any g ⟨#[57, 50, 50, 51, 51, 55, 50, 48, 51, 54, 56, 53, 52, 55, 55, 53, 56, 48, 55]⟩ (by omega) (by decide) (w.drewN n0)
    have e : gtB g.data.toList (⟨#[57, 50, 50, 51, 51, 55, 50, 48, 51, 54, 56, 53, 52, 55, 55, 53, 56, 48, 55]⟩ : ByteArray).data.toList = q := hq
    rw [e] at HG
    rw [hq] at h2
    clear e hr h3 hq HV
    subst hQ
    cases q
    · have hv := h2 rfl
      have hv' : (V : Int) ≤ 9223372036854775807 := by omega
      clear h2
      go_wp2_with fail
      refine Calls.mono HG.out ?_
      rintro e w1 ⟨rfl, m, rfl⟩
      go_wp2
      go_ret2
      refine ⟨ret_two ?_ rfl, _, rfl⟩
      first | rfl | (simp; done)
    · clear h2
      go_wp2_with fail
      refine Calls.mono HG.out ?_
      rintro e w1 ⟨rfl, m, rfl⟩
      go_wp2
      go_ret2
      exact ⟨rfl, _, rfl⟩
  · obtain ⟨q, hq⟩ : ∃ q, gtB g.data.toList c3 = q := ⟨_, rfl⟩
    have hr : r14 true g.data.toList = if q then (-9223372036854775808, false) else (-(V : Int), true) := by
      unfold r14; rw [if_neg (by decide), hq, HV.out]
    rw [hr] at hQ
    have HG : Hid _ := greater_any g ⟨#[57, 50, 50, 51, 51, 55, 50, 48, 51, 54, 56, 53, 52, 55, 55, 53, 56, 48, 56]⟩ (by omega) (by decide) (w.drewN n0)
    have e : gtB g.data.toList (⟨#[57, 50, 50, 51, 51, 55, 50, 48, 51, 54, 56, 53, 52, 55, 55, 53, 56, 48, 56]⟩ : ByteArray).data.toList = q := hq
    rw [e] at HG
    rw [hq] at h3
    clear e hr h2 hq HV
    subst hQ
    cases q
    · have hv := h3 rfl
      have hv' : (V : Int) ≤ 9223372036854775808 := by omega
      clear h3
      go_wp2_with fail
      refine Calls.mono HG.out ?_
      rintro e w1 ⟨rfl, m, rfl⟩
      go_wp2
      go_ret2
      refine ⟨ret_two ?_ rfl, _, rfl⟩
      exact neg_back V hv
    · clear h3
      go_wp2_with fail
      refine Calls.mono HG.out ?_
      rintro e w1 ⟨rfl, m, rfl⟩
      go_wp2
      go_ret2
      exact ⟨rfl, _, rfl⟩
end Go.Proofs.Qxb6612243aDoor
