import Derived.Test.Qxb6612204aWalkE
import Derived.Test.Qxb6612204aKit2
namespace Go.Proofs.Qxb6612204a
open Go.RowKit Plain
set_option linter.unusedVariables false

/-- The cells of a tombstone; of a state. -/
def tombRow (T R : List UInt8) (r0 r1 n e : Int) : Array Value := bv T ++ bv R ++ #[.int .u64 r0, .int .u64 r1, .int .i64 n, .int .u64 e]
def stRow (node set : ByteArray) (rank holds : Int) (rec : List UInt8) (tomb : Array Value) : Array Value := #[.string node, .string set, .int .u64 rank, .int .i64 holds] ++ bv rec ++ tomb

theorem tombRow_size (T R : List UInt8) (r0 r1 n e : Int) (hT : T.length = 1024) (hR : R.length = 1024) : (tombRow T R r0 r1 n e).size = 2052 := by simp [tombRow, bv_size, hT, hR]
theorem stRow_size (node set : ByteArray) (rank holds : Int) (rec : List UInt8) (tomb : Array Value) (hr : rec.length = 1024) (ht : tomb.size = 2052) : (stRow node set rank holds rec tomb).size = 3080 := by simp [stRow, bv_size, hr, ht]

theorem zero22 : (Try.prog.info? 22).map (·.zero) = some (some (.agg (bv zeros))) := by kernel_rfl
theorem zero57 : (Try.prog.info? 57).map (·.zero) = some (some (.agg (bv zeros))) := by kernel_rfl
theorem bv_zeros_list : (bv zeros).toList = List.replicate 1024 (Value.int .u8 0) := by
  unfold bv zeros
  rw [List.map_replicate]
  rfl
theorem zero61a : (Try.prog.info? 61).map (·.zero) = some (some (.agg (List.replicate (1024 + 1024) (Value.int .u8 0) ++ [Value.int .u64 0, Value.int .u64 0, Value.int .i64 0, Value.int .u64 0]).toArray)) := by kernel_rfl
theorem zero64a : (Try.prog.info? 64).map (·.zero) = some (some (.agg ([Value.string ⟨#[]⟩, Value.string ⟨#[]⟩, Value.int .u64 0, Value.int .i64 0] ++ List.replicate (1024 + (1024 + 1024)) (Value.int .u8 0) ++ [Value.int .u64 0, Value.int .u64 0, Value.int .i64 0, Value.int .u64 0]).toArray)) := by kernel_rfl
theorem tomb_zero : (List.replicate (1024 + 1024) (Value.int .u8 0) ++ [Value.int .u64 0, Value.int .u64 0, Value.int .i64 0, Value.int .u64 0]).toArray = tombRow zeros zeros 0 0 0 0 := by
  apply Array.ext'
  unfold tombRow
  rw [Array.toList_append, Array.toList_append, bv_zeros_list, List.replicate_append_replicate]
theorem st_zero : ([Value.string ⟨#[]⟩, Value.string ⟨#[]⟩, Value.int .u64 0, Value.int .i64 0] ++ List.replicate (1024 + (1024 + 1024)) (Value.int .u8 0) ++ [Value.int .u64 0, Value.int .u64 0, Value.int .i64 0, Value.int .u64 0]).toArray = stRow ⟨#[]⟩ ⟨#[]⟩ 0 0 zeros (tombRow zeros zeros 0 0 0 0) := by
  apply Array.ext'
  unfold stRow
  rw [← tomb_zero, Array.toList_append, Array.toList_append, bv_zeros_list, ← List.replicate_append_replicate (n := 1024) (m := 1024 + 1024)]
  simp only [List.append_assoc]
theorem zero61 : (Try.prog.info? 61).map (·.zero) = some (some (.agg (tombRow zeros zeros 0 0 0 0))) := by rw [zero61a, tomb_zero]
theorem zero64 : (Try.prog.info? 64).map (·.zero) = some (some (.agg (stRow ⟨#[]⟩ ⟨#[]⟩ 0 0 zeros (tombRow zeros zeros 0 0 0 0)))) := by rw [zero64a, st_zero]
theorem und57 : Try.prog.underlying 57 = some (.struct (Try.prog.fieldsOf 57)) := by kernel_rfl
theorem und61 : Try.prog.underlying 61 = some (.struct (Try.prog.fieldsOf 61)) := by kernel_rfl
theorem und64 : Try.prog.underlying 64 = some (.struct (Try.prog.fieldsOf 64)) := by kernel_rfl
theorem pl57 : (Try.prog.fieldsOf 57).toList.mapM (fun f => (Try.prog.info? f.type).map fun i => (f.offset, i.size)) = some [(0, 1024)] := by kernel_rfl
theorem pl61 : (Try.prog.fieldsOf 61).toList.mapM (fun f => (Try.prog.info? f.type).map fun i => (f.offset, i.size)) = some [(0, 1024), (1024, 1024), (2048, 3), (2051, 1)] := by kernel_rfl
theorem pl64 : (Try.prog.fieldsOf 64).toList.mapM (fun f => (Try.prog.info? f.type).map fun i => (f.offset, i.size)) = some [(0, 1), (1, 1), (2, 1), (3, 1), (4, 1024), (1028, 2052)] := by kernel_rfl

theorem bv_zeros_size : (bv zeros).size = 1024 := by rw [bv_size, zeros_len]

theorem over_all (cur vs : Array Value) (h : vs.size = cur.size) : over cur 0 vs = vs := by
  unfold over
  apply Array.ext'
  simp [h]

theorem built57 (l : List UInt8) (hl : l.length = 1024) : Try.prog.built 57 [(0, .agg (bv l))] = some (bv l) := by
  rw [built_struct 57 _ _ _ _ zero57 und57 pl57, fill_cons _ _ 0 _ _ 0 1024 rfl (by show (bv l).size = 1024; rw [bv_size, hl]) (by show 0 + 1024 ≤ (bv zeros).size; rw [bv_zeros_size]; omega)]
  show some (over (bv zeros) 0 (bv l)) = _
  rw [over_all _ _ (by rw [bv_size, hl, bv_zeros_size])]

theorem over_left (A X : Array Value) (o : Nat) (vs : Array Value) (h : o + vs.size ≤ A.size) : over (A ++ X) o vs = over A o vs ++ X := by
  unfold over
  apply Array.ext'
  simp only [Array.toList_append]
  rw [List.take_append_of_le_length (by simp; omega), List.drop_append_of_le_length (by simp; omega)]
  simp only [List.append_assoc]
theorem over_right (A X : Array Value) (o : Nat) (vs : Array Value) : over (A ++ X) (A.size + o) vs = A ++ over X o vs := by
  unfold over
  apply Array.ext'
  simp only [Array.toList_append]
  rw [List.take_append, List.drop_append, List.take_of_length_le (by simp), @List.drop_eq_nil_of_le _ A.toList _ (by simp; omega)]
  simp only [Array.length_toList, List.nil_append, List.append_assoc]
  congr 3
  · congr 1; omega
  · congr 2; omega

theorem fill61 (Z1 Z2 T R : List UInt8) (r0 r1 n e : Int) (h1 : Z1.length = 1024) (h2 : Z2.length = 1024) (hT : T.length = 1024) (hR : R.length = 1024) :
    Instr.fill ([(0, 1024), (1024, 1024), (2048, 3), (2051, 1)].toArray[·]?) (tombRow Z1 Z2 0 0 0 0) [(0, .agg (bv T)), (1, .agg (bv R)), (2, .agg #[.int .u64 r0, .int .u64 r1, .int .i64 n]), (3, .int .u64 e)] = some (tombRow T R r0 r1 n e) := by
  have sT : (bv T).size = 1024 := by rw [bv_size, hT]
  have sR : (bv R).size = 1024 := by rw [bv_size, hR]
  have s1 : (bv Z1).size = 1024 := by rw [bv_size, h1]
  have s2 : (bv Z2).size = 1024 := by rw [bv_size, h2]
  have e1 : over (tombRow Z1 Z2 0 0 0 0) 0 (bv T) = tombRow T Z2 0 0 0 0 := by
    unfold tombRow
    rw [over_left _ _ _ _ (by rw [Array.size_append, s1, s2, sT]; omega), over_left _ _ _ _ (by rw [s1, sT]; omega), over_all _ _ (by rw [s1, sT])]
  have e2 : over (tombRow T Z2 0 0 0 0) 1024 (bv R) = tombRow T R 0 0 0 0 := by
    unfold tombRow
    rw [over_left _ _ _ _ (by rw [Array.size_append, s2, sT, sR]; omega)]
    have := over_right (bv T) (bv Z2) 0 (bv R)
    rw [sT, Nat.add_zero, over_all _ _ (by rw [s2, sR])] at this
    rw [this]
  have e3 : over (tombRow T R 0 0 0 0) 2048 #[.int .u64 r0, .int .u64 r1, .int .i64 n] = tombRow T R r0 r1 n 0 := by
    unfold tombRow
    have := over_right (bv T ++ bv R) #[.int .u64 0, .int .u64 0, .int .i64 0, .int .u64 0] 0 #[.int .u64 r0, .int .u64 r1, .int .i64 n]
    rw [Array.size_append, sT, sR] at this
    exact this
  have e4 : over (tombRow T R r0 r1 n 0) 2051 #[.int .u64 e] = tombRow T R r0 r1 n e := by
    unfold tombRow
    have := over_right (bv T ++ bv R) #[.int .u64 r0, .int .u64 r1, .int .i64 n, .int .u64 0] 3 #[.int .u64 e]
    rw [Array.size_append, sT, sR] at this
    exact this
  rw [fill_cons _ _ 0 (.agg (bv T)) _ 0 1024 rfl sT (by rw [tombRow_size _ _ _ _ _ _ h1 h2]; omega)]
  simp only [Value.cells]
  rw [e1, fill_cons _ _ 1 (.agg (bv R)) _ 1024 1024 rfl sR (by rw [tombRow_size _ _ _ _ _ _ hT h2]; omega)]
  simp only [Value.cells]
  rw [e2, fill_cons _ _ 2 (.agg #[.int .u64 r0, .int .u64 r1, .int .i64 n]) _ 2048 3 rfl rfl (by rw [tombRow_size _ _ _ _ _ _ hT hR]; omega)]
  simp only [Value.cells]
  rw [e3, fill_cons _ _ 3 (.int .u64 e) _ 2051 1 rfl rfl (by rw [tombRow_size _ _ _ _ _ _ hT hR]; omega)]
  simp only [Value.cells]
  rw [e4]
  rfl

theorem cells_agg (c : Array Value) : (Value.agg c).cells = c := rfl

theorem built61 (T R : List UInt8) (r0 r1 n e : Int) (hT : T.length = 1024) (hR : R.length = 1024) :
    Try.prog.built 61 [(0, .agg (bv T)), (1, .agg (bv R)), (2, .agg #[.int .u64 r0, .int .u64 r1, .int .i64 n]), (3, .int .u64 e)] = some (tombRow T R r0 r1 n e) := by
  rw [built_struct 61 _ _ _ _ zero61 und61 pl61, cells_agg]
  exact fill61 zeros zeros T R r0 r1 n e zeros_len zeros_len hT hR

theorem fill64 (n0 s0 : ByteArray) (k0 k1 : Int) (Z : List UInt8) (t0 : Array Value) (hZ : Z.length = 1024) (ht0 : t0.size = 2052) (node set : ByteArray) (rank holds : Int) (rec : List UInt8) (tomb : Array Value) (hr : rec.length = 1024) (ht : tomb.size = 2052) :
    Instr.fill ([(0, 1), (1, 1), (2, 1), (3, 1), (4, 1024), (1028, 2052)].toArray[·]?) (stRow n0 s0 k0 k1 Z t0) [(0, .string node), (1, .string set), (2, .int .u64 rank), (3, .int .i64 holds), (4, .agg (bv rec)), (5, .agg tomb)] = some (stRow node set rank holds rec tomb) := by
  have sr : (bv rec).size = 1024 := by rw [bv_size, hr]
  have sZ : (bv Z).size = 1024 := by rw [bv_size, hZ]
  have small : ∀ (a b c d v : Value) (o : Nat), o < 4 → over (#[a, b, c, d] ++ bv Z ++ t0) o #[v] = over #[a, b, c, d] o #[v] ++ bv Z ++ t0 := by
    intro a b c d v o ho
    rw [over_left _ _ _ _ (by rw [Array.size_append, sZ]; show o + 1 ≤ 4 + 1024; omega), over_left _ _ _ _ (by show o + 1 ≤ 4; omega)]
  have e1 : over (stRow n0 s0 k0 k1 Z t0) 0 #[.string node] = stRow node s0 k0 k1 Z t0 := small _ _ _ _ _ 0 (by omega)
  have e2 : over (stRow node s0 k0 k1 Z t0) 1 #[.string set] = stRow node set k0 k1 Z t0 := small _ _ _ _ _ 1 (by omega)
  have e3 : over (stRow node set k0 k1 Z t0) 2 #[.int .u64 rank] = stRow node set rank k1 Z t0 := small _ _ _ _ _ 2 (by omega)
  have e4 : over (stRow node set rank k1 Z t0) 3 #[.int .i64 holds] = stRow node set rank holds Z t0 := small _ _ _ _ _ 3 (by omega)
  have e5 : over (stRow node set rank holds Z t0) 4 (bv rec) = stRow node set rank holds rec t0 :=
    over_mid #[.string node, .string set, .int .u64 rank, .int .i64 holds] (bv Z) t0 (bv rec) (by rw [sr, sZ])
  have e6 : over (stRow node set rank holds rec t0) 1028 tomb = stRow node set rank holds rec tomb := by
    unfold stRow
    have := over_right (#[Value.string node, Value.string set, Value.int .u64 rank, Value.int .i64 holds] ++ bv rec) t0 0 tomb
    rw [Array.size_append, sr, over_all _ _ (by rw [ht, ht0])] at this
    exact this
  rw [fill_cons _ _ 0 (.string node) _ 0 1 rfl rfl (by rw [stRow_size _ _ _ _ _ _ hZ ht0]; omega)]
  simp only [Value.cells]
  rw [e1, fill_cons _ _ 1 (.string set) _ 1 1 rfl rfl (by rw [stRow_size _ _ _ _ _ _ hZ ht0]; omega)]
  simp only [Value.cells]
  rw [e2, fill_cons _ _ 2 (.int .u64 rank) _ 2 1 rfl rfl (by rw [stRow_size _ _ _ _ _ _ hZ ht0]; omega)]
  simp only [Value.cells]
  rw [e3, fill_cons _ _ 3 (.int .i64 holds) _ 3 1 rfl rfl (by rw [stRow_size _ _ _ _ _ _ hZ ht0]; omega)]
  simp only [Value.cells]
  rw [e4, fill_cons _ _ 4 (.agg (bv rec)) _ 4 1024 rfl sr (by rw [stRow_size _ _ _ _ _ _ hZ ht0]; omega)]
  simp only [Value.cells]
  rw [e5, fill_cons _ _ 5 (.agg tomb) _ 1028 2052 rfl ht (by rw [stRow_size _ _ _ _ _ _ hr ht0]; omega)]
  simp only [Value.cells]
  rw [e6]
  rfl

theorem built64 (node set : ByteArray) (rank holds : Int) (rec : List UInt8) (tomb : Array Value) (hr : rec.length = 1024) (ht : tomb.size = 2052) :
    Try.prog.built 64 [(0, .string node), (1, .string set), (2, .int .u64 rank), (3, .int .i64 holds), (4, .agg (bv rec)), (5, .agg tomb)] = some (stRow node set rank holds rec tomb) := by
  rw [built_struct 64 _ _ _ _ zero64 und64 pl64, cells_agg]
  exact fill64 _ _ _ _ _ _ zeros_len (tombRow_size _ _ _ _ _ _ zeros_len zeros_len) node set rank holds rec tomb hr ht
end Go.Proofs.Qxb6612204a
