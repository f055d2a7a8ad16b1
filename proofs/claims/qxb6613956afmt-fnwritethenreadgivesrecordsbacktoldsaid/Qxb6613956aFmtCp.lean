/-
  Copies and slices: laws that the walks of bufio want.
-/
import Derived.Test.Qxb6613956aFmtSink
namespace Go.Proofs.Qxb6613956aFmt
open Go.RowKit Go.Shelf
set_option linter.unusedSimpArgs false

/-- copy(dst, s), s a string, whether it fits or not: as many bytes as fit go over. -/
theorem run_copy_row_string_min {P : Program} (w : World) (dT sT ty elem : TypeId) (g o dLen dCap k : Nat) (s : ByteArray) (cur : Array Value) (t : TypeId)
    (hu : P.underlying dT = some (.slice elem)) (hs : (P.info? elem).map (·.size) = some 1) (hg : w.heap[g]? = some (.cells cur t (0, 0))) (hk : Nat.min s.size dLen = k) (hfit : o + k ≤ cur.size) :
    (Builtin.copy_ #[dT, sT] ty #[.slice (some ⟨g, o, none⟩) dLen dCap, .string s]).run P w =
      .ok (goInt k) (w.setRow g (cur.toList.take o ++ Lib.byteCells (s.data.toList.take k) ++ cur.toList.drop (o + k)).toArray) := by
  have hks : k ≤ s.size := by rw [← hk]; exact Nat.min_le_left _ _
  have hlen : (Lib.byteCells (s.data.toList.take k)).length = k := by rw [Lib.byteCells_length, List.length_take, ← Lib.size_eq]; omega
  have hst := run_storeCells_at P g o t (Lib.byteCells (s.data.toList.take k)) 0 cur w hg (by rw [hlen]; simpa using hfit) (Lib.byteCells_one _)
  have htk : List.take k (List.map (fun b : UInt8 => Value.int IntKind.u8 (b.toNat : Int)) s.data.toList) = Lib.byteCells (s.data.toList.take k) := by
    unfold Lib.byteCells
    rw [List.map_take]
  rw [hlen] at hst
  simp only [Nat.add_zero] at hst
  cases hq : P.info? elem with
  | none => simp [hq] at hs
  | some i =>
    simp [Builtin.copy_, run_underlying hu, Builtin.lenOf, Builtin.firstCells, sizeOf, typeInfo, hq, hk]
    rw [htk, hst]
    simp [Result.andThen]

theorem ext_drop (s : ByteArray) (k : Nat) : s.extract k s.size = ⟨(s.data.toList.drop k).toArray⟩ := by
  apply ByteArray.ext
  apply Array.ext'
  rw [Lib.extract_data]
  simp only [List.toList_toArray]
  rw [List.take_of_length_le]
  rw [List.length_drop, ← Lib.size_eq]
  exact Nat.le_refl _

/-- Where a slice of a slice begins: at its whole capacity the address stays. -/
def cutA (a : Addr) (lo cap : Nat) : Addr := if cap = lo then a else a.add lo
theorem cutA_at (b o lo cap : Nat) (h : lo < cap) : cutA ⟨b, o, none⟩ lo cap = ⟨b, o + lo, none⟩ := by
  unfold cutA
  rw [if_neg (by omega), WideShapes.add_plain]
theorem cutA_block (a : Addr) (lo cap : Nat) : (cutA a lo cap).block = a.block := by
  unfold cutA
  split
  · rfl
  · exact add_block a lo
theorem sizeOf5 (W : World) : (Go.sizeOf 5).run Tryf.prog W = .ok 1 W := Tryf.sizeOf5 W
theorem elem43 : Tryf.prog.elem 43 = 5 := by simp [Program.elem, Tryf.underlying43]
theorem und43 : Tryf.prog.underlying 43 = some (.slice (Tryf.prog.elem 43)) := by rw [elem43]; exact Tryf.underlying43
theorem slice_lh (a : Addr) (len cap lo hi : Nat) (h1 : lo ≤ hi) (h2 : hi ≤ cap) (l h : Int) (hl : l = lo) (hh : h = hi) (W : World) :
    (Instr.slice 43 (.slice (some a) len cap) (some (.int .i64 l)) (some (.int .i64 h)) none).run Tryf.prog W = .ok (.slice (some (cutA a lo cap)) (hi - lo) (cap - lo)) W := by
  subst hl hh
  rw [run_slice_lh W 43 _ _ _ und43 .i64 .i64 _ _ (by omega) (by omega) (by omega), elem43, sizeOf5]
  unfold cutA
  by_cases h0 : cap = lo
  · simp [Result.andThen, sliced, h0]
  · simp [Result.andThen, sliced, h0]
theorem slice_l (a : Addr) (len cap lo : Nat) (h1 : lo ≤ len) (l : Int) (hl : l = lo) (W : World) :
    (Instr.slice 43 (.slice (some a) len cap) (some (.int .i64 l)) none none).run Tryf.prog W = .ok (.slice (some (cutA a lo cap)) (len - lo) (cap - lo)) W := by
  subst hl
  rw [run_slice_l W 43 _ _ _ und43 .i64 _ (by omega) (by omega), elem43, sizeOf5]
  unfold cutA
  by_cases h0 : cap = lo
  · simp [Result.andThen, sliced, h0]
  · simp [Result.andThen, sliced, h0]
end Go.Proofs.Qxb6613956aFmt
