/-
  csv: trimBreak (41), bytes.CutSuffix (51), bytes.Cut (52) over a line.
-/
import Derived.Test.Qxb6613956aFmtRs
namespace Go.Proofs.Qxb6613956aFmt
open Go.RowKit Go.Shelf
set_option linter.unusedSimpArgs false

theorem bytesIn_of {w : World} {b o n : Nat} {l : List UInt8} (hn : l.length = n) (h : ∀ j u, (Lib.byteCells l)[j]? = some u → w.cell? ⟨b, o + j, none⟩ = some u) : Lib.BytesIn w (some ⟨b, o, none⟩) n (nums l) :=
  fun _ => ⟨b, o, rfl, fun j hj => h j _ (cells_nums l j (by omega))⟩
theorem suffix_last (l : List UInt8) (x : UInt8) : Lib.hasSuffix l [x] = decide (l.getLast? = some x) := by
  unfold Lib.hasSuffix
  rw [Bool.eq_iff_iff, List.isSuffixOf_iff_suffix, decide_eq_true_eq]
  constructor
  · rintro ⟨t, rfl⟩; simp
  · intro h
    obtain ⟨y, rfl⟩ : ∃ y, l = y ++ [x] := by
      rcases List.eq_nil_or_concat l with rfl | ⟨y, z, rfl⟩
      · simp at h
      · simp at h; exact ⟨y, by rw [h, List.concat_eq_append]⟩
    exact ⟨y, rfl⟩
theorem cutEnd_length (x : UInt8) (l : List UInt8) : (cutEnd x l).length ≤ l.length := by unfold cutEnd; split <;> simp
theorem cutEnd_take (x : UInt8) (l : List UInt8) : cutEnd x l = l.take (cutEnd x l).length := by
  unfold cutEnd
  split
  · rw [List.length_dropLast, List.dropLast_eq_take]
  · simp
/-- A line cut short. -/
theorem LineAt.take {b : Nat} {l : List UInt8} {w : World} {o c n : Nat} (h2 : l.length ≤ c) (h3 : c ≤ maxLen) (h4 : ∀ j u, (Lib.byteCells l)[j]? = some u → w.cell? ⟨b, o + j, none⟩ = some u) (hn : n ≤ l.length) :
    LineAt b (.slice (some ⟨b, o, none⟩) n c) (l.take n) w := by
  have e : (l.take n).length = n := by rw [List.length_take]; omega
  exact ⟨o, c, by rw [e], by rw [e]; omega, h3, fun j u hj => h4 j u (cells_take l n j u hj)⟩
theorem cutsuf_c (b o n c : Nat) (l : List UInt8) (x : UInt8) (xv : Int) (a2 c2 : Nat) (w : World) (hn : l.length = n) (h2 : l.length ≤ c) (h3 : c ≤ maxLen) (h4 : ∀ j u, (Lib.byteCells l)[j]? = some u → w.cell? ⟨b, o + j, none⟩ = some u)
    (hxv : xv = (x.toNat : Int)) (hx : w.cell? ⟨a2, 0, none⟩ = some (.int .u8 xv)) :
    Calls Tryf.prog 51 #[.slice (some ⟨b, o, none⟩) n c, .slice (some ⟨a2, 0, none⟩) 1 c2] w fun e w' => ∃ bo, e = .returned (.tuple #[.slice (some ⟨b, o, none⟩) (cutEnd x l).length c, bo]) ∧ w' = w := by
  subst hxv
  have hml : maxLen ≤ 9223372036854775807 := by decide
  refine (Any.bytes_CutSuffix_all Tryf.laysnb142 (some ⟨b, o, none⟩) (some ⟨a2, 0, none⟩) n c 1 c2 (nums l) (nums [x]) w (by rw [nums_length, hn]) rfl (by omega) (by omega) (bytesIn_of hn h4)
    (bytesIn_of (l := [x]) rfl (fun j u hj => by cases j with | zero => simp [Lib.byteCells] at hj; subst hj; simpa using hx | succ j => simp [Lib.byteCells] at hj))).mono fun e w' ⟨he, hw⟩ => ⟨.bool (Lib.hasSuffix (Lib.bytesOf (nums l)) (Lib.bytesOf (nums [x]))), he.trans ?_, hw⟩
  have e1 : Lib.trimSuffixV (some ⟨b, o, none⟩) n c (nums l) (nums [x]) = .slice (some ⟨b, o, none⟩) (cutEnd x l).length c := by
    show Lib.bytesTrimSuffix b o n c (nums l) (nums [x]) = _
    unfold Lib.bytesTrimSuffix Lib.sliceTo
    rw [bytesOf_nums, bytesOf_nums, suffix_last]
    unfold cutEnd
    by_cases h : l.getLast? = some x
    · rw [if_pos (by simpa using h), if_pos h, List.length_dropLast, nums_length]
      simp [hn]
    · rw [if_neg (by simpa using h), if_neg h, hn]
  rw [e1]

set_option maxHeartbeats 3200000 in
set_option maxRecDepth 100000 in
theorem trim_c (b o n c : Nat) (l : List UInt8) (w : World) (hn : l.length = n) (h2 : l.length ≤ c) (h3 : c ≤ maxLen) (h4 : ∀ j u, (Lib.byteCells l)[j]? = some u → w.cell? ⟨b, o + j, none⟩ = some u) :
    Calls Tryf.prog 41 #[.slice (some ⟨b, o, none⟩) n c] w fun e w' => e = .returned (.slice (some ⟨b, o, none⟩) (tb l).length c) ∧ Below w.heap.size w w' := by
  have HC := hid h4
  clear h4
  go_enter Tryf.func41, Tryf.ntmps41
  go_wp2_with fail
  have hk1 : Kept (fun _ => False) w (w.alloc (.cells #[.int .u8 10] 5)) := (Kept.refl _ w).alloc _
  have hx1 : (w.alloc (.cells #[.int .u8 10] 5)).cell? ⟨w.heap.size, 0, none⟩ = some (.int .u8 10) := by rw [Lib.cell_of_heap (heap_alloc_new _ _)]; rfl
  obtain ⟨a1, ha1⟩ : ∃ a1, w.heap.size = a1 := ⟨_, rfl⟩
  obtain ⟨w1, hw1⟩ : ∃ w1, w.alloc (.cells #[.int .u8 10] 5) = w1 := ⟨_, rfl⟩
  rw [hw1, ha1] at hx1
  rw [hw1] at hk1
  rw [hw1, ha1]
  clear hw1 ha1
  have h41 : ∀ j u, (Lib.byteCells l)[j]? = some u → w1.cell? ⟨b, o + j, none⟩ = some u := fun j u hj => hk1.cell (HC.out j u hj) id
  refine (cutsuf_c b o n c l 10 10 a1 1 w1 hn h2 h3 h41 rfl hx1).mono ?_
  rintro e w2 ⟨bo, rfl, rfl⟩
  have HK1 := hid hk1
  have H41 := hid h41
  clear hk1 h41 hx1
  go_wp2_with fail
  have hk2 : Kept (fun _ => False) w (w2.alloc (.cells #[.int .u8 13] 5)) := HK1.out.alloc _
  have hk3 : Kept (fun _ => False) w2 (w2.alloc (.cells #[.int .u8 13] 5)) := (Kept.refl _ w2).alloc _
  have hx1 : (w2.alloc (.cells #[.int .u8 13] 5)).cell? ⟨w2.heap.size, 0, none⟩ = some (.int .u8 13) := by rw [Lib.cell_of_heap (heap_alloc_new _ _)]; rfl
  obtain ⟨a2, ha2⟩ : ∃ a2, w2.heap.size = a2 := ⟨_, rfl⟩
  obtain ⟨w3, hw3⟩ : ∃ w3, w2.alloc (.cells #[.int .u8 13] 5) = w3 := ⟨_, rfl⟩
  rw [hw3, ha2] at hx1
  rw [hw3] at hk2 hk3
  rw [hw3, ha2]
  clear hw3 ha2
  have h43 : ∀ j u, (Lib.byteCells (cutEnd 10 l))[j]? = some u → w3.cell? ⟨b, o + j, none⟩ = some u := fun j u hj => by
    rw [cutEnd_take] at hj
    exact hk3.cell (H41.out j u (cells_take l _ j u hj)) id
  refine (cutsuf_c b o (cutEnd 10 l).length c (cutEnd 10 l) 13 13 a2 1 w3 rfl (Nat.le_trans (cutEnd_length _ _) h2) h3 h43 rfl hx1).mono ?_
  rintro e w4 ⟨bo2, rfl, rfl⟩
  have HK2 := hid hk2
  clear hk2 hk3 h43 hx1
  go_wp2_with fail
  go_ret
  exact ⟨rfl, HK2.out.to_below (fun _ e => e.elim) (Nat.le_refl _)⟩
end Go.Proofs.Qxb6613956aFmt
