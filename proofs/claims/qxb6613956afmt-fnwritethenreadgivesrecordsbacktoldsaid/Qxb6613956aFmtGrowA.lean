/-
  bytes.Buffer's grow (116), nil, n above 64.
-/
import Derived.Test.Qxb6613956aFmtMem
namespace Go.Proofs.Qxb6613956aFmt
open Go.RowKit Go.Shelf
set_option linter.unusedSimpArgs false

set_option maxHeartbeats 6400000 in
set_option maxRecDepth 100000 in
/-- grow, the buffer nil, n above 64. -/
theorem grow_big (b n : Nat) (lr : Int) (w : World) (hb : w.heap[b]? = some (.cells #[.slice none 0 0, .int .i64 0, .int .i8 lr] 52 (0, 0))) (h64 : 64 < n) (hlim : n ≤ 140737488355328) :
    Calls Tryf.prog 116 #[.pointer (some ⟨b, 0, none⟩), .int .i64 n] w (GrowPost b 0 n [] lr w) := by
  have hn : 1 ≤ n := by omega
  have hnil : ∀ W, (binOp .eql 43 (.slice none 0 0) (.slice none 0 0)).run Tryf.prog W = .ok (.bool true) W := fun W => Lib.run_eql_slice_nil W 43 5 none 0 0 0 0 Tryf.underlying43
  have cL := len_c b _ none 0 0 lr w (by omega) rfl hb
  have HB := hid hb
  clear hb
  go_enter Tryf.func116, Tryf.ntmps116
  go_wp2_with fail
  refine cL.mono ?_
  rintro e w1 ⟨rfl, k, rfl⟩
  have hb1 : (w.drewN k).heap[b]? = some (.cells #[.slice none 0 0, .int .i64 0, .int .i8 lr] 52 (0, 0)) := HB.out
  obtain ⟨W0, hW0⟩ : ∃ W0, w.drewN k = W0 := ⟨_, rfl⟩
  have HK := hid (show Kept (· = b) w W0 by rw [← hW0]; exact (Kept.refl _ _).drewN k)
  have hsz : W0.heap.size = w.heap.size := by rw [← hW0]; rfl
  rw [hW0] at hb1 ⊢
  clear hW0 cL
  have c0 : W0.cell? ⟨b, 0, none⟩ = some (.slice none 0 0) := by rw [Lib.cell_of_heap hb1]; rfl
  have c1 : W0.cell? ⟨b, 1, none⟩ = some (.int .i64 0) := by rw [Lib.cell_of_heap hb1]; rfl
  have f0 : W0.frozen? ⟨b, 0, none⟩ = false := Lib.frozen_of_heap hb1 0
  have hbl := lt_heap hb1
  have HB1 := hid hb1
  clear hb1
  go_wp2_with (go_at_call 115; refine (Any.Buffer_tryGrow_none { Tryf.laysM251 with } b _ 0 0 n _ c0 (Nat.le_refl _) (Nat.zero_le _) (by omega)).mono ?_; rintro e w' ⟨rfl, rfl⟩)
  have hwn : IntKind.i64.wrap (n : Int) = n := wrap_id _ (by omega) (by omega)
  go_region_with (
      go_at_call 118
      refine (Any.bytes_growSlice_nil { Tryf.laysM290 with } n _ hn hlim).mono ?_
      rintro e w2 ⟨cap2, cells, rfl, hN, hcsz, hcap2, hcm2, hbel⟩
      have hbk2 : w2.heap[b]? = some (.cells #[.slice none 0 0, .int .i64 0, .int .i8 lr] 52 (0, 0)) := (hbel.block b hbl).trans HB1.out
      have d0 : w2.cell? ⟨b, 0, none⟩ = some (.slice none 0 0) := by rw [Lib.cell_of_heap hbk2]; rfl
      have d1 : w2.cell? ⟨b, 1, none⟩ = some (.int .i64 0) := by rw [Lib.cell_of_heap hbk2]; rfl
      have e0 : w2.frozen? ⟨b, 0, none⟩ = false := Lib.frozen_of_heap hbk2 0
      have e1 : w2.frozen? ⟨b, 1, none⟩ = false := Lib.frozen_of_heap hbk2 1
      have HBK2 := hid hbk2
      clear hbk2)
  all_goals (
    go_wp2
    go_ret
    have hN' : w2.heap[w.heap.size]? = some (.cells cells 5 (0, 0)) := by rw [← hsz]; exact hN
    have hne : w.heap.size ≠ b := by omega
    have HK2 : Kept (· = b) w w2 := (HK.out.trans (show Kept (· = b) w' w'.drew from ⟨rfl, rfl, rfl, Nat.le_refl _, fun _ _ _ => rfl⟩)).trans (Kept.of_below hbel)
    refine ⟨rfl, w.heap.size, cap2, cells, ?_, ?_, hcsz, by omega, hcm2, rfl, Nat.le_refl _, ?_⟩
    · rw [heap_set (heap_set (heap_set HBK2.out _) _)]
      simp
    · rw [heap_set_other hne, heap_set_other hne, heap_set_other hne]
      exact hN'
    · exact ((HK2.setCell ⟨b, 0, none⟩ rfl _).setCell ⟨b, 1, none⟩ rfl _).setCell ⟨b, 0, none⟩ rfl _)

end Go.Proofs.Qxb6613956aFmt
