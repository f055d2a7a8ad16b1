/-
  bytes.Buffer's grow (116), a row that holds nothing.
-/
import Derived.Test.Qxb6613956aFmtMem
namespace Go.Proofs.Qxb6613956aFmt
open Go.RowKit Go.Shelf
set_option linter.unusedSimpArgs false

set_option maxHeartbeats 6400000 in
set_option maxRecDepth 100000 in
/-- grow, the buffer a row without room for n more. -/
theorem grow_row0 (b g l cap n : Nat) (hl0 : ((l : Int) == 0) = true) (bs : List Value) (cur : Array Value) (lr : Int) (w : World) (hb : w.heap[b]? = some (.cells #[.slice (some ⟨g, 0, none⟩) l cap, .int .i64 0, .int .i8 lr] 52 (0, 0))) (hg : w.heap[g]? = some (.cells cur 5 (0, 0)))
    (hcs : cur.size = cap) (hlc : l ≤ cap) (hcm : cap ≤ maxLen) (htake : cur.toList.take l = bs) (h1 : ∀ v ∈ bs, v.oneCell' = true) (hn : 1 ≤ n) (hroom : cap - l < n) (hlim : l + n ≤ 140737488355328) :
    Calls Tryf.prog 116 #[.pointer (some ⟨b, 0, none⟩), .int .i64 n] w (GrowPost b l n bs lr w) := by
  have hnil : ∀ W, (binOp .eql 43 (.slice (some ⟨g, 0, none⟩) l cap) (.slice none 0 0)).run Tryf.prog W = .ok (.bool false) W := fun W => Lib.run_eql_slice_nil W 43 5 (some ⟨g, 0, none⟩) l cap 0 0 Tryf.underlying43
  have cL := len_c b _ (some ⟨g, 0, none⟩) l cap lr w (by omega) rfl hb
  have HB := hid hb
  have HG := hid hg
  clear hb hg
  have hcm' := hcm
  unfold maxLen at hcm'
  go_enter Tryf.func116, Tryf.ntmps116
  go_wp2_with fail
  refine cL.mono ?_
  rintro e w1 ⟨rfl, k, rfl⟩
  have hb1 : (w.drewN k).heap[b]? = some (.cells #[.slice (some ⟨g, 0, none⟩) l cap, .int .i64 0, .int .i8 lr] 52 (0, 0)) := HB.out
  have hg1 : (w.drewN k).heap[g]? = some (.cells cur 5 (0, 0)) := HG.out
  obtain ⟨W0, hW0⟩ : ∃ W0, w.drewN k = W0 := ⟨_, rfl⟩
  have HK := hid (show Kept (· = b) w W0 by rw [← hW0]; exact (Kept.refl _ _).drewN k)
  have hsz : W0.heap.size = w.heap.size := by rw [← hW0]; rfl
  rw [hW0] at hb1 hg1 ⊢
  clear hW0 cL
  have c0 : W0.cell? ⟨b, 0, none⟩ = some (.slice (some ⟨g, 0, none⟩) l cap) := by rw [Lib.cell_of_heap hb1]; rfl
  have c1 : W0.cell? ⟨b, 1, none⟩ = some (.int .i64 0) := by rw [Lib.cell_of_heap hb1]; rfl
  have f0 : W0.frozen? ⟨b, 0, none⟩ = false := Lib.frozen_of_heap hb1 0
  have hbl := lt_heap hb1
  have HB1 := hid hb1
  have HG1 := hid hg1
  clear hb1 hg1
  go_wp2_with (go_at_call 115; refine (Any.Buffer_tryGrow_none { Tryf.laysM251 with } b _ l cap n _ c0 hlc hcm hroom).mono ?_; rintro e w' ⟨rfl, rfl⟩)
  have hwn : IntKind.i64.wrap (n : Int) = n := wrap_id _ (by omega) (by omega)
  have hc2 : cap ≤ 140737488355328 := by omega
  have h1' : ∀ v ∈ cur.toList.take l, v.oneCell' = true := by rw [htake]; exact h1
  have HT := hid htake
  clear htake h1
  go_region_with (
      go_at_call 118
      refine (Any.bytes_growSlice_row { Tryf.laysM290 with } g l cap n cur _ ?_ hcs hlc hn hlim hc2 h1').mono ?_
      exact HG1.out
      rintro e w2 ⟨cap2, cells, rfl, hN, hcsz, htk, hcap2, hcm2, hbel⟩
      have hbk2 : w2.heap[b]? = some (.cells #[.slice (some ⟨g, 0, none⟩) l cap, .int .i64 0, .int .i8 lr] 52 (0, 0)) := (hbel.block b hbl).trans HB1.out
      have d0 : w2.cell? ⟨b, 0, none⟩ = some (.slice (some ⟨g, 0, none⟩) l cap) := by rw [Lib.cell_of_heap hbk2]; rfl
      have d1 : w2.cell? ⟨b, 1, none⟩ = some (.int .i64 0) := by rw [Lib.cell_of_heap hbk2]; rfl
      have e0 : w2.frozen? ⟨b, 0, none⟩ = false := Lib.frozen_of_heap hbk2 0
      have e1 : w2.frozen? ⟨b, 1, none⟩ = false := Lib.frozen_of_heap hbk2 1
      have HBK2 := hid hbk2
      have HTK := hid htk
      clear hbk2 htk)
  all_goals (
    go_wp2
    go_ret
    have hN' : w2.heap[w.heap.size]? = some (.cells cells 5 (0, 0)) := by rw [← hsz]; exact hN
    have hne : w.heap.size ≠ b := by omega
    have HK2 : Kept (· = b) w w2 := (HK.out.trans (show Kept (· = b) w' w'.drew from ⟨rfl, rfl, rfl, Nat.le_refl _, fun _ _ _ => rfl⟩)).trans (Kept.of_below hbel)
    refine ⟨rfl, w.heap.size, cap2, cells, ?_, ?_, hcsz, hcap2, hcm2, (HTK.out.trans HT.out), Nat.le_refl _, ?_⟩
    · rw [heap_set (heap_set (heap_set HBK2.out _) _)]
      simp
    · rw [heap_set_other hne, heap_set_other hne, heap_set_other hne]
      exact hN'
    · exact ((HK2.setCell ⟨b, 0, none⟩ rfl _).setCell ⟨b, 1, none⟩ rfl _).setCell ⟨b, 0, none⟩ rfl _)
end Go.Proofs.Qxb6613956aFmt
