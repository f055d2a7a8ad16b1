/-
  bytes.Buffer's Write (112), WriteString (113), String (31): where the new row lies; all other blocks stand.
-/
import Derived.Test.Qxb6613956aFmtGrowA
import Derived.Test.Qxb6613956aFmtGrowB
import Derived.Test.Qxb6613956aFmtGrowC
namespace Go.Proofs.Qxb6613956aFmt
open Go.RowKit Go.Shelf
set_option linter.unusedSimpArgs false

theorem grow_c (b l n g cap : Nat) (bs : List Value) (cur : Array Value) (lr : Int) (w : World) (hb : w.heap[b]? = some (.cells #[.slice (some ⟨g, 0, none⟩) l cap, .int .i64 0, .int .i8 lr] 52 (0, 0))) (hg : w.heap[g]? = some (.cells cur 5 (0, 0)))
    (hcs : cur.size = cap) (hlc : l ≤ cap) (hcm : cap ≤ maxLen) (htake : cur.toList.take l = bs) (h1 : ∀ v ∈ bs, v.oneCell' = true) (hn : 1 ≤ n) (hroom : cap - l < n) (hlim : l + n ≤ 140737488355328) :
    Calls Tryf.prog 116 #[.pointer (some ⟨b, 0, none⟩), .int .i64 n] w (GrowPost b l n bs lr w) := by
  cases h : ((l : Int) == 0)
  · exact grow_row1 b g l cap n h bs cur lr w hb hg hcs hlc hcm htake h1 hn hroom hlim
  · exact grow_row0 b g l cap n h bs cur lr w hb hg hcs hlc hcm htake h1 hn hroom hlim
theorem grow_nil (b n : Nat) (lr : Int) (w : World) (hb : w.heap[b]? = some (.cells #[.slice none 0 0, .int .i64 0, .int .i8 lr] 52 (0, 0))) (hn : 1 ≤ n) (hlim : n ≤ 140737488355328) :
    Calls Tryf.prog 116 #[.pointer (some ⟨b, 0, none⟩), .int .i64 n] w (GrowPost b 0 n [] lr w) := by
  by_cases h : n ≤ 64
  · exact grow_small b n lr w hb hn h
  · exact grow_big b n lr w hb (by omega) hlim

theorem add_block (a : Addr) (j : Nat) : (a.add j).block = a.block := by unfold Addr.add; split <;> rfl

/-- What a write into the sink leaves. -/
def SnkPost (b : Nat) (v : Value) (A x : List UInt8) (w : World) (e : Ending) (w' : World) : Prop :=
  e = .returned (.tuple #[.int .i64 x.length, .nilIface]) ∧ ∃ v', Snk b v' (A ++ x) w' ∧ (∀ k, v'.ownBlock = some k → v.ownBlock = some k ∨ w.heap.size ≤ k) ∧ Kept (fun k => k = b ∨ v.ownBlock = some k) w w'

theorem Kept.setRow {S : Nat → Prop} {w w' : World} (h : Kept S w w') (g : Nat) (cs : Array Value) (hg : S g ∨ w.heap.size ≤ g) : Kept S w (w'.setRow g cs) :=
  ⟨h.os, h.tape, h.output, by have := h.size; simpa [World.setRow] using this, fun k hk hs => by
    rw [setRow_other w' g k cs (fun e => by rcases hg with h1 | h1; exact hs (e ▸ h1); omega)]
    exact h.block k hk hs⟩
/-- The copy's end: the row that grew holds the new bytes behind the old. -/
theorem snk_end {b g l n cap : Nat} {v : Value} {A x : List UInt8} {cells : Array Value} {w w1 : World} {lr : Int} (hb : w1.heap[b]? = some (.cells #[.slice (some ⟨g, 0, none⟩) (l + n) cap, .int .i64 0, .int .i8 lr] 52 (0, 0))) (hg : w1.heap[g]? = some (.cells cells 5 (0, 0)))
    (hl : l = A.length) (hn : n = x.length) (hcs : cells.size = cap) (hcap : l + n ≤ cap) (hcm : cap ≤ maxLen) (ht : cells.toList.take l = Lib.byteCells A) (hw : v.ownBlock = some g ∨ w.heap.size ≤ g) (hk : Kept (· = b) w w1) :
    SnkPost b v A x w (.returned (.tuple #[.int .i64 x.length, .nilIface])) (w1.setRow g (cells.toList.take l ++ Lib.byteCells x ++ cells.toList.drop (l + n)).toArray) := by
  subst hl hn
  have hne : b ≠ g := by
    intro e
    rw [e, hg] at hb
    simp at hb
  refine ⟨rfl, .slice (some ⟨g, 0, none⟩) (A ++ x).length cap, ⟨⟨lr, ?_⟩, ?_⟩, fun k hk => ?_, ?_⟩
  · rw [setRow_other w1 g b _ hne, List.length_append]; exact hb
  · refine ⟨by rw [Lib.byteCells_length]; simp, Or.inr ⟨g, cap, _, rfl, Nat.zero_le _, setRow_heap w1 g cells _ 5 (0, 0) hg, by rw [List.length_append]; exact hcap, hcm, ?_, ?_⟩⟩
    · have := cells.length_toList
      simp only [List.size_toArray, List.length_append, List.length_take, List.length_drop, Lib.byteCells_length]
      omega
    · rw [ht, ← Lib.byteCells_append]
      have e1 : (A ++ x).length * 1 = (Lib.byteCells (A ++ x)).length := by rw [Lib.byteCells_length]; omega
      rw [e1]
      exact List.take_left
  · simp only [Value.ownBlock, Option.some.injEq] at hk
    subst hk
    exact hw
  · exact (hk.mono (fun k _ h => Or.inl h)).setRow g _ (by rcases hw with h | h; exact Or.inl (Or.inr h); exact Or.inr h)

set_option maxHeartbeats 3200000 in
set_option maxRecDepth 100000 in
theorem bwrite_c (b : Nat) (v : Value) (A x : List UInt8) (a : Addr) (c : Nat) (w : World) (h : Snk b v A w) (hn : 1 ≤ x.length) (hab : a.block ≠ b) (hav : v.ownBlock ≠ some a.block) (hsrc : ∀ j u, (Lib.byteCells x)[j]? = some u → w.cell? (a.add j) = some u) (hlim : A.length + x.length ≤ 140737488355328) :
    Calls Tryf.prog 112 #[.pointer (some ⟨b, 0, none⟩), .slice (some a) x.length c] w (SnkPost b v A x w) := by
  obtain ⟨lr, hb⟩ := h.blk
  have hown := h.own
  have hne := h.ne
  clear h
  have hinfo : (Tryf.prog.info? 5).map (·.size) = some 1 := by kernel_rfl
  have c2 : w.cell? ⟨b, 2, none⟩ = some (.int .i8 lr) := by rw [Lib.cell_of_heap hb]; rfl
  have f2 : w.frozen? ⟨b, 2, none⟩ = false := Lib.frozen_of_heap hb 2
  have hb0 : (w.setCell ⟨b, 2, none⟩ (.int .i8 0)).heap[b]? = some (.cells #[v, .int .i64 0, .int .i8 0] 52 (0, 0)) := by rw [heap_set hb]; simp
  have hk0 : Kept (· = b) w (w.setCell ⟨b, 2, none⟩ (.int .i8 0)) := Kept.setCell (S := (· = b)) (Kept.refl _ _) ⟨b, 2, none⟩ rfl _
  obtain ⟨w0, hw0⟩ : ∃ w0, w.setCell ⟨b, 2, none⟩ (.int .i8 0) = w0 := ⟨_, rfl⟩
  have hsz0 : w0.heap.size = w.heap.size := by rw [← hw0]; simp [World.setCell]
  rw [hw0] at hb0 hk0
  have c0 : w0.cell? ⟨b, 0, none⟩ = some v := by rw [Lib.cell_of_heap hb0]; rfl
  have f0 : w0.frozen? ⟨b, 0, none⟩ = false := Lib.frozen_of_heap hb0 0
  clear hb
  rcases hown.2 with ⟨rfl, hA0⟩ | ⟨g, cap, cur, rfl, _, hg, hnc, hcm, hcs, htk⟩
  · obtain rfl : A = [] := List.eq_nil_of_length_eq_zero hA0
    go_enter Tryf.func112, Tryf.ntmps112
    go_wp2_with fail
    try rw [hw0]
    refine (Any.Buffer_tryGrow_none { Tryf.laysM251 with } b _ 0 0 x.length w0 c0 (Nat.le_refl _) (Nat.zero_le _) (by omega)).mono ?_
    rintro e w' ⟨rfl, hw'⟩
    rw [hw']
    clear hw' c2 f2
    go_wp2_with fail
    refine (grow_nil b x.length 0 w0 hb0 hn (by simp at hlim; omega)).mono ?_
    rintro e w1 ⟨rfl, g, cap, cells, hb1, hg1, hcs, hcap, hcm, htk, hwg, hkg⟩
    have hk1 : Kept (· = b) w w1 := hk0.trans hkg
    have hsrc1 : ∀ j u, (Lib.byteCells x)[j]? = some u → w1.cell? (a.add j) = some u := fun j u hj => hk1.cell (hsrc j u hj) (by rw [add_block]; exact hab)
    have hcp := run_copy_row (P := Tryf.prog) w1 43 43 3 5 g 0 x.length (cap - 0) a x.length c cells 5 (Lib.byteCells x) Tryf.underlying43 hinfo hg1 (by rw [Lib.byteCells_length]; exact (Nat.min_self _).symm) hsrc1 (by rw [Lib.byteCells_length]; omega) (Lib.byteCells_one x)
    rw [Lib.byteCells_length] at hcp
    have d0 : w1.cell? ⟨b, 0, none⟩ = some (.slice (some ⟨g, 0, none⟩) (0 + x.length) cap) := by rw [Lib.cell_of_heap hb1]; rfl
    have HEND := hid (snk_end (v := (.slice none 0 0)) (A := []) (x := x) (w := w) hb1 hg1 rfl rfl hcs hcap hcm htk (Or.inr (by omega)) hk1)
    simp only [Nat.zero_add, Nat.sub_zero, List.take_zero, List.nil_append, Nat.add_zero] at hcp d0
    clear hsrc1 hb1 hg1 hk1 hown hsrc hb0 hk0
    unfold maxLen at hcm
    have hcx : (0 : Int) ≤ ((0 + x.length : Nat) : Int) := by omega
    go_wp2
    go_ret2
    simpa using HEND.out
  · have hgb : g ≠ b := fun e => hne (by rw [e]; rfl)
    have hg0 : w0.heap[g]? = some (.cells cur 5 (0, 0)) := hk0.heap hg hgb
    rw [Nat.mul_one] at hcs htk
    by_cases hroom : x.length ≤ cap - A.length
    · go_enter Tryf.func112, Tryf.ntmps112
      go_wp2_with fail
      try rw [hw0]
      refine (Any.Buffer_tryGrow_room { Tryf.laysM251 with } b _ A.length cap x.length w0 c0 f0 hnc hcm hroom).mono ?_
      rintro e w1 ⟨rfl, hw1⟩
      have hb1 : w1.heap[b]? = some (.cells #[.slice (some ⟨g, 0, none⟩) (A.length + x.length) cap, .int .i64 0, .int .i8 0] 52 (0, 0)) := by rw [hw1, heap_set hb0]; simp
      have hg1 : w1.heap[g]? = some (.cells cur 5 (0, 0)) := by rw [hw1, heap_set_other hgb]; exact hg0
      have hk1 : Kept (· = b) w w1 := by rw [hw1]; exact hk0.setCell ⟨b, 0, none⟩ rfl _
      clear hw1 c2 f2 c0 f0 hg hg0
      have hsrc1 : ∀ j u, (Lib.byteCells x)[j]? = some u → w1.cell? (a.add j) = some u := fun j u hj => hk1.cell (hsrc j u hj) (by rw [add_block]; exact hab)
      have hcp := run_copy_row (P := Tryf.prog) w1 43 43 3 5 g A.length x.length (cap - A.length) a x.length c cur 5 (Lib.byteCells x) Tryf.underlying43 hinfo hg1 (by rw [Lib.byteCells_length]; exact (Nat.min_self _).symm) hsrc1 (by rw [Lib.byteCells_length]; omega) (Lib.byteCells_one x)
      rw [Lib.byteCells_length] at hcp
      have d0 : w1.cell? ⟨b, 0, none⟩ = some (.slice (some ⟨g, 0, none⟩) (A.length + x.length) cap) := by rw [Lib.cell_of_heap hb1]; rfl
      have HEND := hid (snk_end (v := .slice (some ⟨g, 0, none⟩) A.length cap) (A := A) (x := x) (w := w) hb1 hg1 rfl rfl hcs (by omega) hcm htk (Or.inl rfl) hk1)
      clear hsrc1 hb1 hg1 hk1 hown hsrc hb0 hk0
      unfold maxLen at hcm
      have hcx : (A.length : Int) ≤ ((A.length + x.length : Nat) : Int) := by omega
      go_wp2
      go_ret2
      simpa [htk] using HEND.out
    · go_enter Tryf.func112, Tryf.ntmps112
      go_wp2_with fail
      try rw [hw0]
      refine (Any.Buffer_tryGrow_none { Tryf.laysM251 with } b _ A.length cap x.length w0 c0 hnc hcm (by omega)).mono ?_
      rintro e w' ⟨rfl, hw'⟩
      rw [hw']
      clear hw' c2 f2
      go_wp2_with fail
      refine (grow_c b A.length x.length g cap (Lib.byteCells A) cur 0 w0 hb0 hg0 hcs hnc hcm htk (Lib.byteCells_one A) hn (by omega) hlim).mono ?_
      rintro e w1 ⟨rfl, g', cap', cells, hb1, hg1, hcs', hcap, hcm', htk', hwg, hkg⟩
      have hk1 : Kept (· = b) w w1 := hk0.trans hkg
      clear hg hg0 hcs hnc hcm htk hroom c0 f0 hkg
      have hsrc1 : ∀ j u, (Lib.byteCells x)[j]? = some u → w1.cell? (a.add j) = some u := fun j u hj => hk1.cell (hsrc j u hj) (by rw [add_block]; exact hab)
      have hcp := run_copy_row (P := Tryf.prog) w1 43 43 3 5 g' A.length x.length (cap' - A.length) a x.length c cells 5 (Lib.byteCells x) Tryf.underlying43 hinfo hg1 (by rw [Lib.byteCells_length]; exact (Nat.min_self _).symm) hsrc1 (by rw [Lib.byteCells_length]; omega) (Lib.byteCells_one x)
      rw [Lib.byteCells_length] at hcp
      have d0 : w1.cell? ⟨b, 0, none⟩ = some (.slice (some ⟨g', 0, none⟩) (A.length + x.length) cap') := by rw [Lib.cell_of_heap hb1]; rfl
      have HEND := hid (snk_end (v := .slice (some ⟨g, 0, none⟩) A.length cap) (A := A) (x := x) (w := w) hb1 hg1 rfl rfl hcs' hcap hcm' htk' (Or.inr (by omega)) hk1)
      clear hsrc1 hb1 hg1 hk1 hown hsrc hb0 hk0
      unfold maxLen at hcm'
      have hcx : (A.length : Int) ≤ ((A.length + x.length : Nat) : Int) := by omega
      go_wp2
      go_ret2
      simpa [htk'] using HEND.out
set_option maxHeartbeats 3200000 in
set_option maxRecDepth 100000 in
theorem bwriteString_c (b : Nat) (v : Value) (A x : List UInt8) (w : World) (h : Snk b v A w) (hn : 1 ≤ x.length) (hlim : A.length + x.length ≤ 140737488355328) :
    Calls Tryf.prog 113 #[.pointer (some ⟨b, 0, none⟩), .string ⟨x.toArray⟩] w (SnkPost b v A x w) := by
  obtain ⟨lr, hb⟩ := h.blk
  have hown := h.own
  have hne := h.ne
  clear h
  have hinfo : (Tryf.prog.info? 5).map (·.size) = some 1 := by kernel_rfl
  have c2 : w.cell? ⟨b, 2, none⟩ = some (.int .i8 lr) := by rw [Lib.cell_of_heap hb]; rfl
  have f2 : w.frozen? ⟨b, 2, none⟩ = false := Lib.frozen_of_heap hb 2
  have hb0 : (w.setCell ⟨b, 2, none⟩ (.int .i8 0)).heap[b]? = some (.cells #[v, .int .i64 0, .int .i8 0] 52 (0, 0)) := by rw [heap_set hb]; simp
  have hk0 : Kept (· = b) w (w.setCell ⟨b, 2, none⟩ (.int .i8 0)) := Kept.setCell (S := (· = b)) (Kept.refl _ _) ⟨b, 2, none⟩ rfl _
  obtain ⟨w0, hw0⟩ : ∃ w0, w.setCell ⟨b, 2, none⟩ (.int .i8 0) = w0 := ⟨_, rfl⟩
  have hsz0 : w0.heap.size = w.heap.size := by rw [← hw0]; simp [World.setCell]
  rw [hw0] at hb0 hk0
  have c0 : w0.cell? ⟨b, 0, none⟩ = some v := by rw [Lib.cell_of_heap hb0]; rfl
  have f0 : w0.frozen? ⟨b, 0, none⟩ = false := Lib.frozen_of_heap hb0 0
  clear hb
  rcases hown.2 with ⟨rfl, hA0⟩ | ⟨g, cap, cur, rfl, _, hg, hnc, hcm, hcs, htk⟩
  · obtain rfl : A = [] := List.eq_nil_of_length_eq_zero hA0
    go_enter Tryf.func113, Tryf.ntmps113
    go_wp2_with fail
    try rw [hw0]
    refine (Any.Buffer_tryGrow_none { Tryf.laysM251 with } b _ 0 0 x.length w0 c0 (Nat.le_refl _) (Nat.zero_le _) (by omega)).mono ?_
    rintro e w' ⟨rfl, hw'⟩
    rw [hw']
    clear hw' c2 f2
    go_wp2_with fail
    refine (grow_nil b x.length 0 w0 hb0 hn (by simp at hlim; omega)).mono ?_
    rintro e w1 ⟨rfl, g, cap, cells, hb1, hg1, hcs, hcap, hcm, htk, hwg, hkg⟩
    have hk1 : Kept (· = b) w w1 := hk0.trans hkg
    have hcp := Lib.run_copy_row_string (P := Tryf.prog) w1 43 9 3 5 g 0 x.length (cap - 0) ⟨x.toArray⟩ cells 5 Tryf.underlying43 hinfo hg1 (by rw [Lib.size_eq]; exact Nat.le_refl _) (by rw [Lib.size_eq]; simp only; omega)
    rw [Lib.size_eq] at hcp
    simp only [List.toList_toArray] at hcp
    have d0 : w1.cell? ⟨b, 0, none⟩ = some (.slice (some ⟨g, 0, none⟩) (0 + x.length) cap) := by rw [Lib.cell_of_heap hb1]; rfl
    have HEND := hid (snk_end (v := (.slice none 0 0)) (A := []) (x := x) (w := w) hb1 hg1 rfl rfl hcs hcap hcm htk (Or.inr (by omega)) hk1)
    simp only [Nat.zero_add, Nat.sub_zero, List.take_zero, List.nil_append, Nat.add_zero] at hcp d0
    clear hb1 hg1 hk1 hown hb0 hk0
    unfold maxLen at hcm
    have hcx : (0 : Int) ≤ ((0 + x.length : Nat) : Int) := by omega
    go_wp2
    go_ret2
    simpa using HEND.out
  · have hgb : g ≠ b := fun e => hne (by rw [e]; rfl)
    have hg0 : w0.heap[g]? = some (.cells cur 5 (0, 0)) := hk0.heap hg hgb
    rw [Nat.mul_one] at hcs htk
    by_cases hroom : x.length ≤ cap - A.length
    · go_enter Tryf.func113, Tryf.ntmps113
      go_wp2_with fail
      try rw [hw0]
      refine (Any.Buffer_tryGrow_room { Tryf.laysM251 with } b _ A.length cap x.length w0 c0 f0 hnc hcm hroom).mono ?_
      rintro e w1 ⟨rfl, hw1⟩
      have hb1 : w1.heap[b]? = some (.cells #[.slice (some ⟨g, 0, none⟩) (A.length + x.length) cap, .int .i64 0, .int .i8 0] 52 (0, 0)) := by rw [hw1, heap_set hb0]; simp
      have hg1 : w1.heap[g]? = some (.cells cur 5 (0, 0)) := by rw [hw1, heap_set_other hgb]; exact hg0
      have hk1 : Kept (· = b) w w1 := by rw [hw1]; exact hk0.setCell ⟨b, 0, none⟩ rfl _
      clear hw1 c2 f2 c0 f0 hg hg0
      have hcp := Lib.run_copy_row_string (P := Tryf.prog) w1 43 9 3 5 g A.length x.length (cap - A.length) ⟨x.toArray⟩ cur 5 Tryf.underlying43 hinfo hg1 (by rw [Lib.size_eq]; exact Nat.le_refl _) (by rw [Lib.size_eq]; simp only; omega)
      rw [Lib.size_eq] at hcp
      simp only [List.toList_toArray] at hcp
      have d0 : w1.cell? ⟨b, 0, none⟩ = some (.slice (some ⟨g, 0, none⟩) (A.length + x.length) cap) := by rw [Lib.cell_of_heap hb1]; rfl
      have HEND := hid (snk_end (v := .slice (some ⟨g, 0, none⟩) A.length cap) (A := A) (x := x) (w := w) hb1 hg1 rfl rfl hcs (by omega) hcm htk (Or.inl rfl) hk1)
      clear hb1 hg1 hk1 hown hb0 hk0
      unfold maxLen at hcm
      have hcx : (A.length : Int) ≤ ((A.length + x.length : Nat) : Int) := by omega
      go_wp2
      go_ret2
      simpa [htk] using HEND.out
    · go_enter Tryf.func113, Tryf.ntmps113
      go_wp2_with fail
      try rw [hw0]
      refine (Any.Buffer_tryGrow_none { Tryf.laysM251 with } b _ A.length cap x.length w0 c0 hnc hcm (by omega)).mono ?_
      rintro e w' ⟨rfl, hw'⟩
      rw [hw']
      clear hw' c2 f2
      go_wp2_with fail
      refine (grow_c b A.length x.length g cap (Lib.byteCells A) cur 0 w0 hb0 hg0 hcs hnc hcm htk (Lib.byteCells_one A) hn (by omega) hlim).mono ?_
      rintro e w1 ⟨rfl, g', cap', cells, hb1, hg1, hcs', hcap, hcm', htk', hwg, hkg⟩
      have hk1 : Kept (· = b) w w1 := hk0.trans hkg
      clear hg hg0 hcs hnc hcm htk hroom c0 f0 hkg
      have hcp := Lib.run_copy_row_string (P := Tryf.prog) w1 43 9 3 5 g' A.length x.length (cap' - A.length) ⟨x.toArray⟩ cells 5 Tryf.underlying43 hinfo hg1 (by rw [Lib.size_eq]; exact Nat.le_refl _) (by rw [Lib.size_eq]; simp only; omega)
      rw [Lib.size_eq] at hcp
      simp only [List.toList_toArray] at hcp
      have d0 : w1.cell? ⟨b, 0, none⟩ = some (.slice (some ⟨g', 0, none⟩) (A.length + x.length) cap') := by rw [Lib.cell_of_heap hb1]; rfl
      have HEND := hid (snk_end (v := .slice (some ⟨g, 0, none⟩) A.length cap) (A := A) (x := x) (w := w) hb1 hg1 rfl rfl hcs' hcap hcm' htk' (Or.inr (by omega)) hk1)
      clear hb1 hg1 hk1 hown hb0 hk0
      unfold maxLen at hcm'
      have hcx : (A.length : Int) ≤ ((A.length + x.length : Nat) : Int) := by omega
      go_wp2
      go_ret2
      simpa [htk'] using HEND.out
end Go.Proofs.Qxb6613956aFmt
