/-
  bufio.Writer: Available (46), Buffered (48), WriteByte (36).
-/
import Derived.Test.Qxb6613956aFmtWr
namespace Go.Proofs.Qxb6613956aFmt
open Go.RowKit Go.Shelf
set_option linter.unusedSimpArgs false

/-- The text so far: what the sink holds, and what is kept back. -/
def WInv (w0 : World) (q r b : Nat) (T : List UInt8) (w : World) : Prop := ∃ A B v cur, T = A ++ B ∧ WSt w0 q r b A B v cur w

set_option maxHeartbeats 1000000 in
theorem avail_c (q r n : Nat) (a b : Value) (w : World) (hn : n ≤ 4096) (hq : w.heap[q]? = some (.cells #[a, .slice (some ⟨r, 0, none⟩) 4096 4096, .int .i64 n, b] 86 (0, 0))) :
    Calls Tryf.prog 46 #[.pointer (some ⟨q, 0, none⟩)] w fun e w' => e = .returned (.int .i64 (4096 - n)) ∧ ∃ k, w' = w.drewN k := by
  have c1 : w.cell? ⟨q, 1, none⟩ = some (.slice (some ⟨r, 0, none⟩) 4096 4096) := by rw [Lib.cell_of_heap hq]; rfl
  have c2 : w.cell? ⟨q, 2, none⟩ = some (.int .i64 n) := by rw [Lib.cell_of_heap hq]; rfl
  clear hq
  go_enter Tryf.func46, Tryf.ntmps46
  go_wp2
  go_quiet (fail)
  go_wp2
  go_ret
  refine ⟨?_, _, rfl⟩
  have hw : wrap64 (4096 - (n : Int)) = 4096 - n := by unfold wrap64; omega
  simp [hw]
set_option maxHeartbeats 1000000 in
theorem buffered_c (q : Nat) (n : Nat) (a b c : Value) (w : World) (hq : w.heap[q]? = some (.cells #[a, b, .int .i64 n, c] 86 (0, 0))) :
    Calls Tryf.prog 48 #[.pointer (some ⟨q, 0, none⟩)] w fun e w' => e = .returned (.int .i64 n) ∧ w' = w := by
  have c2 : w.cell? ⟨q, 2, none⟩ = some (.int .i64 n) := by rw [Lib.cell_of_heap hq]; rfl
  clear hq
  go_enter Tryf.func48, Tryf.ntmps48
  go_wp2
  go_ret
  exact ⟨rfl, rfl⟩

/-- One byte more kept back. -/
theorem WSt.push {w0 w : World} {q r b : Nat} {A B : List UInt8} {v : Value} {cur : Array Value} (h : WSt w0 q r b A B v cur w) (hB : B.length < 4096) (c : UInt8) :
    WSt w0 q r b A (B ++ [c]) v (cur.setIfInBounds B.length (.int .u8 (c.toNat : Int))) ((w.setCell ⟨r, B.length, none⟩ (.int .u8 (c.toNat : Int))).setCell ⟨q, 2, none⟩ (.int .i64 (B.length + 1))) := by
  have hk : Kept (fun k => k = q ∨ k = r) w ((w.setCell ⟨r, B.length, none⟩ (.int .u8 (c.toNat : Int))).setCell ⟨q, 2, none⟩ (.int .i64 (B.length + 1))) :=
    ((Kept.refl _ _).setCell ⟨r, B.length, none⟩ (Or.inr rfl) _).setCell ⟨q, 2, none⟩ (Or.inl rfl) _
  refine ⟨?_, ?_, by simp [h.size], ?_, by simp; omega, h.snk.kept hk (fun e => by rcases e with e | e; exact h.qb e.symm; exact h.rb e.symm) (fun k e e2 => by rcases e2 with e2 | e2; exact h.vq (e2 ▸ e); exact h.ne (e2 ▸ e)), h.ne, h.lq, h.lr, h.lb, h.lv,
    h.bel.trans (hk.to_below (fun k e => by rcases e with e | e; rw [e]; exact h.lq; rw [e]; exact h.lr) h.bel.size)⟩
  · rw [heap_set (by rw [heap_set_other h.qr]; exact h.hq)]
    simp
  · rw [heap_set_other (Ne.symm h.qr), heap_set h.hr]
  · have hl : B.length < cur.toList.length := by have := cur.length_toList; have := h.size; omega
    rw [Array.toList_setIfInBounds, List.length_append, List.length_singleton, List.take_succ_eq_append_getElem (by simpa using hl), List.take_set_of_le (Nat.le_refl _), h.take, List.getElem_set_self, Lib.byteCells_append]
    rfl
/-- The blocks of csv.Writer's kind stand. -/
def K62 (w w' : World) : Prop := ∀ (d : Nat) (cs : Array Value), w.heap[d]? = some (.cells cs 62 (0, 0)) → w'.heap[d]? = some (.cells cs 62 (0, 0))
theorem K62.refl (w : World) : K62 w w := fun _ _ h => h
theorem K62.trans {w w' w'' : World} (h : K62 w w') (h' : K62 w' w'') : K62 w w'' := fun d cs e => h' d cs (h d cs e)
theorem K62.below {w w' : World} (h : Below w.heap.size w w') : K62 w w' := fun d _ e => (h.block d (lt_heap e)).trans e
theorem WSt.k62 {w0 w w' : World} {q r b : Nat} {A B : List UInt8} {v : Value} {cur : Array Value} (h : WSt w0 q r b A B v cur w) (hk : Kept (fun k => k = q ∨ k = r ∨ k = b ∨ v.ownBlock = some k) w w') : K62 w w' := fun d cs e => by
  refine hk.heap e (fun hS => ?_)
  rcases hS with rfl | rfl | rfl | hS
  · rw [h.hq] at e; simp at e
  · rw [h.hr] at e; simp at e
  · obtain ⟨lr, hb⟩ := h.snk.blk; rw [hb] at e; simp at e
  · obtain ⟨c, fz, hc⟩ := Lib.ownsRowF_kind (World.ownsRowF_of h.snk.own) d hS
    rw [hc] at e; simp at e
theorem K62.flushed {w w' : World} {w0 : World} {q r b : Nat} {A B : List UInt8} {v : Value} {cur : Array Value} (h : WSt w0 q r b A B v cur w) (hf : ∀ k, k < w.heap.size → k ≠ q → k ≠ b → v.ownBlock ≠ some k → w'.heap[k]? = w.heap[k]?) : K62 w w' := fun d cs e => by
  refine (hf d (lt_heap e) ?_ ?_ ?_).trans e
  · rintro rfl; rw [h.hq] at e; simp at e
  · rintro rfl; obtain ⟨lr, hb⟩ := h.snk.blk; rw [hb] at e; simp at e
  · intro hS
    obtain ⟨c, fz, hc⟩ := Lib.ownsRowF_kind (World.ownsRowF_of h.snk.own) d hS
    rw [hc] at e; simp at e

set_option maxHeartbeats 3200000 in
set_option maxRecDepth 100000 in
theorem writeByte_c (w0 : World) (q r b : Nat) (T : List UInt8) (c : UInt8) (w : World) (h : WInv w0 q r b T w) (hlim : T.length ≤ 100000000) :
    Calls Tryf.prog 36 #[.pointer (some ⟨q, 0, none⟩), .int .u8 (c.toNat : Int)] w fun e w' => e = .returned .nilIface ∧ WInv w0 q r b (T ++ [c]) w' ∧ K62 w w' := by
  obtain ⟨A, B, v, cur, rfl, h⟩ := h
  have H := hid h
  have hroom := h.room
  clear h
  rw [List.length_append] at hlim
  by_cases hB : B.length < 4096
  · have cA := avail_c q r B.length _ _ w hroom H.out.hq
    have c0 : w.cell? ⟨q, 0, none⟩ = some .nilIface := by rw [Lib.cell_of_heap H.out.hq]; rfl
    go_enter Tryf.func36, Tryf.ntmps36
    go_wp2_with fail
    refine cA.mono ?_
    rintro e w1 ⟨rfl, k, rfl⟩
    clear cA c0
    have H1 := hid (H.out.kept ((Kept.refl (fun _ => False) w).drewN k) id id id (fun _ _ => id) (fun _ e => e.elim))
    have HK1 := hid (show K62 w (w.drewN k) from fun _ _ e => e)
    obtain ⟨w1, hw1⟩ : ∃ w1, w.drewN k = w1 := ⟨_, rfl⟩
    rw [hw1] at H1 HK1 ⊢
    clear hw1
    have d0 : w1.cell? ⟨q, 0, none⟩ = some .nilIface := by rw [Lib.cell_of_heap H1.out.hq]; rfl
    have d1 : w1.cell? ⟨q, 1, none⟩ = some (.slice (some ⟨r, 0, none⟩) 4096 4096) := by rw [Lib.cell_of_heap H1.out.hq]; rfl
    have d2 : w1.cell? ⟨q, 2, none⟩ = some (.int .i64 (B.length : Nat)) := by rw [Lib.cell_of_heap H1.out.hq]; rfl
    obtain ⟨u, hu⟩ : ∃ u, w1.cell? ⟨r, B.length, none⟩ = some u := by
      rw [Lib.cell_of_heap H1.out.hr]
      exact ⟨_, Array.getElem?_eq_getElem (by have := H1.out.size; omega)⟩
    have fu : w1.frozen? ⟨r, B.length, none⟩ = false := Lib.frozen_of_heap H1.out.hr _
    have hB9 : ((B.length : Nat) : Int) < 4096 := by omega
    have HP := hid ((H1.out.push hB c).below (w' := ((w1.setCell ⟨r, B.length, none⟩ (.int .u8 (c.toNat : Int))).drew).setCell ⟨q, 2, none⟩ (.int .i64 ((B.length : Nat) + 1))) ⟨rfl, rfl, rfl, Nat.le_refl _, fun _ _ => rfl⟩)
    have HKP := hid (show K62 w1 (((w1.setCell ⟨r, B.length, none⟩ (.int .u8 (c.toNat : Int))).drew).setCell ⟨q, 2, none⟩ (.int .i64 ((B.length : Nat) + 1))) from H1.out.k62 ((((Kept.refl _ w1).setCell ⟨r, B.length, none⟩ (Or.inr (Or.inl rfl)) (.int .u8 (c.toNat : Int))).drewN 1).setCell ⟨q, 2, none⟩ (Or.inl rfl) _))
    have hq2 : ((w1.setCell ⟨r, B.length, none⟩ (.int .u8 (c.toNat : Int))).drew).heap[q]? = _ := (heap_set_other (w := w1) (i := B.length) H1.out.qr (.int .u8 (c.toNat : Int))).trans H1.out.hq
    go_wp2_with fail
    go_region
    obtain ⟨w9, hw9⟩ : ∃ w9, (w1.setCell ⟨r, B.length, none⟩ (.int .u8 (c.toNat : Int))).drew = w9 := ⟨_, rfl⟩
    rw [hw9] at hq2 HP HKP ⊢
    clear hw9 d0 d1 d2 hu fu
    have e2 : w9.cell? ⟨q, 2, none⟩ = some (.int .i64 (B.length : Nat)) := by rw [Lib.cell_of_heap hq2]; rfl
    have g2 : w9.frozen? ⟨q, 2, none⟩ = false := Lib.frozen_of_heap hq2 2
    clear hq2
    go_wp2_with fail
    go_ret
    exact ⟨rfl, ⟨_, _, _, _, (by rw [List.append_assoc]), HP.out⟩, HK1.out.trans HKP.out⟩
  · have hB8 : B.length = 4096 := by omega
    have cA := avail_c q r B.length _ _ w hroom H.out.hq
    have c0 : w.cell? ⟨q, 0, none⟩ = some .nilIface := by rw [Lib.cell_of_heap H.out.hq]; rfl
    go_enter Tryf.func36, Tryf.ntmps36
    go_wp2_with fail
    refine cA.mono ?_
    rintro e w1 ⟨rfl, k, rfl⟩
    clear cA c0
    have H1 := hid (H.out.kept ((Kept.refl (fun _ => False) w).drewN k) id id id (fun _ _ => id) (fun _ e => e.elim))
    have HK1 := hid (show K62 w (w.drewN k) from fun _ _ e => e)
    obtain ⟨w1, hw1⟩ : ∃ w1, w.drewN k = w1 := ⟨_, rfl⟩
    rw [hw1] at H1 HK1 ⊢
    clear hw1
    go_wp2_with fail
    refine (flush_c w0 q r b A B v cur w1 H1.out hlim).mono ?_
    rintro e w2 ⟨rfl, v', hst, hfr⟩
    have H2 := hid hst
    have HK2 := hid (K62.flushed H1.out hfr)
    clear hfr
    clear hst H1 H
    have d0 : w2.cell? ⟨q, 0, none⟩ = some .nilIface := by rw [Lib.cell_of_heap H2.out.hq]; rfl
    have d1 : w2.cell? ⟨q, 1, none⟩ = some (.slice (some ⟨r, 0, none⟩) 4096 4096) := by rw [Lib.cell_of_heap H2.out.hq]; rfl
    have d2 : w2.cell? ⟨q, 2, none⟩ = some (.int .i64 (0 : Nat)) := by rw [Lib.cell_of_heap H2.out.hq]; rfl
    obtain ⟨u, hu⟩ : ∃ u, w2.cell? ⟨r, 0, none⟩ = some u := by
      rw [Lib.cell_of_heap H2.out.hr]
      exact ⟨_, Array.getElem?_eq_getElem (by have := H2.out.size; omega)⟩
    have fu : w2.frozen? ⟨r, 0, none⟩ = false := Lib.frozen_of_heap H2.out.hr _
    have hB9 : ((0 : Nat) : Int) < 4096 := by omega
    have HP := hid ((H2.out.push (by decide) c).below (w' := ((w2.setCell ⟨r, 0, none⟩ (.int .u8 (c.toNat : Int))).drew).setCell ⟨q, 2, none⟩ (.int .i64 ((0 : Nat) + 1))) ⟨rfl, rfl, rfl, Nat.le_refl _, fun _ _ => rfl⟩)
    have HKP := hid (show K62 w2 (((w2.setCell ⟨r, 0, none⟩ (.int .u8 (c.toNat : Int))).drew).setCell ⟨q, 2, none⟩ (.int .i64 ((0 : Nat) + 1))) from H2.out.k62 ((((Kept.refl _ w2).setCell ⟨r, 0, none⟩ (Or.inr (Or.inl rfl)) (.int .u8 (c.toNat : Int))).drewN 1).setCell ⟨q, 2, none⟩ (Or.inl rfl) _))
    have hq2 : ((w2.setCell ⟨r, 0, none⟩ (.int .u8 (c.toNat : Int))).drew).heap[q]? = _ := (heap_set_other (w := w2) (i := 0) H2.out.qr (.int .u8 (c.toNat : Int))).trans H2.out.hq
    go_wp2_with fail
    go_region
    obtain ⟨w9, hw9⟩ : ∃ w9, (w2.setCell ⟨r, 0, none⟩ (.int .u8 (c.toNat : Int))).drew = w9 := ⟨_, rfl⟩
    rw [hw9] at hq2 HP HKP ⊢
    clear hw9 d0 d1 d2 hu fu
    have e2 : w9.cell? ⟨q, 2, none⟩ = some (.int .i64 (0 : Nat)) := by rw [Lib.cell_of_heap hq2]; rfl
    have g2 : w9.frozen? ⟨q, 2, none⟩ = false := Lib.frozen_of_heap hq2 2
    clear hq2
    go_wp2_with fail
    go_ret
    exact ⟨rfl, ⟨_, _, _, _, rfl, HP.out⟩, HK1.out.trans (HK2.out.trans HKP.out)⟩

end Go.Proofs.Qxb6613956aFmt
