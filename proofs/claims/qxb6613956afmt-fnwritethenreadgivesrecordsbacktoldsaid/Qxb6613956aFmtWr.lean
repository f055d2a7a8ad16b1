/-
  bufio.Writer over bytes.Buffer: Flush (30), WriteByte (36), WriteString (38): the text so far is what the sink holds and what is kept back.
-/
import Derived.Test.Qxb6613956aFmtSink
import Derived.Deep.DeepCutAuto
namespace Go.Proofs.Qxb6613956aFmt
open Go.RowKit Go.Shelf
set_option linter.unusedSimpArgs false

/-- bufio.Writer in block q over the row r of 4096 bytes, writing to the bytes.Buffer in block b. -/
structure WSt (w0 : World) (q r b : Nat) (A B : List UInt8) (v : Value) (cur : Array Value) (w : World) : Prop where
  hq : w.heap[q]? = some (.cells #[.nilIface, .slice (some ⟨r, 0, none⟩) 4096 4096, .int .i64 B.length, .iface 26 (.pointer (some ⟨b, 0, none⟩))] 86 (0, 0))
  hr : w.heap[r]? = some (.cells cur 5 (0, 0))
  size : cur.size = 4096
  take : cur.toList.take B.length = Lib.byteCells B
  room : B.length ≤ 4096
  snk : Snk b v A w
  ne : v.ownBlock ≠ some r
  lq : w0.heap.size ≤ q
  lr : w0.heap.size ≤ r
  lb : w0.heap.size ≤ b
  lv : ∀ k, v.ownBlock = some k → w0.heap.size ≤ k
  bel : Below w0.heap.size w0 w
section
variable {w0 w w' : World} {q r b : Nat} {A B : List UInt8} {v : Value} {cur : Array Value}
theorem WSt.qr (h : WSt w0 q r b A B v cur w) : q ≠ r := fun e => by have h1 := h.hq; rw [e, h.hr] at h1; simp at h1
theorem WSt.qb (h : WSt w0 q r b A B v cur w) : q ≠ b := fun e => by obtain ⟨lr, h2⟩ := h.snk.blk; have h1 := h.hq; rw [e, h2] at h1; simp at h1
theorem WSt.rb (h : WSt w0 q r b A B v cur w) : r ≠ b := fun e => by obtain ⟨lr, h2⟩ := h.snk.blk; have h1 := h.hr; rw [e, h2] at h1; simp at h1
theorem WSt.vq (h : WSt w0 q r b A B v cur w) : v.ownBlock ≠ some q := fun e => by
  obtain ⟨c, fz, hc⟩ := Lib.ownsRowF_kind (World.ownsRowF_of h.snk.own) q e
  rw [h.hq] at hc
  simp at hc
theorem WSt.cells (h : WSt w0 q r b A B v cur w) (j : Nat) (u : Value) (hj : (Lib.byteCells B)[j]? = some u) : w.cell? ((⟨r, 0, none⟩ : Addr).add j) = some u := by
  have hl : j < B.length := by have := (List.getElem?_eq_some_iff.1 hj).1; rwa [Lib.byteCells_length] at this
  have e1 : ((⟨r, 0, none⟩ : Addr).add j) = ⟨r, j, none⟩ := by rw [WideShapes.add_plain, Nat.zero_add]
  rw [e1, Lib.cell_of_heap h.hr]
  have := h.take
  rw [← this, List.getElem?_take_of_lt hl] at hj
  simpa using hj
/-- Whatever keeps the writer's four blocks keeps the writer. -/
theorem WSt.kept {S : Nat → Prop} (h : WSt w0 q r b A B v cur w) (hk : Kept S w w') (h1 : ¬ S q) (h2 : ¬ S r) (h3 : ¬ S b) (h4 : ∀ k, v.ownBlock = some k → ¬ S k) (h5 : ∀ k, S k → w0.heap.size ≤ k) : WSt w0 q r b A B v cur w' :=
  ⟨hk.heap h.hq h1, hk.heap h.hr h2, h.size, h.take, h.room, h.snk.kept hk h3 h4, h.ne, h.lq, h.lr, h.lb, h.lv, h.bel.trans (hk.to_below h5 h.bel.size)⟩
theorem WSt.below (h : WSt w0 q r b A B v cur w) (hb : Below w.heap.size w w') : WSt w0 q r b A B v cur w' :=
  h.kept (S := fun _ => False) (Kept.of_below hb) id id id (fun _ _ => id) (fun _ e => e.elim)
end

theorem nil_write (a : Addr) (w : World) : (nilAhead 272 26 (.pointer (some a)) "Write").run Tryf.prog w = .ok (some false) w := by kernel_rfl
theorem method_write (a : Addr) (w : World) : (method 272 26 (.pointer (some a)) "Write").run Tryf.prog w = .ok (112, .pointer (some a)) w := by kernel_rfl

set_option maxHeartbeats 3200000 in
set_option maxRecDepth 100000 in
theorem flush_c (w0 : World) (q r b : Nat) (A B : List UInt8) (v : Value) (cur : Array Value) (w : World) (h : WSt w0 q r b A B v cur w) (hlim : A.length + B.length ≤ 100000000) :
    Calls Tryf.prog 30 #[.pointer (some ⟨q, 0, none⟩)] w fun e w' => e = .returned .nilIface ∧ ∃ v', WSt w0 q r b (A ++ B) [] v' cur w' ∧ (∀ k, k < w.heap.size → k ≠ q → k ≠ b → v.ownBlock ≠ some k → w'.heap[k]? = w.heap[k]?) := by
  have H := hid h
  have c0 : w.cell? ⟨q, 0, none⟩ = some .nilIface := by rw [Lib.cell_of_heap h.hq]; rfl
  have c1 : w.cell? ⟨q, 1, none⟩ = some (.slice (some ⟨r, 0, none⟩) 4096 4096) := by rw [Lib.cell_of_heap h.hq]; rfl
  have c2 : w.cell? ⟨q, 2, none⟩ = some (.int .i64 B.length) := by rw [Lib.cell_of_heap h.hq]; rfl
  have c3 : w.cell? ⟨q, 3, none⟩ = some (.iface 26 (.pointer (some ⟨b, 0, none⟩))) := by rw [Lib.cell_of_heap h.hq]; rfl
  have hroom := h.room
  clear h
  by_cases hB : B = []
  · subst hB
    go_enter Tryf.func30, Tryf.ntmps30
    go_wp2
    go_ret
    exact ⟨rfl, v, by rw [List.append_nil]; exact H.out, fun _ _ _ _ _ => rfl⟩
  · have hB1 : 1 ≤ B.length := by
      cases B with
      | nil => exact absurd rfl hB
      | cons _ _ => simp
    have hB2 : ((B.length : Int) == 0) = false := beq_eq_false_iff_ne.2 (by omega)
    go_enter Tryf.func30, Tryf.ntmps30
    have hm := method_write ⟨b, 0, none⟩
    have hna := nil_write ⟨b, 0, none⟩
    go_upto_region 5 with fail
    go_cut [3, 4] (fun s3 s4 wx => s3 = .int .i64 B.length ∧ s4 = .nilIface ∧ ∃ v', Snk b v' (A ++ B) wx ∧ (∀ k, v'.ownBlock = some k → v.ownBlock = some k ∨ w.heap.size ≤ k) ∧ Kept (fun k => k = b ∨ v.ownBlock = some k) w wx)
    case first =>
      have hB3 : (B.length : Int) ≤ 4096 := by omega
      go_region_with (
        go_at_call 112
        refine (bwrite_c b v A B ⟨r, 0, none⟩ 4096 _ ?_ hB1 H.out.rb H.out.ne ?_ (by omega)).mono ?_
        exact ⟨H.out.snk.blk, H.out.snk.own⟩
        exact H.out.cells
        rintro e w1 ⟨rfl, v', hs1, hw1, hk1⟩
        have HS1 := hid hs1
        have HW1 := hid hw1
        have HK1 := hid hk1
        clear hs1 hw1 hk1)
      all_goals
        go_wp2
        go_meet
        case rel => exact ⟨rfl, rfl, v', HS1.out, HW1.out, ⟨HK1.out.os, HK1.out.tape, HK1.out.output, HK1.out.size, HK1.out.block⟩⟩
    case rest =>
      obtain ⟨rfl, rfl, v', hs1, hw1, hk1⟩ := hcut
      have hql := lt_heap H.out.hq
      have hrl := lt_heap H.out.hr
      have hvq : v'.ownBlock ≠ some q := fun e => by
        rcases hw1 q e with h | h
        · exact H.out.vq h
        · omega
      have hvr : v'.ownBlock ≠ some r := fun e => by
        rcases hw1 r e with h | h
        · exact H.out.ne h
        · omega
      have hq1 := hk1.heap H.out.hq (fun e => by rcases e with h | h; exact H.out.qb h; exact H.out.vq h)
      have hr1 := hk1.heap H.out.hr (fun e => by rcases e with h | h; exact H.out.rb h; exact H.out.ne h)
      have d2 : wc.cell? ⟨q, 2, none⟩ = some (.int .i64 B.length) := by rw [Lib.cell_of_heap hq1]; rfl
      have f2 : wc.frozen? ⟨q, 2, none⟩ = false := Lib.frozen_of_heap hq1 2
      have hbel : Below w0.heap.size w wc := hk1.to_below (fun k e => by rcases e with h | h; rw [h]; exact H.out.lb; exact H.out.lv k h) H.out.bel.size
      have HF := hid (show WSt w0 q r b (A ++ B) [] v' cur (wc.setCell ⟨q, 2, none⟩ (.int .i64 0)) from
        ⟨by rw [heap_set hq1]; simp, by rw [heap_set_other (Ne.symm H.out.qr)]; exact hr1, H.out.size, rfl, by simp,
          hs1.kept (S := (· = q)) (Kept.setCell (S := (· = q)) (Kept.refl _ _) ⟨q, 2, none⟩ rfl _) (fun e => H.out.qb e.symm) (fun k e e2 => hvq (by rw [← e2]; exact e)), hvr, H.out.lq, H.out.lr, H.out.lb,
          (fun k e => by rcases hw1 k e with h | h; exact H.out.lv k h; have := H.out.bel.size; omega), (H.out.bel.trans hbel).setCell (p := ⟨q, 2, none⟩) H.out.lq _⟩)
      have HFR := hid (show ∀ k, k < w.heap.size → k ≠ q → k ≠ b → v.ownBlock ≠ some k → (wc.setCell ⟨q, 2, none⟩ (.int .i64 0)).heap[k]? = w.heap[k]? from fun k h1 h2 h3 h4 => by
        rw [heap_set_other h2]
        exact hk1.block k h1 (fun e => by rcases e with h | h; exact h3 h; exact h4 h))
      clear hs1 hw1 hk1 hq1 hr1 hbel c0 c1 c2 c3 hm hna
      go_wp2
      go_ret
      exact ⟨rfl, v', HF.out, HFR.out⟩
end Go.Proofs.Qxb6613956aFmt
