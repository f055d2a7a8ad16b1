/-
  bufio.Writer: WriteString (38).
-/
import Derived.Test.Qxb6613956aFmtWb
import Derived.Test.Qxb6613956aFmtCp
import Derived.Stop.Asserts
namespace Go.Proofs.Qxb6613956aFmt
open Go.RowKit Go.Shelf
set_option linter.unusedSimpArgs false

/-- Bytes more kept back: behind the copy and the new count. -/
theorem WSt.fill {w0 w : World} {q r b : Nat} {A B x : List UInt8} {v : Value} {cur : Array Value} (h : WSt w0 q r b A B v cur w) (hB : B.length + x.length ≤ 4096) :
    WSt w0 q r b A (B ++ x) v (cur.toList.take B.length ++ Lib.byteCells x ++ cur.toList.drop (B.length + x.length)).toArray ((w.setRow r (cur.toList.take B.length ++ Lib.byteCells x ++ cur.toList.drop (B.length + x.length)).toArray).setCell ⟨q, 2, none⟩ (.int .i64 ((B.length + x.length : Nat) : Int))) := by
  have hk : Kept (fun k => k = q ∨ k = r) w ((w.setRow r (cur.toList.take B.length ++ Lib.byteCells x ++ cur.toList.drop (B.length + x.length)).toArray).setCell ⟨q, 2, none⟩ (.int .i64 ((B.length + x.length : Nat) : Int))) :=
    ((Kept.refl _ _).setRow r _ (Or.inl (Or.inr rfl))).setCell ⟨q, 2, none⟩ (Or.inl rfl) _
  have hcl := cur.length_toList
  have hcs := h.size
  refine ⟨?_, ?_, ?_, ?_, by rw [List.length_append]; exact hB, h.snk.kept hk (fun e => by rcases e with e | e; exact h.qb e.symm; exact h.rb e.symm) (fun k e e2 => by rcases e2 with e2 | e2; exact h.vq (e2 ▸ e); exact h.ne (e2 ▸ e)), h.ne, h.lq, h.lr, h.lb, h.lv,
    h.bel.trans (hk.to_below (fun k e => by rcases e with e | e; rw [e]; exact h.lq; rw [e]; exact h.lr) h.bel.size)⟩
  · rw [heap_set (by rw [setRow_other w r q _ h.qr]; exact h.hq)]
    simp
  · rw [heap_set_other (Ne.symm h.qr), setRow_heap w r cur _ 5 (0, 0) h.hr]
  · simp only [List.size_toArray, List.length_append, List.length_take, List.length_drop, Lib.byteCells_length]
    omega
  · have e1 : (B ++ x).length = (Lib.byteCells (B ++ x)).length := by rw [Lib.byteCells_length]
    simp only [h.take]
    rw [← Lib.byteCells_append, e1]
    exact List.take_left

/-- The count stored anew. -/
theorem WSt.setn {w0 w : World} {q r b : Nat} {A B : List UInt8} {v : Value} {cur : Array Value} (h : WSt w0 q r b A B v cur w) : WSt w0 q r b A B v cur (w.setCell ⟨q, 2, none⟩ (.int .i64 (B.length : Nat))) :=
  ⟨by rw [heap_set h.hq]; simp, by rw [heap_set_other (Ne.symm h.qr)]; exact h.hr, h.size, h.take, h.room,
    h.snk.kept (S := (· = q)) (Kept.setCell (S := (· = q)) (Kept.refl _ _) ⟨q, 2, none⟩ rfl _) (fun e => h.qb e.symm) (fun k e e2 => h.vq (e2 ▸ e)), h.ne, h.lq, h.lr, h.lb, h.lv, h.bel.setCell (p := ⟨q, 2, none⟩) h.lq _⟩

/-- What went to the sink at once. -/
theorem WSt.sunk {w0 w w5 : World} {q r b : Nat} {A x : List UInt8} {v v' : Value} {cur : Array Value} (h : WSt w0 q r b A [] v cur w) (hs : Snk b v' (A ++ x) w5) (hl : ∀ k, v'.ownBlock = some k → v.ownBlock = some k ∨ w.heap.size ≤ k) (hk : Kept (fun k => k = b ∨ v.ownBlock = some k) w w5) :
    WSt w0 q r b (A ++ x) [] v' cur (w5.setCell ⟨q, 0, none⟩ .nilIface) := by
  have hql := lt_heap h.hq
  have hrl := lt_heap h.hr
  have hvq : v'.ownBlock ≠ some q := fun e => by
    rcases hl q e with h' | h'
    · exact h.vq h'
    · omega
  have hvr : v'.ownBlock ≠ some r := fun e => by
    rcases hl r e with h' | h'
    · exact h.ne h'
    · omega
  have hq1 := hk.heap h.hq (fun e => by rcases e with e | e; exact h.qb e; exact h.vq e)
  have hr1 := hk.heap h.hr (fun e => by rcases e with e | e; exact h.rb e; exact h.ne e)
  have hbel : Below w0.heap.size w w5 := hk.to_below (fun k e => by rcases e with e | e; rw [e]; exact h.lb; exact h.lv k e) h.bel.size
  exact ⟨by rw [heap_set hq1]; simp, by rw [heap_set_other (Ne.symm h.qr)]; exact hr1, h.size, h.take, h.room,
    hs.kept (S := (· = q)) (Kept.setCell (S := (· = q)) (Kept.refl _ _) ⟨q, 0, none⟩ rfl _) (fun e => h.qb e.symm) (fun k e e2 => hvq (by rw [← e2]; exact e)), hvr, h.lq, h.lr, h.lb,
    (fun k e => by rcases hl k e with h' | h'; exact h.lv k h'; have := h.bel.size; omega), (h.bel.trans hbel).setCell (p := ⟨q, 0, none⟩) h.lq _⟩
theorem nil_writeString (a : Addr) (w : World) : (nilAhead 272 26 (.pointer (some a)) "WriteString").run Tryf.prog w = .ok (some false) w := by kernel_rfl
theorem method_writeString (a : Addr) (w : World) : (method 272 26 (.pointer (some a)) "WriteString").run Tryf.prog w = .ok (113, .pointer (some a)) w := by kernel_rfl
theorem assert_sw (v : Value) (w : World) : (Instr.typeAssert (.iface 26 v) 74 96 true).run Tryf.prog w = .ok (.tuple #[.iface 26 v, .bool true]) w := run_typeAssert_hasB Tryf.underlying96 (by kernel_rfl) v 74 w

abbrev strV (l : List UInt8) : Value := .string ⟨l.toArray⟩
set_option maxHeartbeats 3200000 in
set_option maxRecDepth 100000 in
theorem writeString_c (w0 : World) (q r b : Nat) (T s : List UInt8) (w : World) (h : WInv w0 q r b T w) (hlim : T.length + s.length ≤ 100000000) :
    Calls Tryf.prog 38 #[.pointer (some ⟨q, 0, none⟩), strV s] w fun e w' => e = .returned (.tuple #[.int .i64 s.length, .nilIface]) ∧ WInv w0 q r b (T ++ s) w' ∧ K62 w w' := by
  obtain ⟨A0, B0, v0, cur0, hT, h⟩ := h
  have H := hid h
  have HT := hid hT
  clear h hT
  have hinfo : (Tryf.prog.info? 5).map (·.size) = some 1 := by kernel_rfl
  go_enter Tryf.func38, Tryf.ntmps38
  go_wp2_with fail
  go_loopg [1, 6, 7, 8] 2 (fun gk s1 s6 s7 s8 wx => ∃ (done rest A B : List UInt8) (v : Value) (cur : Array Value), s = done ++ rest ∧ s1 = strV rest ∧ s8 = .int .i64 (done.length : Nat) ∧ s7 = .bool true ∧ T ++ done = A ++ B ∧ WSt w0 q r b A B v cur wx ∧ K62 w wx ∧ ((gk = 2 ∧ s6 = .nilIface) ∨ (gk = 1 ∧ B = [] ∧ s6 = .nilIface) ∨ rest = []))
  case atStart => exact ⟨[], s, A0, B0, v0, cur0, rfl, rfl, rfl, rfl, by rw [List.append_nil]; exact HT.out, H.out, K62.refl _, Or.inl ⟨rfl, rfl⟩⟩
  case round =>
    obtain ⟨done, rest, A, B, v, cur, hs, rfl, rfl, rfl, hTd, hst, hk62, hg⟩ := hrel
    have HKR := hid hk62
    clear hk62
    have H1 := hid hst
    have HTD := hid hTd
    have HS := hid hs
    have hroom := hst.room
    have hlen : done.length + rest.length = s.length := by rw [hs, List.length_append]
    clear hst hTd hs H HT
    have cA := avail_c q r B.length _ _ wr hroom H1.out.hq
    by_cases hfit : rest.length ≤ 4096 - B.length
    · have hnl : ¬ ((4096 : Int) - (B.length : Int) < (rest.length : Int)) := by omega
      go_wp2_with fail
      refine cA.mono ?_
      rintro e w1 ⟨rfl, k, rfl⟩
      have H2 := hid (H1.out.kept ((Kept.refl (fun _ => False) wr).drewN k) id id id (fun _ _ => id) (fun _ e => e.elim))
      have HKA := hid (show K62 w (wr.drewN k) from fun d cs e => HKR.out d cs e)
      obtain ⟨w1, hw1⟩ : ∃ w1, wr.drewN k = w1 := ⟨_, rfl⟩
      rw [hw1] at H2 HKA ⊢
      clear hw1 cA H1
      have d0 : w1.cell? ⟨q, 0, none⟩ = some .nilIface := by rw [Lib.cell_of_heap H2.out.hq]; rfl
      have d1 : w1.cell? ⟨q, 1, none⟩ = some (.slice (some ⟨r, 0, none⟩) 4096 4096) := by rw [Lib.cell_of_heap H2.out.hq]; rfl
      have d2 : w1.cell? ⟨q, 2, none⟩ = some (.int .i64 (B.length : Nat)) := by rw [Lib.cell_of_heap H2.out.hq]; rfl
      by_cases hfull : 4096 = B.length
      · have hr0 : rest = [] := List.eq_nil_of_length_eq_zero (by omega)
        have hcp1 := Lib.run_copy_empty_string (P := Tryf.prog) w1.drew 43 9 3 5 (some ⟨r, 0, none⟩) 0 0 ⟨rest.toArray⟩ Tryf.underlying43 (by kernel_rfl) (by rw [hr0]; rfl)
        have HR0 := hid hr0
        clear hr0
        have hB9 : (B.length : Int) ≤ 4096 := by omega
        have H3 := hid (H2.out.below (w' := w1.drew) ⟨rfl, rfl, rfl, Nat.le_refl _, fun _ _ => rfl⟩)
        have HKB := hid (show K62 w w1.drew from fun d cs e => HKA.out d cs e)
        go_wp2_with fail
        go_region
        obtain ⟨w9, hw9⟩ : ∃ w9, w1.drew = w9 := ⟨_, rfl⟩
        rw [hw9] at H3 HKB ⊢
        clear hw9 d0 d1 d2 hcp1
        have e2 : w9.cell? ⟨q, 2, none⟩ = some (.int .i64 (B.length : Nat)) := by rw [Lib.cell_of_heap H3.out.hq]; rfl
        have g2 : w9.frozen? ⟨q, 2, none⟩ = false := Lib.frozen_of_heap H3.out.hq 2
        go_wp2_with fail
        go_ret2
        have hl0 : rest.length = 0 := by rw [HR0.out]; rfl
        have hdl : done.length = s.length := by omega
        refine ⟨by rw [← hdl]; simp, ⟨A, B, v, cur, ?_, ?_⟩, HKB.out.trans (H3.out.k62 ((Kept.refl _ w9).setCell ⟨q, 2, none⟩ (Or.inl rfl) _))⟩
        · rw [HS.out, HR0.out, List.append_nil]; exact HTD.out
        · simpa using H3.out.setn
      · have hcp : ∀ W : World, W.heap[r]? = some (.cells cur 5 (0, 0)) → (Builtin.copy_ #[43, 9] 3 #[.slice (some ⟨r, B.length, none⟩) (4096 - B.length) (4096 - B.length), strV rest]).run Tryf.prog W = .ok (goInt rest.length) (W.setRow r (cur.toList.take B.length ++ Lib.byteCells rest ++ cur.toList.drop (B.length + rest.length)).toArray) := fun W hW => by
          have h := Lib.run_copy_row_string (P := Tryf.prog) W 43 9 3 5 r B.length (4096 - B.length) (4096 - B.length) ⟨rest.toArray⟩ cur 5 Tryf.underlying43 hinfo hW (by rw [Lib.size_eq]; exact hfit) (by rw [Lib.size_eq, H2.out.size]; simp only; omega)
          rw [Lib.size_eq] at h
          exact h
        have hcp1 := hcp w1.drew H2.out.hr
        have hcp2 := hcp w1 H2.out.hr
        have hB9 : (B.length : Int) ≤ 4096 := by omega
        have HP := hid ((H2.out.fill (x := rest) (by omega)).below (w' := ((w1.drew.setRow r (cur.toList.take B.length ++ Lib.byteCells rest ++ cur.toList.drop (B.length + rest.length)).toArray)).setCell ⟨q, 2, none⟩ (.int .i64 ((B.length + rest.length : Nat) : Int))) ⟨rfl, rfl, rfl, Nat.le_refl _, fun _ _ => rfl⟩)
        obtain ⟨R, hR⟩ : ∃ R, (cur.toList.take B.length ++ Lib.byteCells rest ++ cur.toList.drop (B.length + rest.length)).toArray = R := ⟨_, rfl⟩
        rw [hR] at hcp1 hcp2 HP
        have HKB := hid (show K62 w1 ((w1.drew.setRow r R).setCell ⟨q, 2, none⟩ (.int .i64 ((B.length + rest.length : Nat) : Int))) from H2.out.k62 ((((Kept.refl _ w1).drewN 1).setRow r R (Or.inl (Or.inr (Or.inl rfl)))).setCell ⟨q, 2, none⟩ (Or.inl rfl) _))
        have hq2 : (w1.drew.setRow r R).heap[q]? = _ := (setRow_other w1 r q R H2.out.qr).trans H2.out.hq
        clear hcp hR
        go_wp2_with fail
        go_region
        obtain ⟨w9, hw9⟩ : ∃ w9, w1.drew.setRow r R = w9 := ⟨_, rfl⟩
        rw [hw9] at hq2 HP HKB ⊢
        clear hw9 d0 d1 d2 hcp1 hcp2
        have e2 : w9.cell? ⟨q, 2, none⟩ = some (.int .i64 (B.length : Nat)) := by rw [Lib.cell_of_heap hq2]; rfl
        have g2 : w9.frozen? ⟨q, 2, none⟩ = false := Lib.frozen_of_heap hq2 2
        clear hq2
        go_wp2_with fail
        go_ret2
        refine ⟨by rw [← hlen]; simp, ⟨A, B ++ rest, v, _, ?_, by simpa using HP.out⟩, HKA.out.trans (by simpa using HKB.out)⟩
        rw [HS.out, ← List.append_assoc, HTD.out, List.append_assoc]
    · have hnl : (4096 : Int) - (B.length : Int) < (rest.length : Int) := by omega
      have hrne : rest ≠ [] := fun e => by rw [e] at hfit; simp at hfit
      cases hB0 : ((B.length : Int) == 0) with
      | false =>
        have hgk : gk = 2 ∧ u6 = .nilIface := by
          rcases hg with h | ⟨_, h, _⟩ | h
          · exact h
          · rw [h] at hB0; simp at hB0
          · exact absurd h hrne
        obtain ⟨rfl, rfl⟩ := hgk
        go_wp2_with fail
        refine cA.mono ?_
        rintro e w1 ⟨rfl, k, rfl⟩
        have H2 := hid (H1.out.kept ((Kept.refl (fun _ => False) wr).drewN k) id id id (fun _ _ => id) (fun _ e => e.elim))
        have HKA := hid (show K62 w (wr.drewN k) from fun d cs e => HKR.out d cs e)
        obtain ⟨w1, hw1⟩ : ∃ w1, wr.drewN k = w1 := ⟨_, rfl⟩
        rw [hw1] at H2 HKA ⊢
        clear hw1 cA H1
        have d0 : w1.cell? ⟨q, 0, none⟩ = some .nilIface := by rw [Lib.cell_of_heap H2.out.hq]; rfl
        have d1 : w1.cell? ⟨q, 1, none⟩ = some (.slice (some ⟨r, 0, none⟩) 4096 4096) := by rw [Lib.cell_of_heap H2.out.hq]; rfl
        have d2 : w1.cell? ⟨q, 2, none⟩ = some (.int .i64 (B.length : Nat)) := by rw [Lib.cell_of_heap H2.out.hq]; rfl
        have cBf := buffered_c q B.length _ _ _ w1 H2.out.hq
        go_wp2_with (go_at_call 48; refine cBf.mono ?_; rintro e w2 ⟨rfl, hw2⟩; rw [hw2])
        clear cBf
        by_cases hfull : 4096 = B.length
        · have hk9 : Nat.min (⟨rest.toArray⟩ : ByteArray).size 0 = 0 := Nat.min_zero _
          have hcp1 := run_copy_row_string_min (P := Tryf.prog) w1.drew 43 9 3 5 r 0 0 0 0 ⟨rest.toArray⟩ cur 5 Tryf.underlying43 hinfo H2.out.hr hk9 (by omega)
          have HF := hid (H2.out.fill (x := []) (by simp; omega))
          have e1 : (cur.toList.take 0 ++ Lib.byteCells ((⟨rest.toArray⟩ : ByteArray).data.toList.take 0) ++ cur.toList.drop (0 + 0)).toArray = cur := by simp [Lib.byteCells]
          have e3 : (cur.toList.take B.length ++ Lib.byteCells [] ++ cur.toList.drop (B.length + ([] : List UInt8).length)).toArray = cur := by simp [Lib.byteCells]
          rw [e1] at hcp1
          rw [e3, List.append_nil, List.length_nil, Nat.add_zero] at HF
          have HF2 := hid (HF.out.below (w' := (w1.drew.setRow r cur).setCell ⟨q, 2, none⟩ (.int .i64 (B.length : Nat))) ⟨rfl, rfl, rfl, Nat.le_refl _, fun _ _ => rfl⟩)
          have HKB := hid (show K62 w1 ((w1.drew.setRow r cur).setCell ⟨q, 2, none⟩ (.int .i64 (B.length : Nat))) from H2.out.k62 ((((Kept.refl _ w1).drewN 1).setRow r cur (Or.inl (Or.inr (Or.inl rfl)))).setCell ⟨q, 2, none⟩ (Or.inl rfl) _))
          have hq2 : (w1.drew.setRow r cur).heap[q]? = _ := (setRow_other w1 r q cur H2.out.qr).trans H2.out.hq
          have hB9 : (B.length : Int) ≤ 4096 := by omega
          clear HF e1 e3
          go_wp2_with fail
          go_region
          obtain ⟨w9, hw9⟩ : ∃ w9, w1.drew.setRow r cur = w9 := ⟨_, rfl⟩
          rw [hw9] at hq2 HF2 HKB ⊢
          clear hw9 d0 d1 d2 hcp1
          have e2 : w9.cell? ⟨q, 2, none⟩ = some (.int .i64 (B.length : Nat)) := by rw [Lib.cell_of_heap hq2]; rfl
          have g2 : w9.frozen? ⟨q, 2, none⟩ = false := Lib.frozen_of_heap hq2 2
          clear hq2
          go_wp2_with fail
          have hTl : A.length + B.length = T.length + done.length := by
            have := congrArg List.length HTD.out
            rw [List.length_append, List.length_append] at this
            omega
          refine (flush_c w0 q r b A B v cur _ HF2.out (by omega)).mono ?_
          rintro e w5 ⟨rfl, v5, hst5, hfr5⟩
          have HK5 := hid (HKA.out.trans (HKB.out.trans (K62.flushed HF2.out hfr5)))
          have H5 := hid hst5
          clear hst5 HF2 H2 e2 g2 hfr5
          go_wp2_with fail
          go_roundg 1
          case measure => omega
          case rel =>
            refine ⟨done, rest, A ++ B, [], v5, cur, HS.out, ?_, ?_, rfl, ?_, H5.out, HK5.out, Or.inr (Or.inl ⟨rfl, rfl, rfl⟩)⟩
            · first | rfl | (have h := ext_drop ⟨rest.toArray⟩ 0; rw [Lib.size_eq] at h; exact congrArg Value.string h)
            · first | rfl | go_num
            · rw [List.append_nil]; exact HTD.out
        · have hk9 : Nat.min (⟨rest.toArray⟩ : ByteArray).size (4096 - B.length) = 4096 - B.length := by rw [Lib.size_eq]; exact Nat.min_eq_right (by simp only; omega)
          have hcp1 := run_copy_row_string_min (P := Tryf.prog) w1.drew 43 9 3 5 r B.length (4096 - B.length) (4096 - B.length) (4096 - B.length) ⟨rest.toArray⟩ cur 5 Tryf.underlying43 hinfo H2.out.hr hk9 (by rw [H2.out.size]; omega)
          have hxl : (rest.take (4096 - B.length)).length = 4096 - B.length := by rw [List.length_take]; omega
          have HF := hid (H2.out.fill (x := rest.take (4096 - B.length)) (by rw [hxl]; omega))
          have hB9 : (B.length : Int) ≤ 4096 := by omega
          simp only [List.toList_toArray] at hcp1
          rw [hxl] at HF
          obtain ⟨R, hR⟩ : ∃ R, (cur.toList.take B.length ++ Lib.byteCells (rest.take (4096 - B.length)) ++ cur.toList.drop (B.length + (4096 - B.length))).toArray = R := ⟨_, rfl⟩
          rw [hR] at hcp1 HF
          have HF2 := hid (HF.out.below (w' := (w1.drew.setRow r R).setCell ⟨q, 2, none⟩ (.int .i64 ((B.length + (4096 - B.length) : Nat) : Int))) ⟨rfl, rfl, rfl, Nat.le_refl _, fun _ _ => rfl⟩)
          have HKB := hid (show K62 w1 ((w1.drew.setRow r R).setCell ⟨q, 2, none⟩ (.int .i64 ((B.length : Int) + ((4096 - B.length : Nat) : Int)))) from H2.out.k62 ((((Kept.refl _ w1).drewN 1).setRow r R (Or.inl (Or.inr (Or.inl rfl)))).setCell ⟨q, 2, none⟩ (Or.inl rfl) _))
          have hq2 : (w1.drew.setRow r R).heap[q]? = _ := (setRow_other w1 r q R H2.out.qr).trans H2.out.hq
          clear hR HF
          go_wp2_with fail
          go_region
          obtain ⟨w9, hw9⟩ : ∃ w9, w1.drew.setRow r R = w9 := ⟨_, rfl⟩
          rw [hw9] at hq2 HF2 HKB ⊢
          clear hw9 d0 d1 d2 hcp1
          have e2 : w9.cell? ⟨q, 2, none⟩ = some (.int .i64 (B.length : Nat)) := by rw [Lib.cell_of_heap hq2]; rfl
          have g2 : w9.frozen? ⟨q, 2, none⟩ = false := Lib.frozen_of_heap hq2 2
          clear hq2
          go_wp2_with fail
          have HF3 := hid (show WSt w0 q r b A (B ++ rest.take (4096 - B.length)) v R (w9.setCell ⟨q, 2, none⟩ (.int .i64 ((B.length : Int) + ((4096 - B.length : Nat) : Int)))) by
            have := HF2.out
            rwa [Int.natCast_add] at this)
          clear HF2 e2 g2
          have hTl : A.length + B.length = T.length + done.length := by
            have := congrArg List.length HTD.out
            rw [List.length_append, List.length_append] at this
            omega
          refine (flush_c w0 q r b A (B ++ rest.take (4096 - B.length)) v R _ HF3.out (by rw [List.length_append, hxl]; omega)).mono ?_
          rintro e w5 ⟨rfl, v5, hst5, hfr5⟩
          have HK5 := hid (HKA.out.trans (HKB.out.trans (K62.flushed HF3.out hfr5)))
          have H5 := hid hst5
          clear hst5 HF3 H2 hfr5
          go_wp2_with fail
          go_roundg 1
          case measure => omega
          case rel =>
            refine ⟨done ++ rest.take (4096 - B.length), rest.drop (4096 - B.length), A ++ (B ++ rest.take (4096 - B.length)), [], v5, R, ?_, ?_, ?_, rfl, ?_, H5.out, HK5.out, Or.inr (Or.inl ⟨rfl, rfl, rfl⟩)⟩
            · rw [List.append_assoc, List.take_append_drop]; exact HS.out
            · have h := ext_drop ⟨rest.toArray⟩ (4096 - B.length)
              rw [Lib.size_eq] at h
              exact congrArg Value.string h
            · rw [List.length_append, hxl]; go_num
            · rw [← List.append_assoc, HTD.out, List.append_nil, List.append_assoc]
      | true =>
        obtain rfl : B = [] := List.eq_nil_of_length_eq_zero (by have := beq_iff_eq.1 hB0; omega)
        have hgk : 0 < gk ∧ u6 = .nilIface := by
          rcases hg with h | ⟨h1, _, h2⟩ | h
          · exact ⟨by omega, h.2⟩
          · exact ⟨by omega, h2⟩
          · exact absurd h hrne
        obtain ⟨hgk, rfl⟩ := hgk
        go_wp2_with fail
        refine cA.mono ?_
        rintro e w1 ⟨rfl, k, rfl⟩
        have H2 := hid (H1.out.kept ((Kept.refl (fun _ => False) wr).drewN k) id id id (fun _ _ => id) (fun _ e => e.elim))
        have HKA := hid (show K62 w (wr.drewN k) from fun d cs e => HKR.out d cs e)
        obtain ⟨w1, hw1⟩ : ∃ w1, wr.drewN k = w1 := ⟨_, rfl⟩
        rw [hw1] at H2 HKA ⊢
        clear hw1 cA H1
        have d0 : w1.cell? ⟨q, 0, none⟩ = some .nilIface := by rw [Lib.cell_of_heap H2.out.hq]; rfl
        have d3 : w1.cell? ⟨q, 3, none⟩ = some (.iface 26 (.pointer (some ⟨b, 0, none⟩))) := by rw [Lib.cell_of_heap H2.out.hq]; rfl
        have cBf := buffered_c q 0 _ _ _ w1 H2.out.hq
        have hta := assert_sw (.pointer (some ⟨b, 0, none⟩))
        have hm := method_writeString ⟨b, 0, none⟩
        have hna := nil_writeString ⟨b, 0, none⟩
        go_wp2_with (first
          | (go_at_call 48; refine cBf.mono ?_; rintro e w2 ⟨rfl, hw2⟩; rw [hw2])
          | fail)
        have hrl : 4096 < rest.length := by simp at hfit; omega
        have hTl : A.length = T.length + done.length := by
          have := congrArg List.length HTD.out
          rw [List.length_append, List.append_nil] at this
          omega
        refine (bwriteString_c b v A rest _ H2.out.snk (by omega) (by omega)).mono ?_
        rintro e w5 ⟨rfl, v5, hs5, hl5, hk5⟩
        have HN := hid (H2.out.sunk hs5 hl5 hk5)
        have hk5' : Kept (fun k => k = q ∨ k = r ∨ k = b ∨ v.ownBlock = some k) w1 (w5.setCell ⟨q, 0, none⟩ .nilIface) := (hk5.mono (fun k _ e => by rcases e with e | e; exact Or.inr (Or.inr (Or.inl e)); exact Or.inr (Or.inr (Or.inr e)))).setCell ⟨q, 0, none⟩ (Or.inl rfl) _
        have HK5 := hid (HKA.out.trans (H2.out.k62 hk5'))
        have hq5 := hk5.heap H2.out.hq (fun e => by rcases e with e | e; exact H2.out.qb e; exact H2.out.vq e)
        have e0 : w5.cell? ⟨q, 0, none⟩ = some .nilIface := by rw [Lib.cell_of_heap hq5]; rfl
        have g0 : w5.frozen? ⟨q, 0, none⟩ = false := Lib.frozen_of_heap hq5 0
        clear hs5 hl5 hk5 hk5' hq5 H2 d0 d3 cBf hm hna hta
        go_wp2_with fail
        go_roundg 0
        case measure => exact hgk
        case rel =>
          refine ⟨done ++ rest, [], A ++ rest, [], v5, cur, by rw [List.append_nil]; exact HS.out, ?_, ?_, rfl, ?_, HN.out, HK5.out, Or.inr (Or.inr rfl)⟩
          · have h := ext_drop ⟨rest.toArray⟩ rest.length
            rw [Lib.size_eq] at h
            simp only [List.toList_toArray, List.drop_length] at h
            first | exact congrArg Value.string h | (simp; rfl)
          · rw [List.length_append]; go_num
          · rw [List.append_nil, ← List.append_assoc, HTD.out, List.append_nil]
end Go.Proofs.Qxb6613956aFmt
