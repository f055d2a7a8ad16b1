/-
  bufio.Reader: ReadSlice (44).
-/
import Derived.Test.Qxb6613956aFmtCs
import Derived.Test.Qxb6613956aFmtPl2
namespace Go.Proofs.Qxb6613956aFmt
open Go.RowKit Go.Shelf
set_option linter.unusedSimpArgs false

/-- The reader's error slot turned. -/
theorem RSt.cut {w0 w w' : World} {k row s : Nat} {S B : List UInt8} {i r e : Nat} {cur : Array Value} {er er' : Value} (h : RSt w0 k row s S B i r e cur er w) (n : Nat) (hn : n ≤ B.length) (hk : Kept (· = k) w w')
    (hkk : ∃ lb ls, w'.heap[k]? = some (.cells #[.slice (some ⟨row, 0, none⟩) 4096 4096, .iface 58 (.pointer (some ⟨s, 0, none⟩)), .int .i64 ((r + n : Nat) : Int), .int .i64 (e : Nat), er', lb, ls] 110 (0, 0))) :
    RSt w0 k row s S (B.drop n) i (r + n) e cur er' w' := by
  obtain ⟨pr, e2⟩ := h.hs
  have he := h.he
  refine ⟨hkk, hk.heap h.hrow (Ne.symm h.kr), ⟨pr, hk.heap e2 (Ne.symm h.ks)⟩, h.size, by rw [List.length_drop]; omega, h.room, ?_, h.hi, h.hS, h.lk, h.lrow, h.ls, h.bel.trans (hk.to_below (fun b e => e ▸ h.lk) h.bel.size)⟩
  have hb := h.buf
  have e3 : Lib.byteCells (B.drop n) = (Lib.byteCells B).drop n := by unfold Lib.byteCells; rw [List.map_drop]
  rw [e3, ← hb, List.drop_take, List.drop_drop, List.length_drop]

theorem cells_nums (l : List UInt8) (j : Nat) (hj : j < l.length) : (Lib.byteCells l)[j]? = some (.int .u8 ((nums l).getD j 0)) := by
  simp [Lib.byteCells, nums, List.getD, hj]
/-- bytes.IndexByte. -/
theorem ib_c (a : Addr) (c n : Nat) (l : List UInt8) (cv : Int) (x : UInt8) (w : World) (hn : l.length = n) (hx : cv.toNat.toUInt8 = x) (hc : ∀ j u, (Lib.byteCells l)[j]? = some u → w.cell? (a.add j) = some u) :
    Calls Tryf.prog 53 #[.slice (some a) n c, .int .u8 cv] w fun e w' => e = .returned (.int .i64 (Lib.indexByte l x)) ∧ w' = w := by
  have h := Any.bytes_IndexByte_at Tryf.lays187 a n c (nums l) cv w (by rw [nums_length, hn]) (fun j hj => hc j _ (cells_nums l j (by omega)))
  rw [bytesOf_nums, hx] at h
  exact h

set_option maxHeartbeats 3200000 in
set_option maxRecDepth 100000 in
theorem readSlice_c (w0 : World) (k row s : Nat) (R : List UInt8) (te : TypeId) (ae : Addr) (E2 : Value) (w : World) (h : RInv w0 k row s R w) (h10 : (10 : UInt8) ∈ R) (h0 : w.cell? ⟨0, 0, none⟩ = some (.iface te (.pointer (some ae)))) (h2 : w.cell? ⟨2, 0, none⟩ = some E2) (l0 : 2 < w0.heap.size) :
    Calls Tryf.prog 44 #[.pointer (some ⟨k, 0, none⟩), .int .u8 10] w fun e w' => ∃ v,
      ((ln R).length ≤ 4096 → e = .returned (.tuple #[v, .nilIface]) ∧ LineAt row v (ln R) w' ∧ RInv w0 k row s (rs R) w') ∧
      (4096 < (ln R).length → e = .returned (.tuple #[v, E2]) ∧ LineAt row v (R.take 4096) w' ∧ RInv w0 k row s (R.drop 4096) w') ∧ Kept (fun b => b = k ∨ b = row ∨ b = s) w w' := by
  obtain ⟨S0, B0, i0, r0, e0, cur0, hR0, hst0⟩ := h
  have H := hid hst0
  have HR := hid hR0
  have H0 := hid h0
  have H2 := hid h2
  clear hst0 hR0 h0 h2
  go_enter Tryf.func44, Tryf.ntmps44
  go_wp2_with fail
  go_loopg [4, 5, 6] (S0.length - i0) (fun gk s4 s5 s6 wx => ∃ (B : List UInt8) (i r e sc : Nat) (cur : Array Value), s4 = .slice none 0 0 ∧ s5 = .nilIface ∧ s6 = .int .i64 (sc : Nat) ∧ sc ≤ B.length ∧ (10 : UInt8) ∉ B.take sc ∧ R = B ++ S0.drop i ∧ gk = S0.length - i ∧ RSt w0 k row s S0 B i r e cur .nilIface wx ∧ Kept (fun b => b = k ∨ b = row ∨ b = s) w wx)
  case atStart => exact ⟨B0, i0, r0, e0, 0, cur0, rfl, rfl, rfl, Nat.zero_le _, by simp, HR.out, rfl, H.out, Kept.refl _ _⟩
  case round =>
    obtain ⟨B, i, r, e, sc, cur, rfl, rfl, rfl, hsc, hno, hR, hgk, hst, hkk⟩ := hrel
    have H1 := hid hst
    have HK1 := hid hkk
    have HRR := hid hR
    have HN := hid hno
    have HG := hid hgk
    have he := hst.he
    have hroom := hst.room
    clear hst hkk hR hno hgk
    obtain ⟨lb, ls, hk⟩ := H1.out.hk
    have c0 : wr.cell? ⟨k, 0, none⟩ = some (.slice (some ⟨row, 0, none⟩) 4096 4096) := by rw [Lib.cell_of_heap hk]; rfl
    have c2 : wr.cell? ⟨k, 2, none⟩ = some (.int .i64 (r : Nat)) := by rw [Lib.cell_of_heap hk]; rfl
    have c3 : wr.cell? ⟨k, 3, none⟩ = some (.int .i64 (e : Nat)) := by rw [Lib.cell_of_heap hk]; rfl
    have c4 : wr.cell? ⟨k, 4, none⟩ = some .nilIface := by rw [Lib.cell_of_heap hk]; rfl
    have HKH := hid hk
    have HE := hid he
    have hre : ((r : Int) + (sc : Int)) ≤ (e : Int) := by omega
    have hre2 : ((r : Int) + (sc : Int)) ≤ 4096 := by omega
    obtain ⟨lo, hlo⟩ : ∃ lo, r + sc = lo := ⟨_, rfl⟩
    have hwr : IntKind.i64.wrap ((r : Int) + (sc : Int)) = (lo : Int) := by rw [wrap_id _ (by omega) (by omega)]; omega
    have hlo1 : lo ≤ e := by omega
    have hlo2 : (lo : Int) ≤ (e : Int) := by omega
    have hlo3 : (e : Int) ≤ 4096 := by omega
    obtain ⟨A, hA⟩ : ∃ A : Addr, A = if 4096 = lo then ⟨row, 0, none⟩ else ⟨row, lo, none⟩ := ⟨_, rfl⟩
    have hA2 : (if 4096 = lo then some (⟨row, 0, none⟩ : Addr) else some ⟨row, lo, none⟩) = some A := by rw [hA]; split <;> rfl
    have cIB : ∀ n, Calls Tryf.prog 53 #[.slice (some A) (e - lo) (4096 - lo), .int .u8 10] (wr.drewN n) fun e w' => e = .returned (.int .i64 (Lib.indexByte (B.drop sc) 10)) ∧ w' = wr.drewN n := fun n =>
      ib_c A (4096 - lo) (e - lo) (B.drop sc) 10 10 (wr.drewN n) (by rw [List.length_drop]; omega) rfl (fun j u hj => by
        have hjl : j < (B.drop sc).length := by have := (List.getElem?_eq_some_iff.1 hj).1; rwa [Lib.byteCells_length] at this
        rw [List.length_drop] at hjl
        rw [hA, if_neg (by omega), WideShapes.add_plain]
        have := H1.out.cells (sc + j) u (cells_drop B sc j u hj)
        rw [← hlo, Nat.add_assoc]
        exact this)
    have HLO := hid hlo
    clear hk he hre hre2 hA hlo
    go_upto_region 2 with fail
    by_cases hin : (10 : UInt8) ∈ B
    · obtain ⟨p, t, hpt, hp⟩ : ∃ p t, B.drop sc = p ++ 10 :: t ∧ (10 : UInt8) ∉ p := by
        apply cut_at
        have h9 : (10 : UInt8) ∈ B.take sc ++ B.drop sc := by rw [List.take_append_drop]; exact hin
        rw [List.mem_append] at h9
        exact h9.resolve_left HN.out
      have hix : Lib.indexByte (B.drop sc) 10 = ((p.length : Nat) : Int) := by rw [hpt]; exact ib_at p t hp
      have hpl : sc + p.length + 1 ≤ B.length := by
        have := congrArg List.length hpt
        simp at this
        omega
      rw [hix] at cIB
      have HPT := hid (And.intro hpt hp)
      clear hix hpt hp
      have hb1 : (p.length : Int) + (sc : Int) + 1 ≤ 4096 := by have := HE.out; omega
      go_quiet (first
        | (go_at_call 53; exact Calls.quiet_of_same (cIB _)))
      clear cIB
      go_wp2_with fail
      obtain ⟨ix, hix2⟩ : ∃ ix : Nat, (p.length : Int) + (sc : Int) = (ix : Int) := ⟨p.length + sc, by omega⟩
      rw [hix2]
      have hixe : r + ix + 1 ≤ e := by have := HE.out; omega
      have HIX := hid hix2
      clear hix2 hwr hlo1 hlo2 hA2 hb1
      obtain ⟨hi, hhi⟩ : ∃ hi, r + ix + 1 = hi := ⟨_, rfl⟩
      have hw1 : IntKind.i64.wrap ((r : Int) + (ix : Int)) = (r : Int) + (ix : Int) := wrap_id _ (by omega) (by omega)
      have hw2 : IntKind.i64.wrap ((r : Int) + (ix : Int) + 1) = (hi : Int) := by rw [wrap_id _ (by omega) (by omega)]; omega
      have hnr : ¬ 4096 = r := by omega
      have hhr : hi - r = ix + 1 := by omega
      have hh1 : (r : Int) ≤ (hi : Int) := by omega
      have hh2 : (hi : Int) ≤ 4096 := by omega
      have hh3 : (r : Int) + ((ix : Int) + 1) ≤ 4096 := by omega
      have H3 := hid (H1.out.below (w' := wr.drewN nq) ⟨rfl, rfl, rfl, Nat.le_refl _, fun _ _ => rfl⟩)
      have HKH3 := hid (show (wr.drewN nq).heap[k]? = _ from HKH.out)
      have HK3 := hid (HK1.out.drewN nq)
      have HHI := hid hhi
      clear hhi
      obtain ⟨w2, hw2'⟩ : ∃ w2, wr.drewN nq = w2 := ⟨_, rfl⟩
      rw [hw2'] at H3 HKH3 HK3 ⊢
      clear hw2' c0 c2 c3 c4
      have c0 : w2.cell? ⟨k, 0, none⟩ = some (.slice (some ⟨row, 0, none⟩) 4096 4096) := by rw [Lib.cell_of_heap HKH3.out]; rfl
      have c2 : w2.cell? ⟨k, 2, none⟩ = some (.int .i64 (r : Nat)) := by rw [Lib.cell_of_heap HKH3.out]; rfl
      go_quiet (fail)
      have H4 := hid (H3.out.below (w' := w2.drewN nq) ⟨rfl, rfl, rfl, Nat.le_refl _, fun _ _ => rfl⟩)
      have HKH4 := hid (show (w2.drewN nq).heap[k]? = _ from HKH3.out)
      have HK4 := hid (HK3.out.drewN nq)
      obtain ⟨w3, hw3'⟩ : ∃ w3, w2.drewN nq = w3 := ⟨_, rfl⟩
      rw [hw3'] at H4 HKH4 HK4 ⊢
      clear hw3' c0 c2 H3 HKH3 HK3 hw1 hw2
      obtain ⟨l, hBl, hl10, hll⟩ : ∃ l, B = l ++ 10 :: t ∧ (10 : UInt8) ∉ l ∧ l.length = ix := by
        refine ⟨B.take sc ++ p, ?_, ?_, ?_⟩
        · rw [List.append_assoc, ← HPT.out.1, List.take_append_drop]
        · rw [List.mem_append, not_or]; exact ⟨HN.out, HPT.out.2⟩
        · rw [List.length_append, List.length_take]; have := HIX.out; omega
      have hc10 : w3.cell? ⟨row, r + ix, none⟩ = some (.int .u8 10) := H4.out.cells ix _ (by rw [hBl, ← hll]; simp [Lib.byteCells])
      have hkr := H4.out.kr
      have c10 : ∀ v, (w3.setCell ⟨k, 2, none⟩ v).cell? ⟨row, r + ix, none⟩ = some (.int .u8 10) := fun v => (World.cell?_of_block (a := ⟨row, r + ix, none⟩) (heap_set_other (Ne.symm hkr) v)).trans hc10
      have c2 : w3.cell? ⟨k, 2, none⟩ = some (.int .i64 (r : Nat)) := by rw [Lib.cell_of_heap HKH4.out]; rfl
      have c5 : w3.cell? ⟨k, 5, none⟩ = some lb := by rw [Lib.cell_of_heap HKH4.out]; rfl
      have c6 : w3.cell? ⟨k, 6, none⟩ = some ls := by rw [Lib.cell_of_heap HKH4.out]; rfl
      have f2 : w3.frozen? ⟨k, 2, none⟩ = false := Lib.frozen_of_heap HKH4.out 2
      have f5 : w3.frozen? ⟨k, 5, none⟩ = false := Lib.frozen_of_heap HKH4.out 5
      have f6 : w3.frozen? ⟨k, 6, none⟩ = false := Lib.frozen_of_heap HKH4.out 6
      have HBL := hid (And.intro hBl (And.intro hl10 hll))
      clear hBl hl10 hll hc10
      have hix9 : (ix : Int) ≤ 4096 := by omega
      go_wp2_with fail
      go_ret2
      obtain ⟨hBl, hl10, hll⟩ := HBL.out
      have hR9 : R = l ++ 10 :: (t ++ S0.drop i) := by rw [HRR.out, hBl, List.append_assoc, List.cons_append]
      have hln : ln R = l ++ [10] := by rw [hR9, ln_append hl10]; simp [ln]
      have hrs : rs R = t ++ S0.drop i := by rw [hR9, rs_append hl10]; simp [rs]
      have hkW : Kept (· = k) w3 (((w3.setCell ⟨k, 2, none⟩ (.int .i64 ((r : Int) + ((ix : Int) + 1)))).setCell ⟨k, 5, none⟩ (.int .i64 10)).setCell ⟨k, 6, none⟩ (.int .i64 (-1))) :=
        Kept.setCell (S := (· = k)) (Kept.setCell (S := (· = k)) (Kept.setCell (S := (· = k)) (Kept.refl _ _) ⟨k, 2, none⟩ rfl _) ⟨k, 5, none⟩ rfl _) ⟨k, 6, none⟩ rfl _
      have hcut := H4.out.cut (er' := .nilIface) (ix + 1) (by rw [hBl]; simp; omega) hkW ⟨.int .i64 10, .int .i64 (-1), by
        rw [heap_set (heap_set (heap_set HKH4.out _) _)]
        have e9 : (r : Int) + ((ix : Int) + 1) = ((r + (ix + 1) : Nat) : Int) := by omega
        rw [e9]
        simp⟩
      have hBd : B.drop (ix + 1) = t := by rw [hBl, ← hll]; simp
      rw [hBd] at hcut
      refine ⟨.slice (some ⟨row, r, none⟩) (ix + 1) (4096 - r), fun _ => ⟨rfl, ⟨r, 4096 - r, by rw [hln]; simp [hll], by rw [hln]; simp [hll]; omega, ?_, fun j u hj => ?_⟩, ?_⟩, fun h => ?_, HK4.out.trans (hkW.mono (fun b _ e => Or.inl e))⟩
      · have : (4096 : Nat) ≤ maxLen := by decide
        omega
      · rw [hln] at hj
        have hj2 : (Lib.byteCells B)[j]? = some u := by
          rw [hBl]
          have e9 : l ++ 10 :: t = (l ++ [10]) ++ t := by simp
          rw [e9, Lib.byteCells_append, List.getElem?_append_left (List.getElem?_eq_some_iff.1 hj).1]
          exact hj
        exact hkW.cell (H4.out.cells j u hj2) (Ne.symm hkr)
      · rw [hrs]
        exact ⟨S0, t, i, r + (ix + 1), e, cur, rfl, hcut⟩
      · rw [hln] at h; simp [hll] at h; omega
    · have hix : Lib.indexByte (B.drop sc) 10 = -1 := ib_not (fun h9 => hin (List.mem_of_mem_drop h9))
      rw [hix] at cIB
      clear hix
      have hSn : (10 : UInt8) ∈ S0.drop i := by
        have h9 := h10
        rw [HRR.out, List.mem_append] at h9
        exact h9.resolve_left hin
      have hiS : i < S0.length := by
        rcases Nat.lt_or_ge i S0.length with h9 | h9
        · exact h9
        · rw [List.drop_eq_nil_of_le h9] at hSn; simp at hSn
      go_quiet (first
        | (go_at_call 53; exact Calls.quiet_of_same (cIB _)))
      clear cIB
      go_wp2_with fail
      have H3 := hid (H1.out.below (w' := wr.drewN nq) ⟨rfl, rfl, rfl, Nat.le_refl _, fun _ _ => rfl⟩)
      have HKH3 := hid (show (wr.drewN nq).heap[k]? = _ from HKH.out)
      have HK3 := hid (HK1.out.drewN nq)
      obtain ⟨w2, hw2'⟩ : ∃ w2, wr.drewN nq = w2 := ⟨_, rfl⟩
      rw [hw2'] at H3 HKH3 HK3 ⊢
      clear hw2' c0 c2 c3 c4 hwr hlo1 hlo2 hA2
      have c0 : w2.cell? ⟨k, 0, none⟩ = some (.slice (some ⟨row, 0, none⟩) 4096 4096) := by rw [Lib.cell_of_heap HKH3.out]; rfl
      have hre : r ≤ e := by have := HE.out; omega
      have cBf : ∀ n, Calls Tryf.prog 58 #[.pointer (some ⟨k, 0, none⟩)] (w2.drewN n) fun en w' => en = .returned (.int .i64 ((e - r : Nat) : Int)) ∧ ∃ m, w' = (w2.drewN n).drewN m := fun n => rbuffered_c k r e _ _ _ _ _ (w2.drewN n) hre hroom HKH3.out
      go_quiet (first
        | (go_at_call 58; exact Calls.quiet_of (cBf _)))
      clear cBf c0
      have H4 := hid (H3.out.below (w' := w2.drewN nq) ⟨rfl, rfl, rfl, Nat.le_refl _, fun _ _ => rfl⟩)
      have HKH4 := hid (show (w2.drewN nq).heap[k]? = _ from HKH3.out)
      have HK4 := hid (HK3.out.drewN nq)
      obtain ⟨w3, hw3'⟩ : ∃ w3, w2.drewN nq = w3 := ⟨_, rfl⟩
      rw [hw3'] at H4 HKH4 HK4 ⊢
      clear hw3' H3 HKH3 HK3
      by_cases hfull : e - r = 4096
      · obtain rfl : r = 0 := by omega
        obtain rfl : e = 4096 := by omega
        have hBl : B.length = 4096 := by have := HE.out; omega
        obtain ⟨x, hx⟩ : ∃ x, B[4095]? = some x := ⟨_, List.getElem?_eq_getElem (by omega)⟩
        have hc10 : w3.cell? ⟨row, 4095, none⟩ = some (.int .u8 (x.toNat : Int)) := by
          have h9 := H4.out.cells 4095 (.int .u8 (x.toNat : Int)) (by simp [Lib.byteCells, hx])
          simpa using h9
        have hkr := H4.out.kr
        have c10 : ∀ v, (w3.setCell ⟨k, 2, none⟩ v).cell? ⟨row, 4095, none⟩ = some (.int .u8 (x.toNat : Int)) := fun v => (World.cell?_of_block (a := ⟨row, 4095, none⟩) (heap_set_other (Ne.symm hkr) v)).trans hc10
        have c0 : w3.cell? ⟨k, 0, none⟩ = some (.slice (some ⟨row, 0, none⟩) 4096 4096) := by rw [Lib.cell_of_heap HKH4.out]; rfl
        have c2 : w3.cell? ⟨k, 2, none⟩ = some (.int .i64 (0 : Nat)) := by rw [Lib.cell_of_heap HKH4.out]; rfl
        have c3 : w3.cell? ⟨k, 3, none⟩ = some (.int .i64 (4096 : Nat)) := by rw [Lib.cell_of_heap HKH4.out]; rfl
        have c5 : w3.cell? ⟨k, 5, none⟩ = some lb := by rw [Lib.cell_of_heap HKH4.out]; rfl
        have c6 : w3.cell? ⟨k, 6, none⟩ = some ls := by rw [Lib.cell_of_heap HKH4.out]; rfl
        have f2 : w3.frozen? ⟨k, 2, none⟩ = false := Lib.frozen_of_heap HKH4.out 2
        have f5 : w3.frozen? ⟨k, 5, none⟩ = false := Lib.frozen_of_heap HKH4.out 5
        have f6 : w3.frozen? ⟨k, 6, none⟩ = false := Lib.frozen_of_heap HKH4.out 6
        have hg2 : w3.cell? ⟨2, 0, none⟩ = some E2 := HK4.out.cell H2.out (fun e => by have h1 := H4.out.lk; have h2 := H4.out.lrow; have h3 := H4.out.ls; rcases e with e | e | e <;> simp only at e <;> omega)
        have c2g : ∀ v, (w3.setCell ⟨k, 2, none⟩ v).cell? ⟨2, 0, none⟩ = some E2 := fun v => (World.cell?_of_block (a := ⟨2, 0, none⟩) (heap_set_other (fun e => by have h1 := H4.out.lk; simp only at e; omega) v)).trans hg2
        clear hc10 hg2 hfull
        have HBL := hid hBl
        have hxl := x.toNat_lt
        have hx1 : (x.toNat : Int) < 256 := by omega
        clear hBl
        go_wp2_with fail
        go_ret2
        have hBl := HBL.out
        have hln : ln R = B ++ ln (S0.drop i) := by rw [HRR.out, ln_append hin]
        have hlnl : 4096 < (ln R).length := by
          obtain ⟨l9, h9, _, _⟩ := ln_split hSn
          rw [hln, h9]
          simp [hBl]
        have hRt : R.take 4096 = B := by rw [HRR.out, ← hBl]; simp
        have hRd : R.drop 4096 = S0.drop i := by rw [HRR.out, ← hBl]; simp
        have hkW : Kept (· = k) w3 (((w3.setCell ⟨k, 2, none⟩ (.int .i64 4096)).setCell ⟨k, 5, none⟩ (.int .i64 (x.toNat : Int))).setCell ⟨k, 6, none⟩ (.int .i64 (-1))) :=
          Kept.setCell (S := (· = k)) (Kept.setCell (S := (· = k)) (Kept.setCell (S := (· = k)) (Kept.refl _ _) ⟨k, 2, none⟩ rfl _) ⟨k, 5, none⟩ rfl _) ⟨k, 6, none⟩ rfl _
        have hcut := H4.out.cut (er' := .nilIface) 4096 (by omega) hkW ⟨.int .i64 (x.toNat : Int), .int .i64 (-1), by
          rw [heap_set (heap_set (heap_set HKH4.out _) _)]
          simp⟩
        have hBd : B.drop 4096 = [] := List.drop_eq_nil_of_le (by omega)
        rw [hBd] at hcut
        refine ⟨.slice (some ⟨row, 0, none⟩) 4096 4096, fun h => by omega, fun _ => ⟨rfl, ⟨0, 4096, by rw [hRt, hBl], by rw [hRt]; omega, by decide, fun j u hj => ?_⟩, ?_⟩, HK4.out.trans (hkW.mono (fun b _ e => Or.inl e))⟩
        · rw [hRt] at hj
          exact hkW.cell (H4.out.cells j u hj) (Ne.symm hkr)
        · rw [hRd]
          exact ⟨S0, [], i, 0 + 4096, 4096, cur, rfl, hcut⟩
      · have c0 : w3.cell? ⟨k, 0, none⟩ = some (.slice (some ⟨row, 0, none⟩) 4096 4096) := by rw [Lib.cell_of_heap HKH4.out]; rfl
        have c2 : w3.cell? ⟨k, 2, none⟩ = some (.int .i64 (r : Nat)) := by rw [Lib.cell_of_heap HKH4.out]; rfl
        have c3 : w3.cell? ⟨k, 3, none⟩ = some (.int .i64 (e : Nat)) := by rw [Lib.cell_of_heap HKH4.out]; rfl
        have hb : ((e - r : Nat) : Int) < 4096 := by omega
        have hb2 : ¬ (4096 ≤ e - r) := by omega
        have hwr : IntKind.i64.wrap ((e : Int) - (r : Int)) = (e : Int) - (r : Int) := wrap_id _ (by omega) (by omega)
        go_wp2_with fail
        go_quiet (fail)
        go_wp2_with fail
        have H5 := hid (H4.out.below (w' := w3.drewN nq) ⟨rfl, rfl, rfl, Nat.le_refl _, fun _ _ => rfl⟩)
        have HK5 := hid (HK4.out.drewN nq)
        obtain ⟨w5, hw5⟩ : ∃ w5, w3.drewN nq = w5 := ⟨_, rfl⟩
        rw [hw5] at H5 HK5 ⊢
        clear hw5 H4 HKH4 HK4 c0 c2 c3
        have hg0 : w5.cell? ⟨0, 0, none⟩ = some (.iface te (.pointer (some ae))) := HK5.out.cell H0.out (fun e => by have h1 := H5.out.lk; have h2 := H5.out.lrow; have h3 := H5.out.ls; rcases e with e | e | e <;> simp only at e <;> omega)
        have hBe : e - r = B.length := by have := HE.out; omega
        obtain ⟨m, hm⟩ : ∃ m, Nat.min (S0.length - i) (4096 - B.length) = m := ⟨_, rfl⟩
        have hm0 : 0 < m := by rw [← hm]; exact Nat.lt_min.2 ⟨by omega, by omega⟩
        have hmS : m ≤ S0.length - i := hm ▸ Nat.min_le_left _ _
        refine (fill_c w0 k row s S0 B i r e m te ae .nilIface cur w5 H5.out (by omega) hm hg0 (by omega) (Or.inl ⟨hiS, rfl, hm0⟩)).mono ?_
        rintro en w6 ⟨rfl, ⟨cur6, hst6⟩, hk6⟩
        have H6 := hid hst6
        have HK6 := hid (HK5.out.trans hk6)
        clear hst6 hk6 H5 HK5 hg0
        have HBE := hid hBe
        clear hBe
        go_wp2_with fail
        go_roundg (S0.length - (i + m))
        case measure => rw [HG.out]; omega
        case rel =>
          refine ⟨B ++ (S0.drop i).take m, i + m, 0, B.length + m, B.length, cur6, rfl, rfl, ?_, ?_, ?_, ?_, rfl, H6.out, HK6.out⟩
          · have h9 := HBE.out
            have : ((e : Int) - (r : Int)) = ((B.length : Nat) : Int) := by omega
            rw [this]
          · rw [List.length_append]; omega
          · rw [List.take_left]; exact hin
          · rw [List.append_assoc, ← List.drop_drop, List.take_append_drop]; exact HRR.out

set_option maxHeartbeats 3200000 in
set_option maxRecDepth 100000 in
/-- ReadSlice, all read. -/
theorem readSlice_end (w0 : World) (k row s : Nat) (te : TypeId) (ae : Addr) (w : World) (h : RInv w0 k row s [] w) (h0 : w.cell? ⟨0, 0, none⟩ = some (.iface te (.pointer (some ae)))) (l0 : 2 < w0.heap.size) :
    Calls Tryf.prog 44 #[.pointer (some ⟨k, 0, none⟩), .int .u8 10] w fun e w' => ∃ a c, e = .returned (.tuple #[.slice (some a) 0 c, .iface te (.pointer (some ae))]) ∧ RInv w0 k row s [] w' ∧ Kept (fun b => b = k ∨ b = row ∨ b = s) w w' := by
  obtain ⟨S0, B0, i0, r0, e0, cur0, hR0, hst0⟩ := h
  obtain ⟨hB0, hD0⟩ := List.append_eq_nil_iff.1 hR0.symm
  subst hB0
  have hi0 : i0 = S0.length := by
    have h1 := hst0.hi
    have h2 := congrArg List.length hD0
    rw [List.length_drop, List.length_nil] at h2
    omega
  subst hi0
  have H := hid hst0
  have H0 := hid h0
  clear hst0 hR0 h0 hD0
  go_enter Tryf.func44, Tryf.ntmps44
  go_wp2_with fail
  go_loopg [4, 5, 6] 1 (fun gk s4 s5 s6 wx => ∃ (r : Nat) (cur : Array Value) (er : Value), s4 = .slice none 0 0 ∧ s5 = .nilIface ∧ s6 = .int .i64 0 ∧ ((gk = 1 ∧ er = .nilIface) ∨ (gk = 0 ∧ er = .iface te (.pointer (some ae)) ∧ r = 0)) ∧ RSt w0 k row s S0 [] S0.length r r cur er wx ∧ Kept (fun b => b = k ∨ b = row ∨ b = s) w wx)
  case atStart =>
    have h9 := H.out.he
    simp at h9
    subst h9
    exact ⟨_, cur0, .nilIface, rfl, rfl, rfl, Or.inl ⟨rfl, rfl⟩, H.out, Kept.refl _ _⟩
  case round =>
    obtain ⟨r, cur, er, rfl, rfl, rfl, hg, hst, hkk⟩ := hrel
    have H1 := hid hst
    have HK1 := hid hkk
    have hroom := hst.room
    clear hst hkk
    obtain ⟨lb, ls, hk⟩ := H1.out.hk
    have c0 : wr.cell? ⟨k, 0, none⟩ = some (.slice (some ⟨row, 0, none⟩) 4096 4096) := by rw [Lib.cell_of_heap hk]; rfl
    have c2 : wr.cell? ⟨k, 2, none⟩ = some (.int .i64 (r : Nat)) := by rw [Lib.cell_of_heap hk]; rfl
    have c3 : wr.cell? ⟨k, 3, none⟩ = some (.int .i64 (r : Nat)) := by rw [Lib.cell_of_heap hk]; rfl
    have c4 : wr.cell? ⟨k, 4, none⟩ = some er := by rw [Lib.cell_of_heap hk]; rfl
    have HKH := hid hk
    have hwr : IntKind.i64.wrap (r : Int) = (r : Int) := wrap_id _ (by omega) (by omega)
    have hr9 : (r : Int) ≤ 4096 := by omega
    obtain ⟨A, hA⟩ : ∃ A : Addr, A = if 4096 = r then ⟨row, 0, none⟩ else ⟨row, r, none⟩ := ⟨_, rfl⟩
    have hA2 : (if 4096 = r then some (⟨row, 0, none⟩ : Addr) else some ⟨row, r, none⟩) = some A := by rw [hA]; split <;> rfl
    have cIB : ∀ n, Calls Tryf.prog 53 #[.slice (some A) 0 (4096 - r), .int .u8 10] (wr.drewN n) fun e w' => e = .returned (.int .i64 (-1)) ∧ w' = wr.drewN n := fun n =>
      ib_c A (4096 - r) 0 [] 10 10 (wr.drewN n) rfl rfl (fun j u hj => by simp [Lib.byteCells] at hj)
    clear hk hA
    go_upto_region 2 with fail
    go_quiet (first
      | (go_at_call 53; exact Calls.quiet_of_same (cIB _)))
    clear cIB
    have H3 := hid (H1.out.below (w' := wr.drewN nq) ⟨rfl, rfl, rfl, Nat.le_refl _, fun _ _ => rfl⟩)
    have HKH3 := hid (show (wr.drewN nq).heap[k]? = _ from HKH.out)
    have HK3 := hid (HK1.out.drewN nq)
    obtain ⟨w2, hw2'⟩ : ∃ w2, wr.drewN nq = w2 := ⟨_, rfl⟩
    rw [hw2'] at H3 HKH3 HK3 ⊢
    clear hw2' c0 c2 c3 c4 H1 HKH HK1
    have c0 : w2.cell? ⟨k, 0, none⟩ = some (.slice (some ⟨row, 0, none⟩) 4096 4096) := by rw [Lib.cell_of_heap HKH3.out]; rfl
    have c2 : w2.cell? ⟨k, 2, none⟩ = some (.int .i64 (r : Nat)) := by rw [Lib.cell_of_heap HKH3.out]; rfl
    have c3 : w2.cell? ⟨k, 3, none⟩ = some (.int .i64 (r : Nat)) := by rw [Lib.cell_of_heap HKH3.out]; rfl
    rcases hg with ⟨rfl, rfl⟩ | ⟨rfl, rfl, rfl⟩
    · have c4 : w2.cell? ⟨k, 4, none⟩ = some .nilIface := by rw [Lib.cell_of_heap HKH3.out]; rfl
      go_wp2_with fail
      have cBf : ∀ n, Calls Tryf.prog 58 #[.pointer (some ⟨k, 0, none⟩)] (w2.drewN n) fun en w' => en = .returned (.int .i64 0) ∧ ∃ m, w' = (w2.drewN n).drewN m := fun n => by
        have h9 := rbuffered_c k r r _ _ _ _ _ (w2.drewN n) (Nat.le_refl _) hroom HKH3.out
        rw [Nat.sub_self] at h9
        exact h9
      go_quiet (first
        | (go_at_call 58; exact Calls.quiet_of (cBf _)))
      clear cBf
      have hwr2 : IntKind.i64.wrap ((r : Int) - (r : Int)) = 0 := by rw [Int.sub_self]; rfl
      have H4 := hid (H3.out.below (w' := w2.drewN nq) ⟨rfl, rfl, rfl, Nat.le_refl _, fun _ _ => rfl⟩)
      have HKH4 := hid (show (w2.drewN nq).heap[k]? = _ from HKH3.out)
      have HK4 := hid (HK3.out.drewN nq)
      obtain ⟨w4, hw4⟩ : ∃ w4, w2.drewN nq = w4 := ⟨_, rfl⟩
      rw [hw4] at H4 HKH4 HK4 ⊢
      clear hw4 H3 HKH3 HK3 c0 c2 c3 c4
      have c2 : w4.cell? ⟨k, 2, none⟩ = some (.int .i64 (r : Nat)) := by rw [Lib.cell_of_heap HKH4.out]; rfl
      have c3 : w4.cell? ⟨k, 3, none⟩ = some (.int .i64 (r : Nat)) := by rw [Lib.cell_of_heap HKH4.out]; rfl
      go_wp2_with fail
      go_quiet (fail)
      go_wp2_with fail
      have H5 := hid (H4.out.below (w' := w4.drewN nq) ⟨rfl, rfl, rfl, Nat.le_refl _, fun _ _ => rfl⟩)
      have HK5 := hid (HK4.out.drewN nq)
      obtain ⟨w5, hw5⟩ : ∃ w5, w4.drewN nq = w5 := ⟨_, rfl⟩
      rw [hw5] at H5 HK5 ⊢
      clear hw5 H4 HKH4 HK4 c2 c3
      have hg0 : w5.cell? ⟨0, 0, none⟩ = some (.iface te (.pointer (some ae))) := HK5.out.cell H0.out (fun e => by have h1 := H5.out.lk; have h2 := H5.out.lrow; have h3 := H5.out.ls; rcases e with e | e | e <;> simp only at e <;> omega)
      refine (fill_c w0 k row s S0 [] S0.length r r 0 te ae (.iface te (.pointer (some ae))) cur w5 H5.out (by simp) (by rw [Nat.sub_self]; exact Nat.zero_min _) hg0 (by omega) (Or.inr ⟨rfl, rfl, rfl⟩)).mono ?_
      rintro en w6 ⟨rfl, ⟨cur6, hst6⟩, hk6⟩
      have H6 := hid hst6
      have HK6 := hid (HK5.out.trans hk6)
      clear hst6 hk6 H5 HK5 hg0
      go_wp2_with fail
      go_roundg 0
      case measure => omega
      case rel => exact ⟨0, cur6, _, rfl, rfl, rfl, Or.inr ⟨rfl, rfl, rfl⟩, by simpa using H6.out, HK6.out⟩
    · have c4 : w2.cell? ⟨k, 4, none⟩ = some (.iface te (.pointer (some ae))) := by rw [Lib.cell_of_heap HKH3.out]; rfl
      go_wp2_with fail
      go_quiet (fail)
      have H5 := hid (H3.out.below (w' := w2.drewN nq) ⟨rfl, rfl, rfl, Nat.le_refl _, fun _ _ => rfl⟩)
      have HKH5 := hid (show (w2.drewN nq).heap[k]? = _ from HKH3.out)
      have HK5 := hid (HK3.out.drewN nq)
      obtain ⟨w5, hw5⟩ : ∃ w5, w2.drewN nq = w5 := ⟨_, rfl⟩
      rw [hw5] at H5 HKH5 HK5 ⊢
      clear hw5 H3 HKH3 HK3 c0 c2 c3 c4 hA2 hwr
      have c2 : w5.cell? ⟨k, 2, none⟩ = some (.int .i64 (0 : Nat)) := by rw [Lib.cell_of_heap HKH5.out]; rfl
      have c3 : w5.cell? ⟨k, 3, none⟩ = some (.int .i64 (0 : Nat)) := by rw [Lib.cell_of_heap HKH5.out]; rfl
      have f2 : w5.frozen? ⟨k, 2, none⟩ = false := Lib.frozen_of_heap HKH5.out 2
      go_wp2_with fail
      refine (readErr_c k (.iface te (.pointer (some ae))) _ ?_ ?_).mono ?_
      · rw [Lib.cell_of_heap (heap_set HKH5.out _)]; rfl
      · exact Lib.frozen_of_heap (heap_set HKH5.out _) 4
      rintro en w6 ⟨rfl, rfl⟩
      go_wp2_with fail
      go_ret2
      have hkW : Kept (· = k) w5 ((w5.setCell ⟨k, 2, none⟩ (.int .i64 0)).setCell ⟨k, 4, none⟩ .nilIface) :=
        Kept.setCell (S := (· = k)) (Kept.setCell (S := (· = k)) (Kept.refl _ _) ⟨k, 2, none⟩ rfl _) ⟨k, 4, none⟩ rfl _
      have hcut := H5.out.cut (er' := .nilIface) 0 (by simp) hkW ⟨lb, ls, by
        rw [heap_set (heap_set HKH5.out _)]
        simp⟩
      exact ⟨⟨row, 0, none⟩, 4096, rfl, ⟨S0, [], S0.length, 0, 0, cur, by simp, by simpa using hcut⟩, HK5.out.trans (hkW.mono (fun b _ e => Or.inl e))⟩
end Go.Proofs.Qxb6613956aFmt
