/-
  csv: ZZWriteFailed (11), ZZNewWriterSink (10, 26, 35, 45), ZZSinkText (13).
-/
import Derived.Test.Qxb6613956aFmtCw
namespace Go.Proofs.Qxb6613956aFmt
open Go.RowKit Go.Shelf
set_option linter.unusedSimpArgs false

set_option maxHeartbeats 1000000 in
theorem failed_c (w0 : World) (d q r b : Nat) (T : List UInt8) (ys : List (List UInt8)) (v : Value) (m : Int) (w : World) (h : VSt w0 d q r b T w) (hv : Rec w0 v ys) (hne : ys ≠ []) (hm : w0.cell? ⟨5, 0, none⟩ = some (.int .i64 m)) (hlen : ys.length ≤ 10000000)
    (hys : ∀ y ∈ ys, y.length ≤ 10000000) (hlim : T.length + (encR ys).length ≤ 100000000) :
    Calls Tryf.prog 11 #[.pointer (some ⟨d, 0, none⟩), v] w fun e w' => e = .returned (.bool false) ∧ VSt w0 d q r b (T ++ encR ys) w' := by
  have hv' := hv
  obtain ⟨ao, cap, rfl, _⟩ := hv'
  go_enter Tryf.func11, Tryf.ntmps11
  go_wp2_with fail
  refine (write_c w0 d q r b T ys _ m w h hv hne hm hlen hys hlim).mono ?_
  rintro e w1 ⟨rfl, h1⟩
  have H1 := hid h1
  clear h1
  go_wp2_with fail
  go_ret
  exact ⟨rfl, H1.out⟩

theorem assert_bw (v : Value) (w : World) : (Instr.typeAssert (.iface 26 v) 74 60 true).run Tryf.prog w = .ok (.tuple #[.pointer none, .bool false]) w := by kernel_rfl
set_option maxHeartbeats 3200000 in
set_option maxRecDepth 100000 in
theorem nws_c (b : Nat) (w : World) :
    Calls Tryf.prog 45 #[.iface 26 (.pointer (some ⟨b, 0, none⟩)), .int .i64 4096] w fun e w' => ∃ M : Array Value, M.size = 4096 ∧ e = .returned (.pointer (some ⟨w.heap.size + 1, 0, none⟩)) ∧ Below w.heap.size w w' ∧ w'.heap[w.heap.size]? = some (.cells M 5 (0, 0)) ∧
      w'.heap[w.heap.size + 1]? = some (.cells #[.nilIface, .slice (some ⟨w.heap.size, 0, none⟩) 4096 4096, .int .i64 0, .iface 26 (.pointer (some ⟨b, 0, none⟩))] 86 (0, 0)) := by
  obtain ⟨i0, hi, hz0, hz1, hz2⟩ := info_parts Tryf.info5
  obtain ⟨M, hM⟩ : ∃ M, M = madeCells (Value.int .u8 0).cells ((4096 : Int).toNat * i0.size) := ⟨_, rfl⟩
  have hMs : M.size = 4096 := by rw [hM, size_madeCells, hz1]; rfl
  have hmk : ∀ W : World, (Instr.makeSlice 43 (.int .i64 4096) (.int .i64 4096)).run Tryf.prog W = .ok (.slice (some ⟨W.heap.size, 0, none⟩) 4096 4096) (W.alloc (.cells M 5)) := fun W => by
    have h := run_makeSlice (P := Tryf.prog) W 43 5 i0 (.int .u8 0) Tryf.underlying43 hi hz0 .i64 .i64 4096 4096 (by omega) (by omega) (by rw [hz1]; decide) (by rw [hz2]; decide) (by decide)
    rw [← hM] at h
    simpa using h
  clear hM
  have hta := assert_bw (.pointer (some ⟨b, 0, none⟩))
  go_enter Tryf.func45, Tryf.ntmps45
  go_wp2_with fail
  go_ret
  have hs1 : (w.alloc (.cells M 5)).heap.size = w.heap.size + 1 := by simp
  refine ⟨M, hMs, rfl, ((Below.refl _ _).alloc (Nat.le_refl _) _).alloc (by simp) _, ?_, ?_⟩
  · rw [Below.heap_alloc (w.alloc (.cells M 5)) _ w.heap.size (by omega)]; exact heap_alloc_new _ _
  · rw [← hs1]; exact heap_alloc_new _ _
set_option maxHeartbeats 3200000 in
theorem nw_c (b : Nat) (w : World) :
    Calls Tryf.prog 35 #[.iface 26 (.pointer (some ⟨b, 0, none⟩))] w fun e w' => ∃ M : Array Value, M.size = 4096 ∧ e = .returned (.pointer (some ⟨w.heap.size + 1, 0, none⟩)) ∧ Below w.heap.size w w' ∧ w'.heap[w.heap.size]? = some (.cells M 5 (0, 0)) ∧
      w'.heap[w.heap.size + 1]? = some (.cells #[.nilIface, .slice (some ⟨w.heap.size, 0, none⟩) 4096 4096, .int .i64 0, .iface 26 (.pointer (some ⟨b, 0, none⟩))] 86 (0, 0)) := by
  go_enter Tryf.func35, Tryf.ntmps35
  go_wp2_with fail
  refine (nws_c b w).mono ?_
  rintro e w1 ⟨M, h1, rfl, h2⟩
  have H2 := hid h2
  clear h2
  go_wp2_with fail
  go_ret
  exact ⟨M, h1, rfl, H2.out⟩
set_option maxHeartbeats 3200000 in
theorem cnw_c (b : Nat) (w : World) :
    Calls Tryf.prog 26 #[.iface 26 (.pointer (some ⟨b, 0, none⟩))] w fun e w' => ∃ (M : Array Value) (d q r : Nat), M.size = 4096 ∧ e = .returned (.pointer (some ⟨d, 0, none⟩)) ∧ Below w.heap.size w w' ∧ w.heap.size ≤ q ∧ w.heap.size ≤ r ∧ w'.heap[r]? = some (.cells M 5 (0, 0)) ∧
      w'.heap[q]? = some (.cells #[.nilIface, .slice (some ⟨r, 0, none⟩) 4096 4096, .int .i64 0, .iface 26 (.pointer (some ⟨b, 0, none⟩))] 86 (0, 0)) ∧ w'.heap[d]? = some (.cells #[.pointer (some ⟨q, 0, none⟩)] 62 (0, 0)) := by
  go_enter Tryf.func26, Tryf.ntmps26
  go_wp2_with fail
  refine (nw_c b w).mono ?_
  rintro e w1 ⟨M, h1, rfl, h2⟩
  have H2 := hid h2
  clear h2
  obtain ⟨q, hq⟩ : ∃ q, w.heap.size + 1 = q := ⟨_, rfl⟩
  have HQ := hid hq
  rw [hq]
  clear hq
  go_wp2_with fail
  go_ret
  obtain ⟨hb, hr, hqq⟩ := H2.out
  have hlt := lt_heap hqq
  have hq9 := HQ.out
  rw [hq9] at hqq hlt
  refine ⟨M, w1.heap.size, q, w.heap.size, h1, rfl, hb.alloc hb.size _, by omega, Nat.le_refl _, ?_, ?_, ?_⟩
  · rw [Below.heap_alloc _ _ _ (by omega)]; exact hr
  · rw [Below.heap_alloc _ _ _ hlt]; exact hqq
  · exact heap_alloc_new _ _
set_option maxHeartbeats 3200000 in
theorem sink_c (w : World) : Calls Tryf.prog 10 #[] w fun e w' => ∃ d q r b, e = .returned (.tuple #[.pointer (some ⟨d, 0, none⟩), .pointer (some ⟨b, 0, none⟩)]) ∧ VSt w d q r b [] w' := by
  go_enter Tryf.func10, Tryf.ntmps10
  go_wp2_with fail
  have hb1 : (w.alloc (.cells #[.slice none 0 0, .int .i64 0, .int .i8 0] 52)).heap[w.heap.size]? = some (.cells #[.slice none 0 0, .int .i64 0, .int .i8 0] 52 (0, 0)) := heap_alloc_new _ _
  have hbl : Below w.heap.size w (w.alloc (.cells #[.slice none 0 0, .int .i64 0, .int .i8 0] 52)) := (Below.refl _ _).alloc (Nat.le_refl _) _
  obtain ⟨b, hb⟩ : ∃ b, w.heap.size = b := ⟨_, rfl⟩
  have HB := hid hb
  obtain ⟨w1, hw1⟩ : ∃ w1, w.alloc (.cells #[.slice none 0 0, .int .i64 0, .int .i8 0] 52) = w1 := ⟨_, rfl⟩
  rw [hw1] at hb1 hbl ⊢
  rw [hb]
  have H1 := hid (And.intro hb1 hbl)
  clear hb1 hbl hb hw1
  refine (cnw_c b w1).mono ?_
  rintro e w2 ⟨M, d, q, r, hM, rfl, hb2, hq, hr, hr2, hq2, hd2⟩
  have H2 := hid (And.intro hb2 (And.intro hr2 (And.intro hq2 hd2)))
  clear hb2 hr2 hq2 hd2
  go_wp2_with fail
  go_ret2
  obtain ⟨hb2, hr2, hq2, hd2⟩ := H2.out
  obtain ⟨hb1, hbl⟩ := H1.out
  have hbe := HB.out
  have hlt := lt_heap hb1
  have hbel : Below w.heap.size w w2 := hbl.trans ⟨hb2.os, hb2.tape, hb2.output, hb2.size, fun j hj => hb2.block j (by have := hbl.size; omega)⟩
  refine ⟨d, q, r, b, rfl, hd2, [], [], .slice none 0 0, M, rfl, ⟨by simpa using hq2, hr2, hM, rfl, by simp, ⟨⟨0, ?_⟩, World.ownsRow_nil _ _ _ _⟩, by simp [Value.ownBlock], by have := hbl.size; omega, by have := hbl.size; omega, by omega, fun k e => by simp [Value.ownBlock] at e, hbel⟩⟩
  rw [← hbe, hb2.block _ hlt]
  exact hb1
set_option maxHeartbeats 3200000 in
theorem text_c (w0 : World) (d q r b : Nat) (T : List UInt8) (w : World) (h : VSt w0 d q r b T w) (hlim : T.length ≤ 100000000) :
    Calls Tryf.prog 13 #[.pointer (some ⟨d, 0, none⟩), .pointer (some ⟨b, 0, none⟩)] w fun e w' => e = .returned (.string ⟨T.toArray⟩) ∧ Below w0.heap.size w0 w' := by
  have dp := h.ptr
  obtain ⟨A, B, v, cur, hT, hst⟩ := h.inv
  have HT := hid hT
  have H := hid hst
  have hlen : A.length + B.length ≤ 100000000 := by rw [hT, List.length_append] at hlim; exact hlim
  clear h hT hst
  go_enter Tryf.func13, Tryf.ntmps13
  go_wp2_with fail
  refine (flush_c w0 q r b A B v cur w H.out hlen).mono ?_
  rintro e w1 ⟨rfl, v', h1, _⟩
  have H1 := hid h1
  clear h1
  go_wp2_with fail
  have hbuf : Lib.IsBuffer 52 5 0 b (Lib.byteCells T) w1 := by
    obtain ⟨lr, hb⟩ := H1.out.snk.blk
    refine ⟨Nat.zero_le _, v', lr, hb, ?_, H1.out.snk.ne⟩
    rw [Lib.byteCells_length, HT.out]
    exact H1.out.snk.own
  refine (Any.Buffer_String Tryf.laysM182 0 b T w1 hbuf).mono ?_
  rintro e w2 ⟨rfl, n, rfl⟩
  go_wp2_with fail
  go_ret
  exact ⟨rfl, H1.out.bel.trans ⟨rfl, rfl, rfl, Nat.le_refl _, fun _ _ => rfl⟩⟩
end Go.Proofs.Qxb6613956aFmt
