/-
  csv: Read at the end (32), ZZReadPlain (14), Line (16), strings.NewReader (29), bufio.NewReader (40, 50, 70), csv.NewReader (28), ZZNewReaderString (12).
-/
import Derived.Test.Qxb6613956aFmtRr
namespace Go.Proofs.Qxb6613956aFmt
open Go.RowKit Go.Shelf
set_option linter.unusedSimpArgs false

set_option maxHeartbeats 3200000 in
set_option maxRecDepth 100000 in
theorem read_end (w0 : World) (c k row s : Nat) (x : Cv) (ae a2 : Addr) (m : Int) (w : World) (h : CSt w0 c k row s [] x w) (g : Glob w0 ae a2 m) :
    Calls Tryf.prog 32 #[.pointer (some ⟨c, 0, none⟩)] w fun e w' => e = .returned (.tuple #[.slice none 0 0, .iface 129 (.pointer (some ae))]) ∧ CSt w0 c k row s [] x w' := by
  have H := hid h
  clear h
  go_enter Tryf.func32, Tryf.ntmps32
  go_wp2_with fail
  refine (readLine_end w0 c k row s x ae a2 m w H.out g).mono ?_
  rintro e w1 ⟨rfl, hst⟩
  have H1 := hid hst
  clear hst H
  go_wp2_with fail
  go_loopg [4, 5] 0 (fun gk s4 s5 wx => s5 = .iface 129 (.pointer (some ae)) ∧ w1 = wx)
  case atStart => exact ⟨rfl, rfl⟩
  case round =>
    obtain ⟨rfl, rfl⟩ := hrel
    go_wp2_with fail
    go_ret2
    exact ⟨rfl, H1.out⟩

set_option maxHeartbeats 3200000 in
set_option maxRecDepth 100000 in
theorem plain_c (w0 : World) (c k row s : Nat) (f : List UInt8) (t : List (List UInt8)) (W : List UInt8) (x : Cv) (ae a2 : Addr) (m : Int) (w : World) (h : CSt w0 c k row s (encR (f :: t) ++ W) x w) (g : Glob w0 ae a2 m)
    (hl1 : x.line + 1 + nlR (f :: t) ≤ 1000000000) (hl2 : (encR (f :: t) ++ W).length ≤ 200000000) (hl3 : (f :: t).flatten.length ≤ 500000000) (hl4 : t.length ≤ 100000000) (hfd : x.fields = 0 ∨ x.fields = t.length + 1) :
    Calls Tryf.prog 14 #[.pointer (some ⟨c, 0, none⟩)] w fun e w' => ∃ v x', e = .returned (.tuple #[v, .bool false, .bool false]) ∧ CSt w0 c k row s W x' w' ∧ x'.rc = v ∧ x'.Q = f :: t ∧ x'.line = x.line + 1 + nlR (f :: t) ∧ x'.start = x.line + 1 ∧ x'.fields = t.length + 1 := by
  have hn0 := eq_nil ae
  go_enter Tryf.func14, Tryf.ntmps14
  go_wp2_with fail
  refine (read_c w0 c k row s f t W x ae a2 m w h g hl1 hl2 hl3 hl4 hfd).mono ?_
  rintro e w1 ⟨v, x', rfl, h1, h2⟩
  have H1 := hid h1
  have d0 : w1.cell? ⟨0, 0, none⟩ = some (.iface 129 (.pointer (some ae))) := g.c0 h1.bel
  clear h1
  go_wp2_with fail
  go_quiet (fail)
  go_wp2_with fail
  go_ret3
  exact ⟨v, x', rfl, H1.out.below ⟨rfl, rfl, rfl, Nat.le_refl _, fun _ _ => rfl⟩, h2⟩
set_option maxHeartbeats 3200000 in
set_option maxRecDepth 100000 in
theorem plain_end (w0 : World) (c k row s : Nat) (x : Cv) (ae a2 : Addr) (m : Int) (w : World) (h : CSt w0 c k row s [] x w) (g : Glob w0 ae a2 m) :
    Calls Tryf.prog 14 #[.pointer (some ⟨c, 0, none⟩)] w fun e w' => e = .returned (.tuple #[.slice none 0 0, .bool true, .bool true]) ∧ CSt w0 c k row s [] x w' := by
  have hn0 := eq_same ae
  go_enter Tryf.func14, Tryf.ntmps14
  go_wp2_with fail
  refine (read_end w0 c k row s x ae a2 m w h g).mono ?_
  rintro e w1 ⟨rfl, h1⟩
  have H1 := hid h1
  have d0 : w1.cell? ⟨0, 0, none⟩ = some (.iface 129 (.pointer (some ae))) := g.c0 h1.bel
  clear h1
  go_wp2_with fail
  go_quiet (fail)
  go_wp2_with fail
  go_ret3
  exact ⟨rfl, H1.out.below ⟨rfl, rfl, rfl, Nat.le_refl _, fun _ _ => rfl⟩⟩
theorem line_c (c : Nat) (n : Nat) (w : World) (h : w.cell? ⟨c, 2, none⟩ = some (.int .i64 (n : Nat))) : Calls Tryf.prog 16 #[.pointer (some ⟨c, 0, none⟩)] w fun e w' => e = .returned (.int .i64 (n : Nat)) ∧ w' = w := by
  go_enter Tryf.func16, Tryf.ntmps16
  go_wp2
  go_ret
  exact ⟨rfl, rfl⟩

theorem assert_br (v : Value) (w : World) : (Instr.typeAssert (.iface 58 v) 81 67 true).run Tryf.prog w = .ok (.tuple #[.pointer none, .bool false]) w := by kernel_rfl
theorem sNew_c (S : List UInt8) (w : World) : Calls Tryf.prog 29 #[.string ⟨S.toArray⟩] w fun e w' => e = .returned (.pointer (some ⟨w.heap.size, 0, none⟩)) ∧ w' = w.alloc (.cells #[.string ⟨S.toArray⟩, .int .i64 0, .int .i64 (-1)] 84) := by
  go_enter Tryf.func29, Tryf.ntmps29
  go_wp2
  go_ret
  exact ⟨rfl, rfl⟩
set_option maxHeartbeats 3200000 in
theorem reset_c (k g s : Nat) (a0 a1 a2 a3 a4 a5 a6 : Value) (w : World) (hk : w.heap[k]? = some (.cells #[a0, a1, a2, a3, a4, a5, a6] 110 (0, 0))) :
    Calls Tryf.prog 70 #[.pointer (some ⟨k, 0, none⟩), .slice (some ⟨g, 0, none⟩) 4096 4096, .iface 58 (.pointer (some ⟨s, 0, none⟩))] w fun e w' => e = .returned (.tuple #[]) ∧ Kept (· = k) w w' ∧
      w'.heap[k]? = some (.cells #[.slice (some ⟨g, 0, none⟩) 4096 4096, .iface 58 (.pointer (some ⟨s, 0, none⟩)), .int .i64 0, .int .i64 0, .nilIface, .int .i64 (-1), .int .i64 (-1)] 110 (0, 0)) := by
  have c0 : ∀ i v, (#[a0, a1, a2, a3, a4, a5, a6] : Array Value)[i]? = some v → w.cell? ⟨k, i, none⟩ = some v := fun i v hv => by rw [Lib.cell_of_heap hk]; exact hv
  have e0 := c0 0 _ rfl
  have e1 := c0 1 _ rfl
  have e2 := c0 2 _ rfl
  have e3 := c0 3 _ rfl
  have e4 := c0 4 _ rfl
  have e5 := c0 5 _ rfl
  have e6 := c0 6 _ rfl
  have f0 : w.frozen? ⟨k, 0, none⟩ = false := Lib.frozen_of_heap hk 0
  have f1 : w.frozen? ⟨k, 1, none⟩ = false := Lib.frozen_of_heap hk 1
  have f2 : w.frozen? ⟨k, 2, none⟩ = false := Lib.frozen_of_heap hk 2
  have f3 : w.frozen? ⟨k, 3, none⟩ = false := Lib.frozen_of_heap hk 3
  have f4 : w.frozen? ⟨k, 4, none⟩ = false := Lib.frozen_of_heap hk 4
  have f5 : w.frozen? ⟨k, 5, none⟩ = false := Lib.frozen_of_heap hk 5
  have f6 : w.frozen? ⟨k, 6, none⟩ = false := Lib.frozen_of_heap hk 6
  clear c0
  have HK := hid hk
  clear hk
  go_enter Tryf.func70, Tryf.ntmps70
  go_wp2_with fail
  go_end0
  refine ⟨rfl, ?_, ?_⟩
  · have h0 := Kept.refl (· = k) w
    exact ((((((h0.setCell ⟨k, 0, none⟩ rfl _).setCell ⟨k, 1, none⟩ rfl _).setCell ⟨k, 2, none⟩ rfl _).setCell ⟨k, 3, none⟩ rfl _).setCell ⟨k, 4, none⟩ rfl _).setCell ⟨k, 5, none⟩ rfl _).setCell ⟨k, 6, none⟩ rfl _
  · rw [heap_set (heap_set (heap_set (heap_set (heap_set (heap_set (heap_set HK.out _) _) _) _) _) _)]
    simp
set_option maxHeartbeats 3200000 in
set_option maxRecDepth 100000 in
theorem bNew_c (s : Nat) (w : World) :
    Calls Tryf.prog 50 #[.iface 58 (.pointer (some ⟨s, 0, none⟩)), .int .i64 4096] w fun e w' => ∃ M : Array Value, M.size = 4096 ∧ e = .returned (.pointer (some ⟨w.heap.size, 0, none⟩)) ∧ Below w.heap.size w w' ∧ w'.heap[w.heap.size + 1]? = some (.cells M 5 (0, 0)) ∧
      w'.heap[w.heap.size]? = some (.cells #[.slice (some ⟨w.heap.size + 1, 0, none⟩) 4096 4096, .iface 58 (.pointer (some ⟨s, 0, none⟩)), .int .i64 0, .int .i64 0, .nilIface, .int .i64 (-1), .int .i64 (-1)] 110 (0, 0)) := by
  obtain ⟨i0, hi, hz0, hz1, hz2⟩ := info_parts Tryf.info5
  obtain ⟨M, hM⟩ : ∃ M, M = madeCells (Value.int .u8 0).cells ((4096 : Int).toNat * i0.size) := ⟨_, rfl⟩
  have hMs : M.size = 4096 := by rw [hM, size_madeCells, hz1]; rfl
  have hmk : ∀ W : World, (Instr.makeSlice 43 (.int .i64 4096) (.int .i64 4096)).run Tryf.prog W = .ok (.slice (some ⟨W.heap.size, 0, none⟩) 4096 4096) (W.alloc (.cells M 5)) := fun W => by
    have h := run_makeSlice (P := Tryf.prog) W 43 5 i0 (.int .u8 0) Tryf.underlying43 hi hz0 .i64 .i64 4096 4096 (by omega) (by omega) (by rw [hz1]; decide) (by rw [hz2]; decide) (by decide)
    rw [← hM] at h
    simpa using h
  clear hM
  have hta := assert_br (.pointer (some ⟨s, 0, none⟩))
  have hmax : max (4096 : Int) 16 = 4096 := by decide
  go_enter Tryf.func50, Tryf.ntmps50
  go_wp2_with fail
  obtain ⟨Z, hZ⟩ : ∃ Z : Obj, Z = .cells #[.slice none 0 0, .nilIface, .int .i64 0, .int .i64 0, .nilIface, .int .i64 0, .int .i64 0] 110 := ⟨_, rfl⟩
  rw [← hZ]
  have hb1 : Below w.heap.size w ((w.alloc Z).alloc (.cells M 5)) := ((Below.refl _ _).alloc (Nat.le_refl _) _).alloc (by simp) _
  have hs1 : (w.alloc Z).heap.size = w.heap.size + 1 := by simp
  have hk1 : ((w.alloc Z).alloc (.cells M 5)).heap[w.heap.size]? = some (.cells #[.slice none 0 0, .nilIface, .int .i64 0, .int .i64 0, .nilIface, .int .i64 0, .int .i64 0] 110 (0, 0)) := by
    rw [Below.heap_alloc (w.alloc Z) _ w.heap.size (by omega), heap_alloc_new, hZ]
  have hr1 : ((w.alloc Z).alloc (.cells M 5)).heap[w.heap.size + 1]? = some (.cells M 5 (0, 0)) := by rw [← hs1]; exact heap_alloc_new _ _
  obtain ⟨w2, hw2⟩ : ∃ w2, (w.alloc Z).alloc (.cells M 5) = w2 := ⟨_, rfl⟩
  rw [hw2] at hb1 hk1 hr1 ⊢
  clear hw2 hZ hs1
  refine (reset_c w.heap.size (w.heap.size + 1) s _ _ _ _ _ _ _ w2 hk1).mono ?_
  rintro e w3 ⟨rfl, hk3, hh3⟩
  have HH := hid (And.intro hb1 (And.intro hr1 (And.intro hk3 hh3)))
  clear hb1 hk1 hr1 hk3 hh3
  go_wp2_with fail
  go_ret
  obtain ⟨hb1, hr1, hk3, hh3⟩ := HH.out
  exact ⟨M, hMs, rfl, hb1.trans (hk3.to_below (fun b e => e ▸ Nat.le_refl _) hb1.size), hk3.heap hr1 (by omega), hh3⟩
set_option maxHeartbeats 3200000 in
theorem bNew0_c (s : Nat) (w : World) :
    Calls Tryf.prog 40 #[.iface 58 (.pointer (some ⟨s, 0, none⟩))] w fun e w' => ∃ M : Array Value, M.size = 4096 ∧ e = .returned (.pointer (some ⟨w.heap.size, 0, none⟩)) ∧ Below w.heap.size w w' ∧ w'.heap[w.heap.size + 1]? = some (.cells M 5 (0, 0)) ∧
      w'.heap[w.heap.size]? = some (.cells #[.slice (some ⟨w.heap.size + 1, 0, none⟩) 4096 4096, .iface 58 (.pointer (some ⟨s, 0, none⟩)), .int .i64 0, .int .i64 0, .nilIface, .int .i64 (-1), .int .i64 (-1)] 110 (0, 0)) := by
  go_enter Tryf.func40, Tryf.ntmps40
  go_wp2_with fail
  refine (bNew_c s w).mono ?_
  rintro e w1 ⟨M, h1, rfl, h2⟩
  have H2 := hid h2
  clear h2
  go_wp2_with fail
  go_ret
  exact ⟨M, h1, rfl, H2.out⟩
set_option maxHeartbeats 3200000 in
theorem cNew_c (s : Nat) (w : World) :
    Calls Tryf.prog 28 #[.iface 58 (.pointer (some ⟨s, 0, none⟩))] w fun e w' => ∃ (M : Array Value) (c k row : Nat), M.size = 4096 ∧ e = .returned (.pointer (some ⟨c, 0, none⟩)) ∧ Below w.heap.size w w' ∧ w.heap.size ≤ c ∧ w.heap.size ≤ k ∧ w.heap.size ≤ row ∧ w'.heap[row]? = some (.cells M 5 (0, 0)) ∧
      w'.heap[k]? = some (.cells #[.slice (some ⟨row, 0, none⟩) 4096 4096, .iface 58 (.pointer (some ⟨s, 0, none⟩)), .int .i64 0, .int .i64 0, .nilIface, .int .i64 (-1), .int .i64 (-1)] 110 (0, 0)) ∧
      w'.heap[c]? = some (.cells #[.pointer (some ⟨k, 0, none⟩), .int .i64 0, .int .i64 0, .int .i64 0, .slice none 0 0, .slice none 0 0, .slice none 0 0, .slice none 0 0] 69 (0, 0)) := by
  go_enter Tryf.func28, Tryf.ntmps28
  go_wp2_with fail
  refine (bNew0_c s w).mono ?_
  rintro e w1 ⟨M, h1, rfl, h2⟩
  have H2 := hid h2
  clear h2
  obtain ⟨k, hk⟩ : ∃ k, w.heap.size = k := ⟨_, rfl⟩
  have HKK := hid hk
  rw [hk]
  clear hk
  go_wp2_with fail
  go_ret
  obtain ⟨hb, hr, hkk⟩ := H2.out
  have hlt := lt_heap hr
  refine ⟨M, w1.heap.size, k, k + 1, h1, rfl, hb.alloc hb.size _, by have := hb.size; omega, by rw [HKK.out]; exact Nat.le_refl _, by rw [HKK.out]; omega, ?_, ?_, ?_⟩
  · rw [← HKK.out, Below.heap_alloc _ _ _ hlt]; exact hr
  · rw [← HKK.out, Below.heap_alloc _ _ _ (by omega)]; exact hkk
  · exact heap_alloc_new _ _

set_option maxHeartbeats 3200000 in
set_option maxRecDepth 100000 in
/-- csv.NewReader over strings.NewReader. -/
theorem newReader_c (S : List UInt8) (w : World) (hS : S.length ≤ 100000000) :
    Calls Tryf.prog 12 #[.string ⟨S.toArray⟩] w fun e w' => ∃ c k row s x, e = .returned (.pointer (some ⟨c, 0, none⟩)) ∧ CSt w c k row s S x w' ∧ x.line = 0 ∧ x.fields = 0 := by
  go_enter Tryf.func12, Tryf.ntmps12
  go_wp2_with fail
  refine (sNew_c S w).mono ?_
  rintro e w1 ⟨rfl, hw1⟩
  have hs1 : w1.heap[w.heap.size]? = some (.cells #[.string ⟨S.toArray⟩, .int .i64 0, .int .i64 (-1)] 84 (0, 0)) := by rw [hw1]; exact heap_alloc_new _ _
  have hb1 : Below w.heap.size w w1 := by rw [hw1]; exact (Below.refl _ _).alloc (Nat.le_refl _) _
  clear hw1
  obtain ⟨s, hs⟩ : ∃ s, w.heap.size = s := ⟨_, rfl⟩
  have HSS := hid hs
  have HS1 := hid (And.intro hs1 hb1)
  rw [hs]
  clear hs hs1 hb1
  go_wp2_with fail
  refine (cNew_c s w1).mono ?_
  rintro e w2 ⟨M, c, k, row, hM, rfl, hb2, hc, hk, hrow, hr2, hk2, hc2⟩
  have H2 := hid (And.intro hb2 (And.intro hr2 (And.intro hk2 hc2)))
  clear hb2 hr2 hk2 hc2
  go_wp2_with fail
  go_ret
  obtain ⟨hb2, hr2, hk2, hc2⟩ := H2.out
  obtain ⟨hs1, hb1⟩ := HS1.out
  have hss := HSS.out
  have hlt := lt_heap hs1
  have hb : Below w.heap.size w w2 := hb1.trans ⟨hb2.os, hb2.tape, hb2.output, hb2.size, fun j hj => hb2.block j (by have := hb1.size; omega)⟩
  refine ⟨c, k, row, s, ⟨0, 0, 0, .slice none 0 0, .slice none 0 0, .slice none 0 0, .slice none 0 0, [], [], [], []⟩, rfl, ⟨hc2, ⟨S, [], 0, 0, 0, M, by simp, ⟨⟨_, _, hk2⟩, hr2, ⟨.int .i64 (-1), ?_⟩, hM, rfl, by omega, rfl, Nat.zero_le _, hS, by have := hb1.size; omega, by have := hb1.size; omega, by omega, hb⟩⟩, World.ownsRow_nil _ _ _ _, World.ownsRow_nil _ _ _ _, World.ownsRow_nil _ _ _ _, World.ownsRow_nil _ _ _ _, by simp [Value.ownBlock], by simp [Value.ownBlock], fun b e => by simp [Value.ownBlock] at e, by have := hb1.size; omega⟩, rfl, rfl⟩
  rw [← hss, hb2.block _ hlt]
  exact hs1
end Go.Proofs.Qxb6613956aFmt
