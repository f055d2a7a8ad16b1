/-
  bufio.Reader over strings.Reader: Read (121), fill (59), Buffered (58), readErr (57).
-/
import Derived.Test.Qxb6613956aFmtCp
import Derived.Deep.DeepCutAuto
namespace Go.Proofs.Qxb6613956aFmt
open Go.RowKit Go.Shelf
set_option linter.unusedSimpArgs false

/-- bufio.Reader in block k over the row of 4096 bytes, reading from the strings.Reader in block s: of the text S the first i bytes are read; the row keeps B, from r to e. -/
structure RSt (w0 : World) (k row s : Nat) (S B : List UInt8) (i r e : Nat) (cur : Array Value) (er : Value) (w : World) : Prop where
  hk : ∃ lb ls, w.heap[k]? = some (.cells #[.slice (some ⟨row, 0, none⟩) 4096 4096, .iface 58 (.pointer (some ⟨s, 0, none⟩)), .int .i64 (r : Nat), .int .i64 (e : Nat), er, lb, ls] 110 (0, 0))
  hrow : w.heap[row]? = some (.cells cur 5 (0, 0))
  hs : ∃ pr, w.heap[s]? = some (.cells #[.string ⟨S.toArray⟩, .int .i64 (i : Nat), pr] 84 (0, 0))
  size : cur.size = 4096
  he : e = r + B.length
  room : e ≤ 4096
  buf : (cur.toList.drop r).take B.length = Lib.byteCells B
  hi : i ≤ S.length
  hS : S.length ≤ 100000000
  lk : w0.heap.size ≤ k
  lrow : w0.heap.size ≤ row
  ls : w0.heap.size ≤ s
  bel : Below w0.heap.size w0 w
section
variable {w0 w w' : World} {k row s : Nat} {S B : List UInt8} {i r e : Nat} {cur : Array Value} {er : Value}
theorem RSt.kr (h : RSt w0 k row s S B i r e cur er w) : k ≠ row := fun x => by obtain ⟨_, _, h1⟩ := h.hk; rw [x, h.hrow] at h1; simp at h1
theorem RSt.ks (h : RSt w0 k row s S B i r e cur er w) : k ≠ s := fun x => by obtain ⟨_, _, h1⟩ := h.hk; obtain ⟨_, h2⟩ := h.hs; rw [x, h2] at h1; simp at h1
theorem RSt.rs (h : RSt w0 k row s S B i r e cur er w) : row ≠ s := fun x => by obtain ⟨_, h2⟩ := h.hs; have h1 := h.hrow; rw [x, h2] at h1; simp at h1
/-- Whatever keeps the reader's three blocks keeps the reader. -/
theorem RSt.kept {Z : Nat → Prop} (h : RSt w0 k row s S B i r e cur er w) (hk : Kept Z w w') (h1 : ¬ Z k) (h2 : ¬ Z row) (h3 : ¬ Z s) (h5 : ∀ b, Z b → w0.heap.size ≤ b) : RSt w0 k row s S B i r e cur er w' := by
  obtain ⟨lb, ls, e1⟩ := h.hk
  obtain ⟨pr, e2⟩ := h.hs
  exact ⟨⟨lb, ls, hk.heap e1 h1⟩, hk.heap h.hrow h2, ⟨pr, hk.heap e2 h3⟩, h.size, h.he, h.room, h.buf, h.hi, h.hS, h.lk, h.lrow, h.ls, h.bel.trans (hk.to_below h5 h.bel.size)⟩
theorem RSt.below (h : RSt w0 k row s S B i r e cur er w) (hb : Below w.heap.size w w') : RSt w0 k row s S B i r e cur er w' :=
  h.kept (Z := fun _ => False) (Kept.of_below hb) id id id (fun _ e => e.elim)
theorem RSt.cells (h : RSt w0 k row s S B i r e cur er w) (j : Nat) (u : Value) (hj : (Lib.byteCells B)[j]? = some u) : w.cell? ⟨row, r + j, none⟩ = some u := by
  have hl : j < B.length := by have := (List.getElem?_eq_some_iff.1 hj).1; rwa [Lib.byteCells_length] at this
  rw [Lib.cell_of_heap h.hrow]
  rw [← h.buf, List.getElem?_take_of_lt hl, List.getElem?_drop] at hj
  simpa using hj
end

theorem drop_arr (S : List UInt8) (i : Nat) : (⟨S.toArray⟩ : ByteArray).extract i S.length = ⟨(S.drop i).toArray⟩ := by
  have h := ext_drop ⟨S.toArray⟩ i
  rw [Lib.size_eq] at h
  exact h

set_option maxHeartbeats 3200000 in
set_option maxRecDepth 100000 in
/-- strings.Reader.Read, something left to read. -/
theorem sread_c (s row lo n c : Nat) (S : List UInt8) (i m : Nat) (pr : Value) (cur : Array Value) (w : World) (hs : w.heap[s]? = some (.cells #[.string ⟨S.toArray⟩, .int .i64 (i : Nat), pr] 84 (0, 0))) (hrow : w.heap[row]? = some (.cells cur 5 (0, 0)))
    (hne : s ≠ row) (hi : i < S.length) (hfit : lo + n ≤ cur.size) (hS : S.length ≤ 100000000) (hm : Nat.min (S.length - i) n = m) :
    Calls Tryf.prog 121 #[.pointer (some ⟨s, 0, none⟩), .slice (some ⟨row, lo, none⟩) n c] w fun e w' =>
      e = .returned (.tuple #[.int .i64 (m : Nat), .nilIface]) ∧ w'.heap[s]? = some (.cells #[.string ⟨S.toArray⟩, .int .i64 ((i + m : Nat) : Int), .int .i64 (-1)] 84 (0, 0)) ∧
        w'.heap[row]? = some (.cells (cur.toList.take lo ++ Lib.byteCells ((S.drop i).take m) ++ cur.toList.drop (lo + m)).toArray 5 (0, 0)) ∧ Kept (fun b => b = s ∨ b = row) w w' := by
  have hinfo : (Tryf.prog.info? 5).map (·.size) = some 1 := by kernel_rfl
  have c0 : w.cell? ⟨s, 0, none⟩ = some (.string ⟨S.toArray⟩) := by rw [Lib.cell_of_heap hs]; rfl
  have c1 : w.cell? ⟨s, 1, none⟩ = some (.int .i64 (i : Nat)) := by rw [Lib.cell_of_heap hs]; rfl
  have c2 : w.cell? ⟨s, 2, none⟩ = some pr := by rw [Lib.cell_of_heap hs]; rfl
  have f2 : w.frozen? ⟨s, 2, none⟩ = false := Lib.frozen_of_heap hs 2
  have hS1 : (S.length : Int) ≤ 100000000 := by omega
  have hi1 : (i : Int) < (S.length : Int) := by omega
  have HS := hid hs
  have HR := hid hrow
  clear hs hrow
  go_enter Tryf.func121, Tryf.ntmps121
  go_wp2_with fail
  go_quiet (fail)
  go_wp2_with fail
  have hs1 : ((w.drewN nq).setCell ⟨s, 2, none⟩ (.int .i64 (-1))).heap[s]? = some (.cells #[.string ⟨S.toArray⟩, .int .i64 (i : Nat), .int .i64 (-1)] 84 (0, 0)) := by rw [heap_set (w := w.drewN nq) HS.out]; simp
  have hr1 : ((w.drewN nq).setCell ⟨s, 2, none⟩ (.int .i64 (-1))).heap[row]? = some (.cells cur 5 (0, 0)) := by rw [heap_set_other (w := w.drewN nq) (Ne.symm hne)]; exact HR.out
  have hk1 : Kept (fun b => b = s ∨ b = row) w ((w.drewN nq).setCell ⟨s, 2, none⟩ (.int .i64 (-1))) := ((Kept.refl _ w).drewN nq).setCell ⟨s, 2, none⟩ (Or.inl rfl) _
  obtain ⟨w1, hw1⟩ : ∃ w1, (w.drewN nq).setCell ⟨s, 2, none⟩ (.int .i64 (-1)) = w1 := ⟨_, rfl⟩
  rw [hw1] at hs1 hr1 hk1 ⊢
  clear hw1 c0 c1 c2 f2 HS HR
  have c0 : w1.cell? ⟨s, 0, none⟩ = some (.string ⟨S.toArray⟩) := by rw [Lib.cell_of_heap hs1]; rfl
  have c1 : w1.cell? ⟨s, 1, none⟩ = some (.int .i64 (i : Nat)) := by rw [Lib.cell_of_heap hs1]; rfl
  have hcp := run_copy_row_string_min (P := Tryf.prog) w1.drew 43 9 3 5 row lo n c m ⟨(S.drop i).toArray⟩ cur 5 Tryf.underlying43 hinfo hr1 (by rw [Lib.size_eq]; simp only [List.length_drop]; exact hm) (by have h9 : m ≤ n := hm ▸ Nat.min_le_right _ _; omega)
  simp only [List.toList_toArray] at hcp
  rw [← drop_arr S i] at hcp
  obtain ⟨R, hR⟩ : ∃ R, (cur.toList.take lo ++ Lib.byteCells ((S.drop i).take m) ++ cur.toList.drop (lo + m)).toArray = R := ⟨_, rfl⟩
  rw [hR] at hcp
  have hr2 : (w1.drew.setRow row R).heap[row]? = some (.cells R 5 (0, 0)) := setRow_heap w1.drew row cur _ 5 (0, 0) hr1
  have hs2 : (w1.drew.setRow row R).heap[s]? = _ := (setRow_other w1 row s R hne).trans hs1
  have hk2 : Kept (fun b => b = s ∨ b = row) w (w1.drew.setRow row R) := (hk1.drewN 1).setRow row R (Or.inl (Or.inr rfl))
  have HH := hid (And.intro hr2 (And.intro hs2 hk2))
  have HRR := hid hR
  clear hr2 hs2 hk2 hr1 hs1 hk1 hR
  go_region
  obtain ⟨w2, hw2⟩ : ∃ w2, w1.drew.setRow row R = w2 := ⟨_, rfl⟩
  rw [hw2] at HH ⊢
  clear hw2 hcp c0 c1
  have c1 : w2.cell? ⟨s, 1, none⟩ = some (.int .i64 (i : Nat)) := by rw [Lib.cell_of_heap HH.out.2.1]; rfl
  have f1 : w2.frozen? ⟨s, 1, none⟩ = false := Lib.frozen_of_heap HH.out.2.1 1
  have hm2 : (m : Int) ≤ 100000000 := by have h9 : m ≤ S.length - i := hm ▸ Nat.min_le_left _ _; omega
  go_wp2_with fail
  go_ret2
  refine ⟨rfl, ?_, ?_, HH.out.2.2.setCell ⟨s, 1, none⟩ (Or.inl rfl) _⟩
  · rw [heap_set HH.out.2.1]; simp
  · rw [heap_set_other (Ne.symm hne), HH.out.1, HRR.out]

set_option maxHeartbeats 3200000 in
set_option maxRecDepth 100000 in
/-- strings.Reader.Read, all read. -/
theorem sread_end (s : Nat) (S : List UInt8) (pr E0 v : Value) (w : World) (hs : w.heap[s]? = some (.cells #[.string ⟨S.toArray⟩, .int .i64 (S.length : Nat), pr] 84 (0, 0))) (h0 : w.cell? ⟨0, 0, none⟩ = some E0) :
    Calls Tryf.prog 121 #[.pointer (some ⟨s, 0, none⟩), v] w fun e w' => e = .returned (.tuple #[.int .i64 0, E0]) ∧ Kept (fun _ => False) w w' := by
  have c0 : w.cell? ⟨s, 0, none⟩ = some (.string ⟨S.toArray⟩) := by rw [Lib.cell_of_heap hs]; rfl
  have c1 : w.cell? ⟨s, 1, none⟩ = some (.int .i64 (S.length : Nat)) := by rw [Lib.cell_of_heap hs]; rfl
  clear hs
  go_enter Tryf.func121, Tryf.ntmps121
  go_wp2_with fail
  go_quiet (fail)
  go_wp2_with fail
  go_quiet (fail)
  go_wp2_with fail
  go_ret2
  exact ⟨rfl, ((Kept.refl _ _).drewN _).drewN _⟩

set_option maxHeartbeats 3200000 in
theorem rbuffered_c (k r e : Nat) (a b x y z : Value) (w : World) (hr : r ≤ e) (he : e ≤ 4096) (hk : w.heap[k]? = some (.cells #[a, b, .int .i64 (r : Nat), .int .i64 (e : Nat), x, y, z] 110 (0, 0))) :
    Calls Tryf.prog 58 #[.pointer (some ⟨k, 0, none⟩)] w fun en w' => en = .returned (.int .i64 ((e - r : Nat) : Int)) ∧ ∃ n, w' = w.drewN n := by
  have c2 : w.cell? ⟨k, 2, none⟩ = some (.int .i64 (r : Nat)) := by rw [Lib.cell_of_heap hk]; rfl
  have c3 : w.cell? ⟨k, 3, none⟩ = some (.int .i64 (e : Nat)) := by rw [Lib.cell_of_heap hk]; rfl
  clear hk
  go_enter Tryf.func58, Tryf.ntmps58
  go_wp2
  go_quiet (fail)
  go_wp2
  go_ret
  refine ⟨?_, _, rfl⟩
  have hw : wrap64 ((e : Int) - (r : Int)) = ((e - r : Nat) : Int) := by unfold wrap64; omega
  simp [hw]
  omega

set_option maxHeartbeats 3200000 in
theorem readErr_c (k : Nat) (E : Value) (w : World) (h4 : w.cell? ⟨k, 4, none⟩ = some E) (f4 : w.frozen? ⟨k, 4, none⟩ = false) :
    Calls Tryf.prog 57 #[.pointer (some ⟨k, 0, none⟩)] w fun en w' => en = .returned E ∧ w' = w.setCell ⟨k, 4, none⟩ .nilIface := by
  go_enter Tryf.func57, Tryf.ntmps57
  go_wp2
  go_ret
  exact ⟨rfl, rfl⟩

/-- What Read answers: bytes and no error, or none and io.EOF. -/
def Ans (S : List UInt8) (i m : Nat) (E0 er : Value) : Prop := (i < S.length ∧ er = .nilIface ∧ 0 < m) ∨ (i = S.length ∧ er = E0 ∧ m = 0)
theorem sread_any (s row lo n c : Nat) (S : List UInt8) (i m : Nat) (pr E0 er : Value) (cur : Array Value) (w : World) (hs : w.heap[s]? = some (.cells #[.string ⟨S.toArray⟩, .int .i64 (i : Nat), pr] 84 (0, 0))) (hrow : w.heap[row]? = some (.cells cur 5 (0, 0)))
    (hne : s ≠ row) (hfit : lo + n ≤ cur.size) (hS : S.length ≤ 100000000) (hm : Nat.min (S.length - i) n = m) (h0 : w.cell? ⟨0, 0, none⟩ = some E0) (ha : Ans S i m E0 er) :
    Calls Tryf.prog 121 #[.pointer (some ⟨s, 0, none⟩), .slice (some ⟨row, lo, none⟩) n c] w fun e w' =>
      e = .returned (.tuple #[.int .i64 (m : Nat), er]) ∧ (∃ pr', w'.heap[s]? = some (.cells #[.string ⟨S.toArray⟩, .int .i64 ((i + m : Nat) : Int), pr'] 84 (0, 0))) ∧
        w'.heap[row]? = some (.cells (cur.toList.take lo ++ Lib.byteCells ((S.drop i).take m) ++ cur.toList.drop (lo + m)).toArray 5 (0, 0)) ∧ Kept (fun b => b = s ∨ b = row) w w' := by
  rcases ha with ⟨hi, rfl, _⟩ | ⟨rfl, rfl, rfl⟩
  · exact (sread_c s row lo n c S i m pr cur w hs hrow hne hi hfit hS hm).mono fun e w' h => ⟨h.1, ⟨_, h.2.1⟩, h.2.2⟩
  · refine (sread_end s S pr _ _ w hs h0).mono fun e w' h => ⟨h.1, ⟨pr, by simpa using h.2.heap hs id⟩, ?_, h.2.mono (fun _ _ e => e.elim)⟩
    have e1 : (cur.toList.take lo ++ Lib.byteCells ((S.drop S.length).take 0) ++ cur.toList.drop (lo + 0)).toArray = cur := by simp [Lib.byteCells]
    rw [e1]
    exact h.2.heap hrow id

/-- The kept bytes moved to the row's start. -/
theorem RSt.shift {w0 w : World} {k row s : Nat} {S B : List UInt8} {i r e : Nat} {cur : Array Value} {er : Value} (h : RSt w0 k row s S B i r e cur er w) {w2 : World} (cur2 : Array Value) (hcur : cur2 = (Lib.byteCells B ++ cur.toList.drop B.length).toArray)
    (hk : Kept (fun b => b = k ∨ b = row) w w2) (hr : w2.heap[row]? = some (.cells cur2 5 (0, 0))) (hkk : ∃ lb ls, w2.heap[k]? = some (.cells #[.slice (some ⟨row, 0, none⟩) 4096 4096, .iface 58 (.pointer (some ⟨s, 0, none⟩)), .int .i64 0, .int .i64 (B.length : Nat), er, lb, ls] 110 (0, 0))) :
    RSt w0 k row s S B i 0 B.length cur2 er w2 := by
  obtain ⟨pr, e2⟩ := h.hs
  have hl := cur.length_toList
  have h1 := h.size
  have h2 := h.room
  have h3 := h.he
  refine ⟨by simpa using hkk, hr, ⟨pr, hk.heap e2 (fun e => by rcases e with e | e; exact h.ks e.symm; exact h.rs e.symm)⟩, ?_, by omega, by omega, ?_, h.hi, h.hS, h.lk, h.lrow, h.ls, h.bel.trans (hk.to_below (fun b e => by rcases e with e | e; exact e ▸ h.lk; exact e ▸ h.lrow) h.bel.size)⟩
  · rw [hcur]
    simp only [List.size_toArray, List.length_append, List.length_drop, Lib.byteCells_length]
    omega
  · rw [hcur]
    simp only [List.drop_zero]
    have e1 : B.length = (Lib.byteCells B).length := by rw [Lib.byteCells_length]
    rw [e1]
    exact List.take_left

theorem nil_read (a : Addr) (w : World) : (nilAhead 272 58 (.pointer (some a)) "Read").run Tryf.prog w = .ok (some false) w := by kernel_rfl
theorem method_read (a : Addr) (w : World) : (method 272 58 (.pointer (some a)) "Read").run Tryf.prog w = .ok (121, .pointer (some a)) w := by kernel_rfl

set_option maxHeartbeats 3200000 in
set_option maxRecDepth 100000 in
/-- fill. -/
theorem fill_c (w0 : World) (k row s : Nat) (S B : List UInt8) (i r e m : Nat) (te : TypeId) (ae : Addr) (er : Value) (cur : Array Value) (w : World) (h : RSt w0 k row s S B i r e cur .nilIface w) (hB : B.length < 4096) (hm : Nat.min (S.length - i) (4096 - B.length) = m) (h0 : w.cell? ⟨0, 0, none⟩ = some (.iface te (.pointer (some ae)))) (l0 : 0 < w0.heap.size) (ha : Ans S i m (.iface te (.pointer (some ae))) er) :
    Calls Tryf.prog 59 #[.pointer (some ⟨k, 0, none⟩)] w fun en w' => en = .returned (.tuple #[]) ∧ (∃ cur', RSt w0 k row s S (B ++ (S.drop i).take m) (i + m) 0 (B.length + m) cur' er w') ∧ Kept (fun b => b = k ∨ b = row ∨ b = s) w w' := by
  have hinfo : (Tryf.prog.info? 5).map (·.size) = some 1 := by kernel_rfl
  have H := hid h
  obtain ⟨lb, ls, hk⟩ := h.hk
  have c0 : w.cell? ⟨k, 0, none⟩ = some (.slice (some ⟨row, 0, none⟩) 4096 4096) := by rw [Lib.cell_of_heap hk]; rfl
  have c2 : w.cell? ⟨k, 2, none⟩ = some (.int .i64 (r : Nat)) := by rw [Lib.cell_of_heap hk]; rfl
  have c3 : w.cell? ⟨k, 3, none⟩ = some (.int .i64 (e : Nat)) := by rw [Lib.cell_of_heap hk]; rfl
  have he := h.he
  have hroom := h.room
  have HK := hid hk
  have HA := hid ha
  have H0 := hid h0
  clear h hk ha h0
  go_enter Tryf.func59, Tryf.ntmps59
  go_upto_if 9 with fail
  go_cut [] (fun wx => ∃ cur1, RSt w0 k row s S B i 0 B.length cur1 .nilIface wx ∧ Kept (fun b => b = k ∨ b = row ∨ b = s) w wx)
  case first =>
    rcases Nat.eq_zero_or_pos r with hr | hr
    · subst hr
      rw [Nat.zero_add] at he
      subst he
      go_wp2_with fail
      go_meet
      case rel => exact ⟨cur, H.out, Kept.refl _ _⟩
    · skip
      have hr1 : (0 : Int) < (r : Int) := by omega
      obtain ⟨A, hA⟩ : ∃ A : Addr, A = if 4096 = r then ⟨row, 0, none⟩ else ⟨row, r, none⟩ := ⟨_, rfl⟩
      have hA2 : (if 4096 = r then some (⟨row, 0, none⟩ : Addr) else some ⟨row, r, none⟩) = some A := by rw [hA]; split <;> rfl
      have hsrc : ∀ j v, (Lib.byteCells B)[j]? = some v → w.drew.cell? (A.add j) = some v := fun j v hj => by
        have hl : j < B.length := by have := (List.getElem?_eq_some_iff.1 hj).1; rwa [Lib.byteCells_length] at this
        rw [hA, if_neg (by omega), WideShapes.add_plain]
        exact H.out.cells j v hj
      have hcp := run_copy_row (P := Tryf.prog) w.drew 43 43 3 5 row 0 4096 4096 A B.length (4096 - r) cur 5 (Lib.byteCells B) Tryf.underlying43 hinfo H.out.hrow (by rw [Lib.byteCells_length]; exact (Nat.min_eq_left (by omega)).symm) hsrc (by rw [Lib.byteCells_length, H.out.size]; omega) (Lib.byteCells_one B)
      simp only [Lib.byteCells_length, List.take_zero, List.nil_append, Nat.zero_add] at hcp
      obtain ⟨R, hR⟩ : ∃ R, (Lib.byteCells B ++ cur.toList.drop B.length).toArray = R := ⟨_, rfl⟩
      have hbl : e - r = B.length := by omega
      have hre : r ≤ e := by omega
      rw [hR, ← hA2, ← hbl] at hcp
      have HBL := hid hbl
      have HR := hid hR
      have HE := hid he
      clear hA hA2 hsrc hR hbl he
      go_wp2_with fail
      go_region
      clear hcp
      generalize (if 4096 = r then some (⟨row, 0, none⟩ : Addr) else some ⟨row, r, none⟩) = Ao
      have hk5 : (w.drew.setRow row R).heap[k]? = _ := (setRow_other w row k R H.out.kr).trans HK.out
      have hr5 : (w.drew.setRow row R).heap[row]? = some (.cells R 5 (0, 0)) := setRow_heap w.drew row cur _ 5 (0, 0) H.out.hrow
      have hK5 : Kept (fun b => b = k ∨ b = row) w (w.drew.setRow row R) := ((Kept.refl _ w).drewN 1).setRow row R (Or.inl (Or.inr rfl))
      obtain ⟨w5, hw5⟩ : ∃ w5, w.drew.setRow row R = w5 := ⟨_, rfl⟩
      rw [hw5] at hk5 hr5 hK5 ⊢
      clear hw5 c0 c2 c3
      have c2 : w5.cell? ⟨k, 2, none⟩ = some (.int .i64 (r : Nat)) := by rw [Lib.cell_of_heap hk5]; rfl
      have c3 : w5.cell? ⟨k, 3, none⟩ = some (.int .i64 (e : Nat)) := by rw [Lib.cell_of_heap hk5]; rfl
      have f3 : w5.frozen? ⟨k, 3, none⟩ = false := Lib.frozen_of_heap hk5 3
      have f2 : w5.frozen? ⟨k, 2, none⟩ = false := Lib.frozen_of_heap hk5 2
      have hk6 : ((w5.setCell ⟨k, 3, none⟩ (.int .i64 ((e : Int) - (r : Int)))).setCell ⟨k, 2, none⟩ (.int .i64 0)).drew.heap[k]? = some (.cells #[.slice (some ⟨row, 0, none⟩) 4096 4096, .iface 58 (.pointer (some ⟨s, 0, none⟩)), .int .i64 0, .int .i64 (B.length : Nat), .nilIface, lb, ls] 110 (0, 0)) := by
        refine (heap_set (heap_set hk5 _) _).trans ?_
        have h9 : ((e : Int) - (r : Int)) = ((B.length : Nat) : Int) := by have := HE.out; omega
        simp [h9]
      have hK6 : Kept (fun b => b = k ∨ b = row) w ((w5.setCell ⟨k, 3, none⟩ (.int .i64 ((e : Int) - (r : Int)))).setCell ⟨k, 2, none⟩ (.int .i64 0)).drew := ((hK5.setCell ⟨k, 3, none⟩ (Or.inl rfl) (.int .i64 ((e : Int) - (r : Int)))).setCell ⟨k, 2, none⟩ (Or.inl rfl) (.int .i64 0)).drewN 1
      have H1 := hid (H.out.shift R HR.out.symm hK6 (((heap_set_other (Ne.symm H.out.kr) _).trans (heap_set_other (Ne.symm H.out.kr) _)).trans hr5) ⟨lb, ls, hk6⟩)
      have HKK2 := hid (show Kept (fun b => b = k ∨ b = row ∨ b = s) w ((w5.setCell ⟨k, 3, none⟩ (.int .i64 ((e : Int) - (r : Int)))).setCell ⟨k, 2, none⟩ (.int .i64 0)).drew from hK6.mono (fun b _ h => by rcases h with h | h; exact Or.inl h; exact Or.inr (Or.inl h)))
      have hre2 : (r : Int) ≤ (e : Int) := by omega
      clear hk6 hk5 hr5 hK5 hK6
      go_wp2_with fail
      go_region
      go_wp2_with fail
      go_meet
      case rel => exact ⟨R, H1.out, HKK2.out⟩
  case rest =>
    obtain ⟨cur1, h1, hkk⟩ := hcut
    have H1 := hid h1
    have HKK2 := hid hkk
    obtain ⟨w1, hw1⟩ : ∃ w1, wc = w1 := ⟨_, rfl⟩
    rw [hw1] at H1 HKK2 ⊢
    clear hw1 h1 hkk c0 c2 c3 HK H
    have d0 : w1.cell? ⟨k, 0, none⟩ = some (.slice (some ⟨row, 0, none⟩) 4096 4096) := by obtain ⟨lb, ls, hk⟩ := H1.out.hk; rw [Lib.cell_of_heap hk]; rfl
    have d1 : w1.cell? ⟨k, 1, none⟩ = some (.iface 58 (.pointer (some ⟨s, 0, none⟩))) := by obtain ⟨lb, ls, hk⟩ := H1.out.hk; rw [Lib.cell_of_heap hk]; rfl
    have d3 : w1.cell? ⟨k, 3, none⟩ = some (.int .i64 (B.length : Nat)) := by obtain ⟨lb, ls, hk⟩ := H1.out.hk; rw [Lib.cell_of_heap hk]; rfl
    have hB9 : (B.length : Int) < 4096 := by omega
    have hm1 := method_read ⟨s, 0, none⟩
    have hna := nil_read ⟨s, 0, none⟩
    have hnf : ¬ 4096 = B.length := by omega
    go_wp2_with fail
    go_quiet (fail)
    go_wp2_with fail
    obtain ⟨cu, h2⟩ : ∃ cu, RSt w0 k row s S B i 0 B.length cu .nilIface (w1.drewN nq) := ⟨_, H1.out.below (w' := w1.drewN nq) ⟨rfl, rfl, rfl, Nat.le_refl _, fun _ _ => rfl⟩⟩
    have HKK3 := hid (HKK2.out.drewN nq)
    have H2 := hid h2
    have H02 := hid (show (w1.drewN nq).cell? ⟨0, 0, none⟩ = some (.iface te (.pointer (some ae))) from HKK3.out.cell H0.out (fun e => by have h1 := h2.lk; have h2' := h2.lrow; have h3 := h2.ls; rcases e with e | e | e <;> simp only at e <;> omega))
    obtain ⟨w2, hw2⟩ : ∃ w2, w1.drewN nq = w2 := ⟨_, rfl⟩
    rw [hw2] at H2 HKK3 H02 ⊢
    clear hw2 h2 H1 HKK2 d0 d1 d3
    go_loopg [2] 1 (fun gk s2 wx => s2 = .int .i64 100 ∧ w2 = wx)
    case atStart => exact ⟨rfl, rfl⟩
    case round =>
      obtain ⟨rfl, rfl⟩ := hrel
      have d0 : w2.cell? ⟨k, 0, none⟩ = some (.slice (some ⟨row, 0, none⟩) 4096 4096) := by obtain ⟨lb, ls, hk⟩ := H2.out.hk; rw [Lib.cell_of_heap hk]; rfl
      have d1 : w2.cell? ⟨k, 1, none⟩ = some (.iface 58 (.pointer (some ⟨s, 0, none⟩))) := by obtain ⟨lb, ls, hk⟩ := H2.out.hk; rw [Lib.cell_of_heap hk]; rfl
      have d3 : w2.cell? ⟨k, 3, none⟩ = some (.int .i64 (B.length : Nat)) := by obtain ⟨lb, ls, hk⟩ := H2.out.hk; rw [Lib.cell_of_heap hk]; rfl
      go_upto_region 9 with fail
      go_cut [3, 4] (fun s3 s4 wx => s3 = .int .i64 (m : Nat) ∧ s4 = er ∧ (∃ pr', wx.heap[s]? = some (.cells #[.string ⟨S.toArray⟩, .int .i64 ((i + m : Nat) : Int), pr'] 84 (0, 0))) ∧
        wx.heap[row]? = some (.cells (cu.toList.take B.length ++ Lib.byteCells ((S.drop i).take m) ++ cu.toList.drop (B.length + m)).toArray 5 (0, 0)) ∧ Kept (fun b => b = s ∨ b = row) w2 wx)
      case first =>
        go_region_with (
          go_at_call 121
          obtain ⟨pr, hs⟩ := H2.out.hs
          refine (sread_any s row B.length (4096 - B.length) (4096 - B.length) S i m pr _ er cu _ ?_ ?_ (Ne.symm H2.out.rs) (by rw [H2.out.size]; omega) H2.out.hS hm ?_ HA.out).mono ?_
          exact hs
          exact H2.out.hrow
          exact H02.out
          rintro e w5 ⟨rfl, hs5, hr5, hk5⟩
          have HS5 := hid hs5
          have HR5 := hid hr5
          have HK5 := hid hk5
          clear hs5 hr5 hk5)
        all_goals
          go_wp2
          go_meet
          case rel => exact ⟨rfl, rfl, HS5.out, HR5.out, ⟨HK5.out.os, HK5.out.tape, HK5.out.output, HK5.out.size, HK5.out.block⟩⟩
      case rest =>
        obtain ⟨rfl, h49, hs5, hr5, hk5⟩ := hcut
        subst u4
        obtain ⟨lb, ls, hk⟩ := H2.out.hk
        have hkc := hk5.heap hk (fun e => by rcases e with e | e; exact H2.out.ks e; exact H2.out.kr e)
        have e3 : wc.cell? ⟨k, 3, none⟩ = some (.int .i64 (B.length : Nat)) := by rw [Lib.cell_of_heap hkc]; rfl
        have e4 : wc.cell? ⟨k, 4, none⟩ = some .nilIface := by rw [Lib.cell_of_heap hkc]; rfl
        have g3 : wc.frozen? ⟨k, 3, none⟩ = false := Lib.frozen_of_heap hkc 3
        have g4 : wc.frozen? ⟨k, 4, none⟩ = false := Lib.frozen_of_heap hkc 4
        have hmB : m ≤ 4096 - B.length := hm ▸ Nat.min_le_right _ _
        have hmS : m ≤ S.length - i := hm ▸ Nat.min_le_left _ _
        have hm9 : (m : Int) ≤ 4096 := by omega
        have hK := hid (HKK3.out.trans (hk5.mono (fun b _ h => by rcases h with h | h; exact Or.inr (Or.inr h); exact Or.inr (Or.inl h))))
        have HS5 := hid hs5
        have HR5 := hid hr5
        have HKC := hid hkc
        have HK5 := hid hk5
        clear hs5 hr5 hk5 hkc hk d0 d1 d3 hm1 hna
        have hfin : ∀ W : World, Kept (· = k) wc W → (∃ lb ls, W.heap[k]? = some (.cells #[.slice (some ⟨row, 0, none⟩) 4096 4096, .iface 58 (.pointer (some ⟨s, 0, none⟩)), .int .i64 0, .int .i64 ((B.length + m : Nat) : Int), er, lb, ls] 110 (0, 0))) →
            (∃ cur', RSt w0 k row s S (B ++ (S.drop i).take m) (i + m) 0 (B.length + m) cur' er W) ∧ Kept (fun b => b = k ∨ b = row ∨ b = s) w W := fun W hW hWk => by
          have h2 := H2.out
          have hl := cu.length_toList
          have hcs := h2.size
          have hii := h2.hi
          obtain ⟨pr, hs5⟩ := HS5.out
          have hxl : ((S.drop i).take m).length = m := by rw [List.length_take, List.length_drop]; omega
          have hbl : Below w0.heap.size w2 W := (HK5.out.to_below (fun b e => by rcases e with e | e; exact e ▸ h2.ls; exact e ▸ h2.lrow) h2.bel.size).trans (hW.to_below (fun b e => e ▸ h2.lk) (Nat.le_trans h2.bel.size HK5.out.size))
          refine ⟨⟨_, by simpa using hWk, hW.heap HR5.out (Ne.symm h2.kr), ⟨pr, hW.heap hs5 (Ne.symm h2.ks)⟩, ?_, ?_, by omega, ?_, by omega, h2.hS, h2.lk, h2.lrow, h2.ls, h2.bel.trans hbl⟩, hK.out.trans (hW.mono (fun b _ e => Or.inl e))⟩
          · simp only [List.size_toArray, List.length_append, List.length_take, List.length_drop, Lib.byteCells_length, hxl]
            omega
          · rw [List.length_append, hxl]; omega
          · have hb := h2.buf
            simp only [List.drop_zero] at hb ⊢
            have e1 : (B ++ (S.drop i).take m).length = (Lib.byteCells (B ++ (S.drop i).take m)).length := by rw [Lib.byteCells_length]
            rw [hb, ← Lib.byteCells_append, e1]
            exact List.take_left
        have HFIN := hid hfin
        clear hfin
        rcases HA.out with ⟨hi, rfl, hm0⟩ | ⟨hi, rfl, rfl⟩
        · have hm8 : (0 : Int) < (m : Int) := by omega
          go_wp2_with fail
          (try simp only [Exit.inBlock, Exit.then])
          refine bodyPost_ret (results_none rfl _ _ _) rfl ?_
          refine ⟨rfl, HFIN.out _ (Kept.setCell (S := (· = k)) (Kept.refl _ _) ⟨k, 3, none⟩ rfl _) ⟨lb, ls, ?_⟩⟩
          rw [heap_set HKC.out]
          simp
        · go_wp2_with fail
          (try simp only [Exit.inBlock, Exit.then])
          refine bodyPost_ret (results_none rfl _ _ _) rfl ?_
          refine ⟨rfl, HFIN.out _ (Kept.setCell (S := (· = k)) (Kept.setCell (S := (· = k)) (Kept.refl _ _) ⟨k, 3, none⟩ rfl _) ⟨k, 4, none⟩ rfl _) ⟨lb, ls, ?_⟩⟩
          rw [heap_set (heap_set HKC.out _)]
          simp
end Go.Proofs.Qxb6613956aFmt
