/-
  csv: Read (32).
-/
import Derived.Test.Qxb6613956aFmtFd
namespace Go.Proofs.Qxb6613956aFmt
open Go.RowKit Go.Shelf
set_option linter.unusedSimpArgs false

/-- Where each of the fields ends, one written behind the other. -/
def cum (fs : List (List UInt8)) : List Nat := (List.range fs.length).map fun i => (fs.take (i + 1)).flatten.length
theorem cum_length (fs : List (List UInt8)) : (cum fs).length = fs.length := by simp [cum]
theorem cum_at (fs : List (List UInt8)) (i : Nat) (h : i < fs.length) : (cum fs)[i]? = some (fs.take (i + 1)).flatten.length := by simp [cum, h]
theorem cum_snoc (fs : List (List UInt8)) (f : List UInt8) : cum (fs ++ [f]) = cum fs ++ [(fs ++ [f]).flatten.length] := by
  unfold cum
  rw [List.length_append, List.length_singleton, List.range_succ, List.map_append]
  congr 1
  · apply List.map_congr_left
    intro i hi
    have := List.mem_range.1 hi
    rw [List.take_append_of_le_length (by omega)]
  · simp only [List.map_cons, List.map_nil]
    rw [List.take_of_length_le (by simp)]
/-- The line feeds in a record's fields. -/
def nlR (r : List (List UInt8)) : Nat := (r.map nls).sum
theorem nlR_snoc (r : List (List UInt8)) (f : List UInt8) : nlR (r ++ [f]) = nlR r + nls f := by simp [nlR]
theorem nlR_append (r r' : List (List UInt8)) : nlR (r ++ r') = nlR r + nlR r' := by simp [nlR]
theorem flat_snoc (fs : List (List UInt8)) (f : List UInt8) : (fs ++ [f]).flatten = fs.flatten ++ f := by simp

theorem conv_own {w : World} {base : Nat} {v : Value} {T : List UInt8} (h : w.ownsRow base 5 1 v T.length (Lib.byteCells T)) : (convert 43 9 v).run Tryf.prog w = .ok (.string ⟨T.toArray⟩) w := by
  rcases h.2 with ⟨rfl, h0⟩ | ⟨g, cap, cur, rfl, hbg, hg, hnc, hcm, hcs, htk⟩
  · obtain rfl : T = [] := List.eq_nil_of_length_eq_zero h0
    exact Lib.run_convert_nil_bytes w _ _ _ 0 Tryf.underlying43 Tryf.underlying5 Tryf.underlying9
  · rw [Nat.mul_one] at htk
    exact run_convert_bytes_back (P := Tryf.prog) w 43 9 5 ⟨g, 0, none⟩ cap T Tryf.underlying43 Tryf.underlying5 Tryf.underlying9 (Lib.bytes_of_row (w := w) hg htk)
theorem Tryf.info3 : (Tryf.prog.info? 3).map (fun i => (i.zero, i.size, i.bytes)) = some (some (.int .i64 0), 1, 8) := by kernel_rfl
theorem Tryf.info9 : (Tryf.prog.info? 9).map (fun i => (i.zero, i.size, i.bytes)) = some (some (.string ByteArray.empty), 1, 16) := by kernel_rfl
/-- append of one number onto a row of the call's own. -/
theorem app_int (w : World) (base : Nat) (v : Value) (E : List Nat) (y : Nat) (hown : w.ownsRow base 3 1 v E.length (E.map numV)) (a : Addr) (hy : w.cell? (a.add 0) = some (numV y)) (hb : E.length ≤ 1000000000) (hbase : base ≤ w.heap.size) :
    ∃ ao n co w', (Builtin.append_ #[39, 39] 39 #[v, .slice (some a) 1 1]).run Tryf.prog w = .ok (.slice ao n co) w' ∧ w'.ownsRow base 3 1 (.slice ao n co) (E ++ [y]).length ((E ++ [y]).map numV) ∧ w.grownBy w' v.ownBlock ∧ (∀ k, (Value.slice ao n co).ownBlock = some k → v.ownBlock = some k ∨ w.heap.size ≤ k) := by
  obtain ⟨i0, hi, hz0, hz1, hz2⟩ := info_parts Tryf.info3
  obtain ⟨v', w', h1, h2, h3, h4⟩ := run_append_own2 (P := Tryf.prog) w base 39 39 3 i0 (.int .i64 0) 1 8 Tryf.underlying39 hi hz0 hz1 hz2 rfl (by decide) v E.length (E.map numV) hown a 1 1 [numV y] rfl (fun j u hj => by
    cases j with
    | zero => simp at hj; subst hj; exact hy
    | succ j => simp at hj) (fun u hu => by rw [List.mem_singleton.1 hu]; rfl) (by unfold maxLen; omega) (by omega) hbase
  have h2' : w'.ownsRow base 3 1 v' (E ++ [y]).length ((E ++ [y]).map numV) := by rw [List.length_append, List.map_append]; exact h2
  obtain ⟨ao, co, rfl⟩ := own_form h2'
  exact ⟨ao, _, co, w', h1, h2', h3, h4⟩
theorem app_str (w : World) (base : Nat) (v : Value) (Q : List (List UInt8)) (y : List UInt8) (hown : w.ownsRow base 9 1 v Q.length (Q.map strV')) (a : Addr) (hy : w.cell? (a.add 0) = some (strV' y)) (hb : Q.length ≤ 1000000000) (hbase : base ≤ w.heap.size) :
    ∃ ao n co w', (Builtin.append_ #[24, 24] 24 #[v, .slice (some a) 1 1]).run Tryf.prog w = .ok (.slice ao n co) w' ∧ w'.ownsRow base 9 1 (.slice ao n co) (Q ++ [y]).length ((Q ++ [y]).map strV') ∧ w.grownBy w' v.ownBlock ∧ (∀ k, (Value.slice ao n co).ownBlock = some k → v.ownBlock = some k ∨ w.heap.size ≤ k) := by
  obtain ⟨i0, hi, hz0, hz1, hz2⟩ := info_parts Tryf.info9
  obtain ⟨v', w', h1, h2, h3, h4⟩ := run_append_own2 (P := Tryf.prog) w base 24 24 9 i0 (.string ByteArray.empty) 1 16 Tryf.underlying24 hi hz0 hz1 hz2 rfl (by decide) v Q.length (Q.map strV') hown a 1 1 [strV' y] rfl (fun j u hj => by
    cases j with
    | zero => simp at hj; subst hj; exact hy
    | succ j => simp at hj) (fun u hu => by rw [List.mem_singleton.1 hu]; rfl) (by unfold maxLen; omega) (by omega) hbase
  have h2' : w'.ownsRow base 9 1 v' (Q ++ [y]).length ((Q ++ [y]).map strV') := by rw [List.length_append, List.map_append]; exact h2
  obtain ⟨ao, co, rfl⟩ := own_form h2'
  exact ⟨ao, _, co, w', h1, h2', h3, h4⟩

/-- field, whatever follows it. -/
theorem field_any (w0 : World) (c k row s : Nat) (one : Bool) (f : List UInt8) (tr : List (List UInt8)) (W : List UInt8) (x : Cv) (ae a2 : Addr) (m : Int) (b : Nat) (v nv : Value) (w : World) (h : CSt w0 c k row s (rs (encF one f ++ (encT one tr ++ W))) x w) (g : Glob w0 ae a2 m)
    (hL : LineAt b v (ln (encF one f ++ (encT one tr ++ W))) w) (hb : b = row ∨ x.lg.ownBlock = some b) (hl1 : x.line + nls f ≤ 1000000000) (hl2 : (encF one f ++ (encT one tr ++ W)).length ≤ 200000000) (hl3 : x.T.length + f.length ≤ 500000000) :
    Calls Tryf.prog 42 #[.pointer (some ⟨c, 0, none⟩), v, nv] w fun e w' => ∃ v' mo lg L tx R', e = .returned (.tuple #[v', .bool mo, .nilIface]) ∧ CSt w0 c k row s R' { x with line := x.line + nls f, lg := lg, L := L, tx := tx, T := x.T ++ f } w' ∧
      ((tr = [] ∧ mo = false ∧ R' = W) ∨ (∃ f2 t2 b', tr = f2 :: t2 ∧ mo = true ∧ R' = rs (encF one f2 ++ (encT one t2 ++ W)) ∧ LineAt b' v' (ln (encF one f2 ++ (encT one t2 ++ W))) w' ∧ (b' = row ∨ lg.ownBlock = some b'))) := by
  cases tr with
  | nil =>
    refine (field_last w0 c k row s one f W x ae a2 m b v nv w h g hL hb hl1 hl2 hl3).mono ?_
    rintro e w' ⟨v', lg, L, tx, h1, h2⟩
    exact ⟨v', false, lg, L, tx, W, h1, h2, Or.inl ⟨rfl, rfl, rfl⟩⟩
  | cons f2 t2 =>
    have he : encT one (f2 :: t2) ++ W = 44 :: (encF one f2 ++ (encT one t2 ++ W)) := by simp [encT]
    rw [he] at h hL hl2
    have hne : encF one f2 ++ (encT one t2 ++ W) ≠ [] := fun e => encT_ne one t2 (List.append_eq_nil_iff.1 (List.append_eq_nil_iff.1 e).2).1
    refine (field_more w0 c k row s one f _ x ae a2 m b v nv w h g hL hb hne (List.mem_append_right _ (List.mem_append_left _ (encT_nl one t2))) hl1 hl2 hl3).mono ?_
    rintro e w' ⟨v', b', lg, L, tx, h1, h2, h3, h4⟩
    exact ⟨v', true, lg, L, tx, _, h1, h4, Or.inr ⟨f2, t2, b', rfl, rfl, rfl, h2, h3⟩⟩

/-- A row of the call's own that is not empty. -/
theorem row_own {w : World} {base t sz n : Nat} {v : Value} {xs : List Value} (h : w.ownsRow base t sz v n xs) (hn : 0 < n) : ∃ ge cap, v = .slice (some ⟨ge, 0, none⟩) n cap := by
  rcases h.2 with ⟨_, h0⟩ | ⟨g, cap, cur, rfl, _⟩
  · omega
  · exact ⟨g, cap, rfl⟩
theorem take_flat (F : List (List UInt8)) (i : Nat) (fi : List UInt8) (h : F[i]? = some fi) : (F.take (i + 1)).flatten = (F.take i).flatten ++ fi ∧ F.take (i + 1) = F.take i ++ [fi] := by
  obtain ⟨hi, he⟩ := List.getElem?_eq_some_iff.1 h
  have e1 : F.take (i + 1) = F.take i ++ [fi] := by rw [List.take_succ_eq_append_getElem hi, he]
  exact ⟨by rw [e1]; simp, e1⟩
theorem ext_field (F : List (List UInt8)) (i : Nat) (fi : List UInt8) (h : F[i]? = some fi) : (⟨F.flatten.toArray⟩ : ByteArray).extract (F.take i).flatten.length (F.take (i + 1)).flatten.length = ⟨fi.toArray⟩ := by
  obtain ⟨e1, _⟩ := take_flat F i fi h
  have e2 : F.flatten = (F.take i).flatten ++ fi ++ (F.drop (i + 1)).flatten := by
    rw [← e1, ← List.flatten_append, List.take_append_drop]
  apply ByteArray.ext
  apply Array.ext'
  rw [Lib.extract_data]
  simp only [List.toList_toArray]
  rw [e1, e2, List.length_append, Nat.add_sub_cancel_left, List.append_assoc, List.drop_left, List.take_left]

/-- r.text and r.ends emptied. -/
theorem CSt.reset {w0 w : World} {c k row s : Nat} {R : List UInt8} {x : Cv} (h : CSt w0 c k row s R x w) {tv ev : Value} (ht : w.ownsRow w0.heap.size 5 1 tv 0 []) (htb : tv.ownBlock = x.tx.ownBlock) (he : w.ownsRow w0.heap.size 3 1 ev 0 []) (heb : ev.ownBlock = x.en.ownBlock) :
    CSt w0 c k row s R { x with tx := tv, T := [], en := ev, E := [] } ((w.setCell ⟨c, 5, none⟩ tv).setCell ⟨c, 6, none⟩ ev).drew ∧ Kept (fun b => b = c ∨ x.tx.ownBlock = some b ∨ x.en.ownBlock = some b) w ((w.setCell ⟨c, 5, none⟩ tv).setCell ⟨c, 6, none⟩ ev).drew := by
  have h1 := h.setText (v' := tv) (T' := []) (w1 := w) ht ⟨rfl, rfl, rfl, Nat.le_refl _, fun _ _ _ => rfl⟩ (fun b e => Or.inl (htb ▸ e))
  have hk : Kept (· = c) w (w.setCell ⟨c, 5, none⟩ tv) := Kept.setCell (S := (· = c)) (Kept.refl _ _) ⟨c, 5, none⟩ rfl _
  have he1 : (w.setCell ⟨c, 5, none⟩ tv).ownsRow w0.heap.size 3 1 ev 0 [] := own_kept he hk (fun b e e' => own_ne h.oen h.hc (by decide) (heb ▸ e' ▸ e))
  have h2 := h1.1.setEnds (v' := ev) (E' := []) (w1 := w.setCell ⟨c, 5, none⟩ tv) he1 (Kept.refl _ _) (fun b e => Or.inl (heb ▸ e))
  refine ⟨h2.1.below ⟨rfl, rfl, rfl, Nat.le_refl _, fun _ _ => rfl⟩, ?_⟩
  exact ((h1.2.mono (fun b _ e => by rcases e with e | e; exact Or.inl e; exact Or.inr (Or.inl e))).trans (h2.2.mono (fun b _ e => by rcases e with e | e; exact Or.inl e; exact Or.inr (Or.inr e)))).drewN 1

set_option maxHeartbeats 6400000 in
set_option maxRecDepth 100000 in
theorem read_c (w0 : World) (c k row s : Nat) (f : List UInt8) (t : List (List UInt8)) (W : List UInt8) (x : Cv) (ae a2 : Addr) (m : Int) (w : World) (h : CSt w0 c k row s (encR (f :: t) ++ W) x w) (g : Glob w0 ae a2 m)
    (hl1 : x.line + 1 + nlR (f :: t) ≤ 1000000000) (hl2 : (encR (f :: t) ++ W).length ≤ 200000000) (hl3 : (f :: t).flatten.length ≤ 500000000) (hl4 : t.length ≤ 100000000) (hfd : x.fields = 0 ∨ x.fields = t.length + 1) :
    Calls Tryf.prog 32 #[.pointer (some ⟨c, 0, none⟩)] w fun e w' => ∃ v x', e = .returned (.tuple #[v, .nilIface]) ∧ CSt w0 c k row s W x' w' ∧ x'.rc = v ∧ x'.Q = f :: t ∧ x'.line = x.line + 1 + nlR (f :: t) ∧ x'.start = x.line + 1 ∧ x'.fields = t.length + 1 := by
  have h10 : (10 : UInt8) ∈ encR (f :: t) ++ W := List.mem_append_left _ (encR_nl _)
  obtain ⟨q0, X', hX', hq13, hq10⟩ := encR_head f t
  have H := hid h
  clear h
  go_enter Tryf.func32, Tryf.ntmps32
  go_wp2_with fail
  refine (readLine_c w0 c k row s _ x ae a2 m w H.out g h10 (by omega) hl2).mono ?_
  rintro e w1 ⟨v1, b1, lg1, L1, rfl, hline, hb1, hst1⟩
  obtain ⟨o, cc, rfl, hlc, hcm, hcell⟩ := hline.form
  obtain ⟨l, hl⟩ : ∃ l, ln (encR (f :: t) ++ W) = l := ⟨_, rfl⟩
  obtain ⟨qt, hqt⟩ : ∃ qt, tb l = q0 :: qt := by
    rw [← hl, hX', List.cons_append, ln_cons hq10]
    exact tb_head hq13 hq10 _
  have H1 := hid hst1
  have HLN := hid hline
  have HB1 := hid hb1
  rw [hl] at hlc hcell ⊢
  obtain ⟨n, hn⟩ : ∃ n, l.length = n := ⟨_, rfl⟩
  obtain ⟨nt, hnt⟩ : ∃ nt, (tb l).length = nt := ⟨_, rfl⟩
  have hnt1 : 1 ≤ nt := by rw [← hnt, hqt]; simp
  have hntb : ((nt : Int) == 0) = false := beq_eq_false_iff_ne.2 (by omega)
  have HC := hid hcell
  have HL := hid (And.intro hl (And.intro hn hnt))
  have hlc' := hlc
  rw [hn] at hlc ⊢
  clear hst1 hb1 hline hcell hl hn hnt hqt H
  go_wp2_with fail
  go_loopg [4, 5] 0 (fun gk s4 s5 wx => s4 = .slice (some ⟨b1, o, none⟩) n cc ∧ s5 = .nilIface ∧ w1 = wx)
  case atStart => exact ⟨rfl, rfl, rfl⟩
  case round =>
    obtain ⟨rfl, rfl, rfl⟩ := hrel
    go_wp2_with fail
    refine (trim_c b1 o n cc l w1 HL.out.2.1 hlc' hcm HC.out).mono ?_
    rintro e w2 ⟨rfl, hb2⟩
    rw [HL.out.2.2]
    have H2 := hid (H1.out.below hb2)
    have HLN2 := hid (HLN.out.below hb2)
    clear hb2 H1 HLN
    have d1 : w2.cell? ⟨c, 1, none⟩ = some (.int .i64 ((x.line + 1 : Nat) : Int)) := H2.out.cell 1 _ rfl
    have d2 : w2.cell? ⟨c, 2, none⟩ = some (.int .i64 (x.start : Nat)) := H2.out.cell 2 _ rfl
    have f2 : w2.frozen? ⟨c, 2, none⟩ = false := H2.out.frozen 2
    go_wp2_with fail
    have H3 := hid (H2.out.store 2 (.int .i64 ((x.line : Int) + 1)) { x with line := x.line + 1, start := x.line + 1, lg := lg1, L := L1 } (by simp [Cv.cells]) rfl rfl rfl rfl rfl rfl rfl rfl)
    have HLN3 := hid (HLN2.out.kept (Z := (· = c)) (Kept.setCell (S := (· = c)) (Kept.refl _ _) ⟨c, 2, none⟩ rfl (.int .i64 ((x.line : Int) + 1))) (H2.out.apart HB1.out).1)
    obtain ⟨w3, hw3⟩ : ∃ w3, w2.setCell ⟨c, 2, none⟩ (.int .i64 ((x.line : Int) + 1)) = w3 := ⟨_, rfl⟩
    rw [hw3] at H3 HLN3 ⊢
    clear hw3 H2 HLN2 d1 d2 f2
    obtain ⟨tx0, hsl5, hown5, hob5⟩ := own_zero H3.out.otx 43 Tryf.underlying43 Tryf.sizeOf5
    obtain ⟨en0, hsl6, hown6, hob6⟩ := own_zero H3.out.oen 39 Tryf.underlying39 Tryf.sizeOf3
    obtain ⟨tao, tcap, rfl⟩ := own_form hown5
    obtain ⟨eao, ecap, rfl⟩ := own_form hown6
    have d5 : w3.cell? ⟨c, 5, none⟩ = some x.tx := H3.out.cell 5 _ rfl
    have d6 : w3.cell? ⟨c, 6, none⟩ = some x.en := H3.out.cell 6 _ rfl
    have f5 : w3.frozen? ⟨c, 5, none⟩ = false := H3.out.frozen 5
    have f6 : w3.frozen? ⟨c, 6, none⟩ = false := H3.out.frozen 6
    have HO5 := hid (And.intro hown5 hob5)
    have HO6 := hid (And.intro hown6 hob6)
    clear hown5 hob5 hown6 hob6
    go_region
    have h4 := H3.out.reset HO5.out.1 HO5.out.2 HO6.out.1 HO6.out.2
    have hap3 := H3.out.apart HB1.out
    have H4 := hid h4.1
    have HLN4 := hid (HLN3.out.kept h4.2 (fun e => by rcases e with e | e | e; exact hap3.1 e; exact hap3.2.1 e; exact hap3.2.2 e))
    obtain ⟨w4, hw4⟩ : ∃ w4, ((w3.setCell ⟨c, 5, none⟩ (.slice tao 0 tcap)).setCell ⟨c, 6, none⟩ (.slice eao 0 ecap)).drew = w4 := ⟨_, rfl⟩
    rw [hw4] at H4 HLN4 ⊢
    clear hw4 h4 hap3 HO5 HO6 d5 d6 f5 f6 hsl5 hsl6 H3 HLN3
    have henc : encR (f :: t) ++ W = encF t.isEmpty f ++ (encT t.isEmpty t ++ W) := by rw [encR, List.append_assoc]
    rw [henc] at H4 HLN4 hl2
    obtain ⟨one, hone⟩ : ∃ one, t.isEmpty = one := ⟨_, rfl⟩
    rw [hone] at H4 HLN4 hl2
    have HLn := hid (And.intro HL.out.1 HL.out.2.1)
    rw [henc, hone] at HLn
    rw [HLn.out.1, HLn.out.2] at HLN4
    clear HL HC henc hone hX' hlc' h10
    go_wp2_with fail
    go_loopg [4, 5, 6, 7] (t.length + 1) (fun gk s4 s5 s6 s7 wx => s5 = .nilIface ∧ (
      (∃ (done : List (List UInt8)) (fr : List UInt8) (tr : List (List UInt8)) (b : Nat) (lg tx en : Value) (L : List UInt8), f :: t = done ++ fr :: tr ∧ LineAt b s4 (ln (encF one fr ++ (encT one tr ++ W))) wx ∧ (b = row ∨ lg.ownBlock = some b) ∧ s7 = .bool true ∧ s6 = .int .i64 ((done.length + 1 : Nat) : Int) ∧
        CSt w0 c k row s (rs (encF one fr ++ (encT one tr ++ W))) { x with line := x.line + 1 + nlR done, start := x.line + 1, lg := lg, L := L, tx := tx, T := done.flatten, en := en, E := cum done } wx ∧ gk = tr.length + 1 ∧ (encF one fr ++ (encT one tr ++ W)).length ≤ 200000000) ∨
      (∃ (lg tx en : Value) (L : List UInt8), s7 = .bool false ∧ gk = 0 ∧ CSt w0 c k row s W { x with line := x.line + 1 + nlR (f :: t), start := x.line + 1, lg := lg, L := L, tx := tx, T := (f :: t).flatten, en := en, E := cum (f :: t) } wx)))
    case atStart => exact ⟨rfl, Or.inl ⟨[], f, t, b1, lg1, _, _, L1, rfl, by rw [HLn.out.1]; exact HLN4.out, HB1.out, rfl, rfl, H4.out, rfl, hl2⟩⟩
    case round =>
      clear H4 HLN4 HLn HB1
      obtain ⟨rfl, hcase⟩ := hrel
      rcases hcase with ⟨done, fr, tr, b, lg, tx, en, L, hft, hline, hb, rfl, rfl, hst, hgk, hlX⟩ | ⟨lg, tx, en, L, rfl, rfl, hst⟩
      · have H1 := hid hst
        have HLI := hid hline
        have HB := hid hb
        have HFT := hid hft
        have HGK := hid hgk
        have hnl : nlR done + nls fr + nlR tr = nlR (f :: t) := by rw [hft, nlR_append]; simp [nlR]; omega
        have hfl : done.flatten.length + fr.length + tr.flatten.length = (f :: t).flatten.length := by rw [hft]; simp; omega
        have hdl : done.length + 1 + tr.length = t.length + 1 := by
          have := congrArg List.length hft
          simp at this
          omega
        clear hst hline hb hft hgk
        go_wp2_with fail
        refine (field_any w0 c k row s one fr tr W _ ae a2 m b _ _ wr H1.out g HLI.out HB.out (by show x.line + 1 + nlR done + nls fr ≤ 1000000000; omega) hlX (by show done.flatten.length + fr.length ≤ 500000000; omega)).mono ?_
        rintro e w5 ⟨v5, mo, lg5, L5, tx5, R5, rfl, hst5, hmo⟩
        have h5 : CSt w0 c k row s R5 { x with line := x.line + 1 + nlR done + nls fr, start := x.line + 1, lg := lg5, L := L5, tx := tx5, T := done.flatten ++ fr, en := en, E := cum done } w5 := hst5
        obtain ⟨n5, tao5, tcap5, htx5, hn5⟩ : ∃ n5 ao cap, tx5 = .slice ao n5 cap ∧ n5 = (done.flatten ++ fr).length := by
          obtain ⟨ao, cap, h9⟩ := own_form h5.otx
          exact ⟨_, ao, cap, h9, rfl⟩
        subst htx5
        have h5a : CSt w0 c k row s R5 _ ((w5.alloc (.cells #[.int .i64 (n5 : Nat)] 3)).drew) := (h5.below ((Below.refl w5.heap.size w5).alloc (Nat.le_refl _) (.cells #[.int .i64 (n5 : Nat)] 3))).below ⟨rfl, rfl, rfl, Nat.le_refl _, fun _ _ => rfl⟩
        obtain ⟨ao6, n6, co6, w6, happ, hown6, hgr6, hwh6⟩ := app_int ((w5.alloc (.cells #[.int .i64 (n5 : Nat)] 3)).drew) w0.heap.size _ (cum done) n5 h5a.oen ⟨w5.heap.size, 0, none⟩ (by rw [WideShapes.add_plain]; exact (Lib.cell_of_heap (heap_alloc_new w5 (.cells #[.int .i64 (n5 : Nat)] 3)) 0).trans rfl) (by rw [cum_length]; omega) h5a.bel.size
        have hset := h5a.setEnds (E' := cum done ++ [n5]) hown6 (Kept.grown hgr6) hwh6
        have hcb := (Kept.grown hgr6).heap h5a.hc (own_ne h5a.oen h5a.hc (by decide))
        have H6 := hid hset.1
        have HK6 := hid (show Kept (fun b => b = c ∨ en.ownBlock = some b) w5 (w6.setCell ⟨c, 6, none⟩ (.slice ao6 n6 co6)) from (((Kept.refl _ w5).alloc (.cells #[.int .i64 (n5 : Nat)] 3)).drewN 1).trans hset.2)
        have H5 := hid h5
        have HAP := hid happ
        have HMO := hid hmo
        have HN5 := hid hn5
        have d5 : w5.cell? ⟨c, 5, none⟩ = some (.slice tao5 n5 tcap5) := h5.cell 5 _ rfl
        have d6 : w5.cell? ⟨c, 6, none⟩ = some en := h5.cell 6 _ rfl
        have d5a : (w5.alloc (.cells #[.int .i64 (n5 : Nat)] 3)).cell? ⟨c, 5, none⟩ = some (.slice tao5 n5 tcap5) := h5a.cell 5 _ rfl
        have d6a : (w5.alloc (.cells #[.int .i64 (n5 : Nat)] 3)).cell? ⟨c, 6, none⟩ = some en := h5a.cell 6 _ rfl
        have e6 : w6.cell? ⟨c, 6, none⟩ = some en := by rw [Lib.cell_of_heap hcb]; rfl
        have f6 : w6.frozen? ⟨c, 6, none⟩ = false := Lib.frozen_of_heap hcb 6
        clear hst5 h5 h5a happ hown6 hgr6 hwh6 hset hcb hmo hn5
        go_wp2_with fail
        go_region_law (refine step_append_eq rfl (.tmp 74) (.tmp 80) 39 rfl _ _ _ w6 (by simp [Act.eval, Act.put]) (by simp [Act.eval, Act.put]) HAP.out ?_)
        all_goals
          clear d5 d6 d5a d6a e6 f6 HAP H1 HLI HB
          have hdl9 : (done.length : Int) ≤ 100000000 := by omega
          go_wp2_with fail
          go_roundg tr.length
          case measure => rw [HGK.out]; omega
          case rel =>
            refine ⟨rfl, ?_⟩
            have hn5 := HN5.out
            rw [← flat_snoc] at hn5
            have h6 := H6.out
            rw [hn5, ← cum_snoc, ← flat_snoc, Nat.add_assoc, ← nlR_snoc] at h6
            rcases HMO.out with ⟨h1, h2, h3⟩ | ⟨f2, t2, b', h1, h2, h3, h4, h5⟩
            · refine Or.inr ⟨lg5, .slice tao5 n5 tcap5, .slice ao6 n6 co6, L5, by rw [h2], by rw [h1]; rfl, ?_⟩
              have e1 : f :: t = done ++ [fr] := by rw [HFT.out, h1]
              rw [e1, ← h3, hn5]
              exact h6
            · refine Or.inl ⟨done ++ [fr], f2, t2, b', lg5, .slice tao5 n5 tcap5, .slice ao6 n6 co6, L5, ?_, ?_, h5, by rw [h2], ?_, ?_, by rw [h1]; rfl, ?_⟩
              · rw [HFT.out, h1]; simp
              · have hap5 := H5.out.apart h5
                exact h4.kept HK6.out (fun e => by rcases e with e | e; exact hap5.1 e; exact hap5.2.2 e)
              · simp
              · rw [← h3, hn5]; exact h6
              · have h9 : encT one tr = 44 :: (encF one f2 ++ encT one t2) := by rw [h1]; rfl
                have h8 := hlX
                rw [h9] at h8
                simp at h8 ⊢
                omega
      · obtain ⟨F, hF⟩ : ∃ F, f :: t = F := ⟨_, rfl⟩
        have hFl : F.length = t.length + 1 := by rw [← hF]; rfl
        rw [hF] at hst hl1 hl3
        have HFF := hid hF
        clear hF
        obtain ⟨nF, hnF⟩ : ∃ nF, F.length = nF := ⟨_, rfl⟩
        obtain ⟨ge, ecap, hen⟩ := row_own hst.oen (by rw [cum_length, hFl]; omega)
        have hen' : en = .slice (some ⟨ge, 0, none⟩) nF ecap := by
          have h9 : en = .slice (some ⟨ge, 0, none⟩) (cum F).length ecap := hen
          rw [cum_length, hnF] at h9
          exact h9
        subst hen'
        have H1 := hid hst
        have HF := hid (And.intro hnF hFl)
        clear hst hen
        have d3 : wr.cell? ⟨c, 3, none⟩ = some (.int .i64 (x.fields : Nat)) := H1.out.cell 3 _ rfl
        have d6 : wr.cell? ⟨c, 6, none⟩ = some (.slice (some ⟨ge, 0, none⟩) nF ecap) := H1.out.cell 6 _ rfl
        have f3 : wr.frozen? ⟨c, 3, none⟩ = false := H1.out.frozen 3
        have HFD := hid hfd
        clear hnF hFl hfd
        rcases HFD.out with hf0 | hf1
        case' inl =>
          rw [hf0] at d3
          go_upto_region 19 with fail
          have H6 := hid (H1.out.store 3 (.int .i64 (nF : Nat)) { x with line := x.line + 1 + nlR F, start := x.line + 1, fields := nF, lg := lg, L := L, tx := tx, T := F.flatten, en := .slice (some ⟨ge, 0, none⟩) nF ecap, E := cum F } (by simp [Cv.cells]) rfl rfl rfl rfl rfl rfl rfl rfl)
          obtain ⟨w6, hw6⟩ : ∃ w6, wr.setCell ⟨c, 3, none⟩ (.int .i64 (nF : Nat)) = w6 := ⟨_, rfl⟩
          rw [hw6] at H6 ⊢
          clear hw6 H1 d3 d6 f3 hf0
        case' inr =>
          have hfn : x.fields = nF := by have := HF.out; omega
          have hneq : ((nF : Int) != (nF : Int)) = false := by simp
          have hfz : ((nF : Int) == 0) = false := beq_eq_false_iff_ne.2 (by have := HF.out; omega)
          rw [hfn] at d3
          go_wp2_with fail
          go_quiet (fail)
          go_upto_region 19 with fail
          have h6 := H1.out.below (w' := wr.drewN nq) ⟨rfl, rfl, rfl, Nat.le_refl _, fun _ _ => rfl⟩
          rw [hfn] at h6
          have H6 := hid h6
          obtain ⟨w6, hw6⟩ : ∃ w6, wr.drewN nq = w6 := ⟨_, rfl⟩
          rw [hw6] at H6 ⊢
          clear hw6 h6 H1 d3 d6 f3 hf1 hfn hneq hfz
        all_goals
          have hcv := conv_own H6.out.otx
          obtain ⟨rc0, hsl7, hown7, hob7⟩ := own_zero H6.out.orc 24 Tryf.underlying24 Tryf.sizeOf9
          obtain ⟨rao, rcap, rfl⟩ := own_form hown7
          have d5 : w6.cell? ⟨c, 5, none⟩ = some tx := H6.out.cell 5 _ rfl
          have d7 : w6.cell? ⟨c, 7, none⟩ = some x.rc := H6.out.cell 7 _ rfl
          have f7 : w6.frozen? ⟨c, 7, none⟩ = false := H6.out.frozen 7
          have hset := H6.out.setRec (v' := .slice rao 0 rcap) (Q' := []) (w1 := w6) hown7 (Kept.refl _ _) (fun b e => Or.inl (hob7 ▸ e))
          have H7 := hid hset.1
          have d6 : (w6.setCell ⟨c, 7, none⟩ (.slice rao 0 rcap)).cell? ⟨c, 6, none⟩ = some (.slice (some ⟨ge, 0, none⟩) nF ecap) := H7.out.cell 6 _ rfl
          clear hset hown7 hob7
          obtain ⟨FT, hFT⟩ : ∃ FT, (⟨F.flatten.toArray⟩ : ByteArray) = FT := ⟨_, rfl⟩
          have HFT := hid hFT
          have hcv2 : (convert 43 9 tx).run Tryf.prog w6 = .ok (.string FT) w6 := by rw [← hFT]; exact hcv
          clear hcv hFT
          go_wp2_with fail
          go_loopg [9, 145] nF (fun gk s9 s145 wx => ∃ (i : Nat) (rc : Value), s145 = .int .i64 (i : Nat) ∧ s9 = .int .i64 (((F.take i).flatten.length : Nat) : Int) ∧ i ≤ nF ∧ gk = nF - i ∧
            CSt w0 c k row s W { x with line := x.line + 1 + nlR F, start := x.line + 1, fields := nF, lg := lg, L := L, tx := tx, T := F.flatten, en := .slice (some ⟨ge, 0, none⟩) nF ecap, E := cum F, rc := rc, Q := F.take i } wx)
          case atStart => exact ⟨0, .slice rao 0 rcap, rfl, rfl, Nat.zero_le _, rfl, by simpa using H7.out⟩
          case round =>
            clear H7 H6 d5 d6 d7 f7 hsl7 hcv2
            obtain ⟨i, rc, rfl, rfl, hi, hgk, hst⟩ := hrel
            have H8 := hid hst
            have HGK := hid hgk
            clear hst hgk
            have hi9 : (i : Int) ≤ 100000001 := by have := HF.out; omega
            by_cases hlt : i < nF
            · obtain ⟨fi, hfi⟩ : ∃ fi, F[i]? = some fi := ⟨_, List.getElem?_eq_getElem (by have := HF.out; omega)⟩
              have hext := ext_field F i fi hfi
              rw [HFT.out] at hext
              have htk := take_flat F i fi hfi
              have hce : wr.cell? ⟨ge, i, none⟩ = some (.int .i64 (((F.take (i + 1)).flatten.length : Nat) : Int)) := by
                have h9 := H8.out.oen.cells (g := ge) rfl i (numV (F.take (i + 1)).flatten.length) (by
                  show ((cum F).map numV)[i]? = _
                  rw [List.getElem?_map, cum_at F i (by have := HF.out; omega)]; rfl)
                rw [WideShapes.add_plain, Nat.zero_add] at h9
                exact h9
              have hle : (F.take (i + 1)).flatten.length ≤ F.flatten.length := by
                have h9 := congrArg List.length (congrArg List.flatten (List.take_append_drop (i + 1) F))
                rw [List.flatten_append, List.length_append] at h9
                omega
              have hFs : FT.size = F.flatten.length := by rw [← HFT.out, Lib.size_eq]
              obtain ⟨a, ha⟩ : ∃ a, (F.take i).flatten.length = a := ⟨_, rfl⟩
              obtain ⟨bb, hbb⟩ : ∃ bb, (F.take (i + 1)).flatten.length = bb := ⟨_, rfl⟩
              have hab : a ≤ bb := by rw [← ha, ← hbb, htk.1, List.length_append]; omega
              rw [ha, hbb] at hext
              rw [hbb] at hce hle
              rw [ha]
              have hs1 : (a : Int) ≤ (bb : Int) := by omega
              have hs2 : (bb : Int) ≤ (FT.size : Int) := by omega
              have hlt9 : (i : Int) < (nF : Int) := by omega
              have h8a : CSt w0 c k row s W _ ((wr.alloc (.cells #[.string ⟨fi.toArray⟩] 9)).drew) := (H8.out.below ((Below.refl wr.heap.size wr).alloc (Nat.le_refl _) (.cells #[.string ⟨fi.toArray⟩] 9))).below ⟨rfl, rfl, rfl, Nat.le_refl _, fun _ _ => rfl⟩
              obtain ⟨ao6, n6, co6, w7, happ, hown6, hgr6, hwh6⟩ := app_str ((wr.alloc (.cells #[.string ⟨fi.toArray⟩] 9)).drew) w0.heap.size _ (F.take i) fi h8a.orc ⟨wr.heap.size, 0, none⟩ (by rw [WideShapes.add_plain]; exact (Lib.cell_of_heap (heap_alloc_new wr (.cells #[.string ⟨fi.toArray⟩] 9)) 0).trans rfl) (by rw [List.length_take]; have := HF.out; omega) h8a.bel.size
              have hset := h8a.setRec (Q' := F.take i ++ [fi]) hown6 (Kept.grown hgr6) hwh6
              have hcb := (Kept.grown hgr6).heap h8a.hc (own_ne h8a.orc h8a.hc (by decide))
              have H9 := hid hset.1
              have HAP := hid happ
              have d7 : wr.cell? ⟨c, 7, none⟩ = some rc := H8.out.cell 7 _ rfl
              have d7a : (wr.alloc (.cells #[.string ⟨fi.toArray⟩] 9)).cell? ⟨c, 7, none⟩ = some rc := h8a.cell 7 _ rfl
              have e7 : w7.cell? ⟨c, 7, none⟩ = some rc := by rw [Lib.cell_of_heap hcb]; rfl
              have f7 : w7.frozen? ⟨c, 7, none⟩ = false := Lib.frozen_of_heap hcb 7
              have HAB := hid (And.intro ha (And.intro hbb (And.intro htk hfi)))
              clear h8a happ hown6 hgr6 hwh6 hset hcb ha hbb htk hfi hFs hle
              go_wp2_with fail
              go_region_law (refine step_append_eq rfl (.tmp 153) (.tmp 158) 24 rfl _ _ _ w7 (by simp [Act.eval, Act.put]) (by simp [Act.eval, Act.put]) HAP.out ?_)
              all_goals
                clear d7 d7a e7 f7 HAP hce hext
                go_wp2_with fail
                go_roundg (nF - (i + 1))
                case measure => rw [HGK.out]; omega
                case rel =>
                  refine ⟨i + 1, .slice ao6 n6 co6, rfl, ?_, hlt, rfl, ?_⟩
                  · rw [HAB.out.2.1]
                  · rw [HAB.out.2.2.1.2]; exact H9.out
            · obtain rfl : i = nF := by omega
              have d7 : wr.cell? ⟨c, 7, none⟩ = some rc := H8.out.cell 7 _ rfl
              go_wp2_with fail
              go_ret2
              refine ⟨rc, _, rfl, H8.out, rfl, ?_, ?_, rfl, ?_⟩
              · show F.take i = f :: t
                rw [HFF.out, List.take_of_length_le (by have := HF.out; omega)]
              · show x.line + 1 + nlR F = _
                rw [HFF.out]
              · show i = t.length + 1
                have := HF.out
                omega
end Go.Proofs.Qxb6613956aFmt
