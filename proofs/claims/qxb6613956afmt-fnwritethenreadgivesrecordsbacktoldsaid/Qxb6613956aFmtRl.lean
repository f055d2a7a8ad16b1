/-
  csv: readLine (34).
-/
import Derived.Test.Qxb6613956aFmtTb
import Derived.LaidEql
namespace Go.Proofs.Qxb6613956aFmt
open Go.RowKit Go.Shelf
set_option linter.unusedSimpArgs false

/-- The listed variables that the road reads: io.EOF, bufio.ErrBufferFull, bytealg.MaxLen. -/
structure Glob (w0 : World) (ae a2 : Addr) (m : Int) : Prop where
  g0 : w0.cell? ⟨0, 0, none⟩ = some (.iface 129 (.pointer (some ae)))
  g2 : w0.cell? ⟨2, 0, none⟩ = some (.iface 129 (.pointer (some a2)))
  g5 : w0.cell? ⟨5, 0, none⟩ = some (.int .i64 m)
  l5 : 5 < w0.heap.size
  ne : ae ≠ a2
  be : ∃ cs t, w0.heap[ae.block]? = some (.cells cs t (0, 0))
  b2 : ∃ cs t, w0.heap[a2.block]? = some (.cells cs t (0, 0))
section
variable {w0 w : World} {ae a2 : Addr} {m : Int}
theorem Glob.c0 (g : Glob w0 ae a2 m) (h : Below w0.heap.size w0 w) : w.cell? ⟨0, 0, none⟩ = some (.iface 129 (.pointer (some ae))) := (World.cell?_of_block (a := ⟨0, 0, none⟩) (h.block 0 (by have := g.l5; omega))).trans g.g0
theorem Glob.c2 (g : Glob w0 ae a2 m) (h : Below w0.heap.size w0 w) : w.cell? ⟨2, 0, none⟩ = some (.iface 129 (.pointer (some a2))) := (World.cell?_of_block (a := ⟨2, 0, none⟩) (h.block 2 (by have := g.l5; omega))).trans g.g2
theorem Glob.c5 (g : Glob w0 ae a2 m) (h : Below w0.heap.size w0 w) : w.cell? ⟨5, 0, none⟩ = some (.int .i64 m) := (World.cell?_of_block (a := ⟨5, 0, none⟩) (h.block 5 g.l5)).trans g.g5
end
theorem errComp : (Tryf.prog.info? 129).map (·.comparable) = some true := by kernel_rfl
theorem errSize : (Tryf.prog.info? 131).map (·.size) = some 1 := by kernel_rfl
theorem eq_same (a : Addr) (w : World) : (binOp .eql 55 (.iface 129 (.pointer (some a))) (.iface 129 (.pointer (some a)))).run Tryf.prog w = .ok (.bool true) w := by
  obtain ⟨i, hi, hc⟩ := Option.map_eq_some_iff.1 errComp
  obtain ⟨j, hj, hjs⟩ := Option.map_eq_some_iff.1 errSize
  exact run_eql_iface_ptr_same (P := Tryf.prog) w a Tryf.underlying55 Tryf.underlying129 hi hc hj
theorem eq_other {w0 : World} {ae a2 : Addr} {m : Int} (g : Glob w0 ae a2 m) (w : World) (h : Below w0.heap.size w0 w) : (binOp .eql 55 (.iface 129 (.pointer (some ae))) (.iface 129 (.pointer (some a2)))).run Tryf.prog w = .ok (.bool false) w := by
  obtain ⟨i, hi, hc⟩ := Option.map_eq_some_iff.1 errComp
  obtain ⟨j, hj, hjs⟩ := Option.map_eq_some_iff.1 errSize
  obtain ⟨c1, t1, h1⟩ := g.be
  obtain ⟨c2, t2, h2⟩ := g.b2
  exact run_eql_iface_ptr_other (P := Tryf.prog) w Tryf.underlying55 Tryf.underlying129 hi hc hj (by rw [hjs]; decide) g.ne ((h.block _ (lt_heap h1)).trans h1) ((h.block _ (lt_heap h2)).trans h2)
theorem eq_nil (a : Addr) (w : World) : (binOp .eql 55 .nilIface (.iface 129 (.pointer (some a)))).run Tryf.prog w = .ok (.bool false) w := run_eql_iface_nil_left w 129 _ Tryf.underlying55

/-- append of bytes onto a row of the call's own. -/
theorem app_bytes (w : World) (base : Nat) (v : Value) (T y : List UInt8) (a : Addr) (m c : Nat) (hown : w.ownsRow base 5 1 v T.length (Lib.byteCells T)) (hm : y.length = m) (hy : ∀ j u, (Lib.byteCells y)[j]? = some u → w.cell? (a.add j) = some u)
    (hb : T.length + m ≤ 1000000000) (hbase : base ≤ w.heap.size) :
    ∃ v' w', (Builtin.append_ #[43, 43] 43 #[v, .slice (some a) m c]).run Tryf.prog w = .ok v' w' ∧ w'.ownsRow base 5 1 v' (T ++ y).length (Lib.byteCells (T ++ y)) ∧ w.grownBy w' v.ownBlock ∧ (∀ k, v'.ownBlock = some k → v.ownBlock = some k ∨ w.heap.size ≤ k) := by
  obtain ⟨i0, hi, hz0, hz1, hz2⟩ := info_parts Tryf.info5
  obtain ⟨v', w', h1, h2, h3, h4⟩ := run_append_own2 (P := Tryf.prog) w base 43 43 5 i0 (.int .u8 0) 1 1 Tryf.underlying43 hi hz0 hz1 hz2 rfl (by decide) v T.length (Lib.byteCells T) hown a m c (Lib.byteCells y) (by rw [Lib.byteCells_length]; omega) hy (Lib.byteCells_one y) (by unfold maxLen; omega) (by omega) hbase
  refine ⟨v', w', h1, ?_, h3, h4⟩
  rw [List.length_append, Lib.byteCells_append, hm]
  exact h2
theorem own_form {w : World} {base t sz n : Nat} {v : Value} {xs : List Value} (h : w.ownsRow base t sz v n xs) : ∃ ao cap, v = .slice ao n cap := by
  rcases h.2 with ⟨rfl, rfl⟩ | ⟨g, cap, cur, rfl, _⟩
  · exact ⟨_, _, rfl⟩
  · exact ⟨_, _, rfl⟩
/-- 'x[:0]' of a row of the call's own. -/
theorem own_zero {w : World} {base t sz n : Nat} {v : Value} {xs : List Value} (h : w.ownsRow base t sz v n xs) (T : TypeId) (hT : Tryf.prog.underlying T = some (.slice t)) (hz : ∀ w, (Go.sizeOf t).run Tryf.prog w = .ok 1 w) :
    ∃ v', (∀ W, (Instr.slice T v none (some (.int .i64 0)) none).run Tryf.prog W = .ok v' W) ∧ w.ownsRow base t sz v' 0 [] ∧ v'.ownBlock = v.ownBlock := by
  have he : Tryf.prog.elem T = t := by simp [Program.elem, hT]
  have hT' : Tryf.prog.underlying T = some (.slice (Tryf.prog.elem T)) := by rw [he]; exact hT
  rcases h.2 with ⟨rfl, rfl⟩ | ⟨g, cap, cur, rfl, hbg, hg, hnc, hcm, hcs, htk⟩
  · refine ⟨.slice none 0 0, fun W => ?_, World.ownsRow_nil _ _ _ _, rfl⟩
    rw [run_slice_h W T _ _ _ hT' .i64 0 (by omega) (by omega), he, hz]
    simp [Result.andThen, sliced]
  · refine ⟨.slice (some ⟨g, 0, none⟩) 0 cap, fun W => ?_, ⟨by simp, Or.inr ⟨g, cap, cur, rfl, hbg, hg, Nat.zero_le _, hcm, hcs, by simp⟩⟩, rfl⟩
    rw [run_slice_h W T _ _ _ hT' .i64 0 (by omega) (by omega), he, hz]
    simp [Result.andThen, sliced, Addr.add]

/-- A row of the call's own is a line. -/
theorem line_own {w : World} {base : Nat} {v : Value} {T : List UInt8} (h : w.ownsRow base 5 1 v T.length (Lib.byteCells T)) (hT : T ≠ []) : ∃ g, v.ownBlock = some g ∧ LineAt g v T w := by
  rcases h.2 with ⟨rfl, h0⟩ | ⟨g, cap, cur, rfl, hbg, hg, hnc, hcm, hcs, htk⟩
  · exact absurd (List.eq_nil_of_length_eq_zero h0) hT
  · refine ⟨g, rfl, 0, cap, rfl, hnc, hcm, fun j u hj => ?_⟩
    have h9 := h.cells (g := g) rfl j u hj
    rw [WideShapes.add_plain] at h9
    exact h9
theorem not_take {R : List UInt8} (h10 : (10 : UInt8) ∈ R) (hsh : 4096 < (ln R).length) : (10 : UInt8) ∉ R.take 4096 ∧ (R.take 4096).length = 4096 ∧ (10 : UInt8) ∈ R.drop 4096 := by
  obtain ⟨l, h1, h2, h3⟩ := ln_split h10
  rw [h1, List.length_append, List.length_singleton] at hsh
  have hn : (10 : UInt8) ∉ R.take 4096 := by
    rw [h3, List.take_append_of_le_length (by omega)]
    exact fun e => h2 (List.mem_of_mem_take e)
  refine ⟨hn, ?_, ?_⟩
  · have := congrArg List.length h3
    rw [List.length_append] at this
    rw [List.length_take]; omega
  · have h9 := h10
    rw [← List.take_append_drop 4096 R, List.mem_append] at h9
    exact h9.resolve_left hn
/-- append, by the equation of its run. -/
theorem wpList_append_eq {P : Program} (w : World) {ops : Array Oper} {rest : List Oper} {o : Oper} {a : Act} {Q : Exit → Act → World → Prop} (hgd : o.guard = none) (s x : Operand) (t : TypeId)
    (ho : o.op = .call { callee := .builtin .append, args := #[s, x], argTypes := #[t, t] }) (vs vx v' : Value) (w' : World) (hs : a.eval s = vs) (hx : a.eval x = vx) (hr : (Builtin.append_ #[t, t] o.type #[vs, vx]).run P w = .ok v' w')
    (h : wpList P ops Q rest (a.put o.dst v') w') : wpList P ops Q (o :: rest) a w := by
  refine wpList_plain hgd fun K hK => ?_
  unfold Oper.wp execOp
  simp only [ho, resolve, invoke, builtin, Sem.run_bind, Sem.run_pure, Result.andThen_ok, List.map_toArray, List.map_cons, List.map_nil, hs, hx, hr]
  exact hK _ _ h

set_option maxHeartbeats 3200000 in
set_option maxRecDepth 100000 in
/-- readLine, a line short enough for the row. -/
theorem readLine_short (w0 : World) (c k row s : Nat) (R : List UInt8) (x : Cv) (ae a2 : Addr) (m : Int) (w : World) (h : CSt w0 c k row s R x w) (g : Glob w0 ae a2 m) (h10 : (10 : UInt8) ∈ R) (hl : x.line ≤ 1000000000) (hsh : (ln R).length ≤ 4096) :
    Calls Tryf.prog 34 #[.pointer (some ⟨c, 0, none⟩)] w fun e w' => ∃ v, e = .returned (.tuple #[v, .nilIface]) ∧ LineAt row v (ln R) w' ∧ CSt w0 c k row s (rs R) { x with line := x.line + 1 } w' := by
  have c0 : w.cell? ⟨c, 0, none⟩ = some (.pointer (some ⟨k, 0, none⟩)) := h.cell 0 _ rfl
  have H := hid h
  clear h
  have hn2 := eq_nil a2
  have hn0 := eq_nil ae
  go_enter Tryf.func34, Tryf.ntmps34
  go_wp2_with fail
  refine (readSlice_c w0 k row s R 129 ae _ w H.out.rd h10 (g.c0 H.out.bel) (g.c2 H.out.bel) (by have := g.l5; omega)).mono ?_
  rintro e w1 ⟨v, hA, hB, hk⟩
  obtain ⟨rfl, hL, hr⟩ := hA hsh
  have H1 := hid (H.out.read hk hr)
  have HL := hid hL
  clear hA hB hk hL hr
  have d2 : w1.cell? ⟨2, 0, none⟩ = some (.iface 129 (.pointer (some a2))) := g.c2 H1.out.bel
  have d0 : w1.cell? ⟨0, 0, none⟩ = some (.iface 129 (.pointer (some ae))) := g.c0 H1.out.bel
  have d1 : w1.cell? ⟨c, 1, none⟩ = some (.int .i64 (x.line : Nat)) := H1.out.cell 1 _ rfl
  have f1 : w1.frozen? ⟨c, 1, none⟩ = false := H1.out.frozen 1
  have hl9 : (x.line : Int) ≤ 1000000000 := by omega
  go_wp2_with fail
  go_ret2
  exact ⟨v, rfl, HL.out.kept (Z := (· = c)) (Kept.setCell (S := (· = c)) (Kept.refl _ _) ⟨c, 1, none⟩ rfl _) H1.out.crow, H1.out.store 1 _ _ (by simp [Cv.cells]) rfl rfl rfl rfl rfl rfl rfl rfl⟩

set_option maxHeartbeats 3200000 in
set_option maxRecDepth 100000 in
/-- readLine, a line longer than the row. -/
theorem readLine_long (w0 : World) (c k row s : Nat) (R : List UInt8) (x : Cv) (ae a2 : Addr) (m : Int) (w : World) (h : CSt w0 c k row s R x w) (g : Glob w0 ae a2 m) (h10 : (10 : UInt8) ∈ R) (hl : x.line ≤ 1000000000) (hR : R.length ≤ 200000000) (hsh : 4096 < (ln R).length) :
    Calls Tryf.prog 34 #[.pointer (some ⟨c, 0, none⟩)] w fun e w' => ∃ v lg b, e = .returned (.tuple #[v, .nilIface]) ∧ LineAt b v (ln R) w' ∧ lg.ownBlock = some b ∧ CSt w0 c k row s (rs R) { x with line := x.line + 1, lg := lg, L := ln R } w' := by
  have c0 : w.cell? ⟨c, 0, none⟩ = some (.pointer (some ⟨k, 0, none⟩)) := h.cell 0 _ rfl
  have H := hid h
  clear h
  have hn2 := eq_nil a2
  have hn0 := eq_nil ae
  have hs2 := eq_same a2
  have h10n : (10 : UInt8) ∉ R.take 4096 := by
    obtain ⟨l, h1, h2, h3⟩ := ln_split h10
    rw [h1, List.length_append, List.length_singleton] at hsh
    rw [h3, List.take_append_of_le_length (by omega)]
    exact fun e => h2 (List.mem_of_mem_take e)
  go_enter Tryf.func34, Tryf.ntmps34
  go_wp2_with fail
  refine (readSlice_c w0 k row s R 129 ae _ w H.out.rd h10 (g.c0 H.out.bel) (g.c2 H.out.bel) (by have := g.l5; omega)).mono ?_
  rintro e w1 ⟨v, hA, hB, hk⟩
  obtain ⟨rfl, hL, hr⟩ := hB hsh
  have h1 := H.out.read hk hr
  obtain ⟨lg0, hsl, hown0, hob0⟩ := own_zero h1.olg 43 Tryf.underlying43 Tryf.sizeOf5
  have hlen4 : (R.take 4096).length = 4096 := by
    have := congrArg List.length (ln_rs R)
    rw [List.length_append] at this
    rw [List.length_take]; omega
  obtain ⟨y, hy⟩ : ∃ y, R.take 4096 = y := ⟨_, rfl⟩
  obtain ⟨R1, hR1⟩ : ∃ R1, R.drop 4096 = R1 := ⟨_, rfl⟩
  have hyR : R = y ++ R1 := by rw [← hy, ← hR1, List.take_append_drop]
  rw [hy] at hL h10n hlen4
  rw [hR1] at h1
  obtain ⟨o, cc, rfl, hlc, hcm, hcell⟩ := hL.form
  obtain ⟨ny, hny⟩ : ∃ ny, y.length = ny := ⟨_, rfl⟩
  rw [hny] at hlc hlen4 ⊢
  obtain ⟨lg1, w2, happ, hown1, hgr1, hwh1⟩ := app_bytes w1 w0.heap.size lg0 [] y ⟨row, o, none⟩ ny cc hown0 hny (fun j u hj => by rw [WideShapes.add_plain]; exact hcell j u hj) (by simp; omega) h1.bel.size
  obtain ⟨ao1, co1, rfl⟩ := own_form hown1
  have hset := h1.setLong (L' := y) hown1 (hob0 ▸ hgr1) (hob0 ▸ hwh1)
  have h10R1 : (10 : UInt8) ∈ R1 := by rw [← hR1]; exact (not_take h10 hsh).2.2
  have HY := hid (And.intro hyR (And.intro h10n (And.intro hlen4 (And.intro hny h10R1))))
  have hcb := (Kept.grown hgr1).heap h1.hc (by rw [hob0]; exact own_ne h1.olg h1.hc (by decide))
  have H2 := hid hset.1
  have H1 := hid h1
  clear hA hB hk hr hset h1 hcell hown0 hown1 hgr1 hwh1 hL hob0 hy hR1 hyR h10n hlen4 hny hsh h10R1
  have d2 : w1.cell? ⟨2, 0, none⟩ = some (.iface 129 (.pointer (some a2))) := g.c2 H1.out.bel
  have d4 : w1.cell? ⟨c, 4, none⟩ = some x.lg := H1.out.cell 4 _ rfl
  have d5 : w2.cell? ⟨c, 4, none⟩ = some x.lg := by rw [Lib.cell_of_heap hcb]; rfl
  have f5 : w2.frozen? ⟨c, 4, none⟩ = false := Lib.frozen_of_heap hcb 4
  clear hcb
  have HAP := hid happ
  clear happ
  go_wp2_with (at_builtin; refine wpList_append_eq _ rfl _ _ 43 rfl _ _ _ w2 rfl rfl HAP.out ?_)
  go_loopg [4, 5] (R1.length + 1) (fun gk s4 s5 wx => ∃ (done Rc : List UInt8) (lg : Value), R = done ++ Rc ∧ CSt w0 c k row s Rc { x with lg := lg, L := done } wx ∧
    ((s5 = .iface 129 (.pointer (some a2)) ∧ gk = Rc.length + 1 ∧ (10 : UInt8) ∉ done ∧ (10 : UInt8) ∈ Rc) ∨ (s5 = .nilIface ∧ gk = 0 ∧ done = ln R ∧ Rc = rs R)))
  case atStart => exact ⟨y, R1, _, HY.out.1, H2.out, Or.inl ⟨rfl, rfl, HY.out.2.1, HY.out.2.2.2.2⟩⟩
  case round =>
    clear HAP hsl d2 d4 d5 f5 H2 H1 HY c0
    obtain ⟨done, Rc, lg, hRd, hst, hcase⟩ := hrel
    have H1 := hid hst
    have HRD := hid hRd
    clear hst hRd
    have c0 : wr.cell? ⟨c, 0, none⟩ = some (.pointer (some ⟨k, 0, none⟩)) := H1.out.cell 0 _ rfl
    have d2 : wr.cell? ⟨2, 0, none⟩ = some (.iface 129 (.pointer (some a2))) := g.c2 H1.out.bel
    have d0 : wr.cell? ⟨0, 0, none⟩ = some (.iface 129 (.pointer (some ae))) := g.c0 H1.out.bel
    rcases hcase with ⟨rfl, hgk, h10d, h10c⟩ | ⟨rfl, rfl, hdn, hrn⟩
    · have HG := hid (And.intro hgk (And.intro h10d h10c))
      have hlnR : ln R = done ++ ln Rc := by rw [HRD.out, ln_append h10d]
      have hrsR : rs R = rs Rc := by rw [HRD.out, rs_append h10d]
      clear hgk h10d
      have hRl : done.length + Rc.length = R.length := by rw [HRD.out, List.length_append]
      have HLN := hid (And.intro hlnR hrsR)
      clear hlnR hrsR
      go_wp2_with fail
      refine (readSlice_c w0 k row s Rc 129 ae _ wr H1.out.rd h10c (g.c0 H1.out.bel) (g.c2 H1.out.bel) (by have := g.l5; omega)).mono ?_
      rintro e w1 ⟨v, hA, hB, hk⟩
      rcases Nat.lt_or_ge 4096 (ln Rc).length with hsh | hsh
      · obtain ⟨rfl, hL, hr⟩ := hB hsh
        have h1 := H1.out.read hk hr
        obtain ⟨hn1, hn2', hn3⟩ := not_take h10c hsh
        obtain ⟨y, hy⟩ : ∃ y, Rc.take 4096 = y := ⟨_, rfl⟩
        obtain ⟨R1, hR1⟩ : ∃ R1, Rc.drop 4096 = R1 := ⟨_, rfl⟩
        have hyR : Rc = y ++ R1 := by rw [← hy, ← hR1, List.take_append_drop]
        rw [hy] at hL hn1 hn2'
        rw [hR1] at h1 hn3
        obtain ⟨o, cc, rfl, hlc, hcm, hcell⟩ := hL.form
        have hyl : y.length + R1.length = Rc.length := by rw [hyR, List.length_append]
        obtain ⟨lg1, w2, happ, hown1, hgr1, hwh1⟩ := app_bytes w1 w0.heap.size lg done y ⟨row, o, none⟩ y.length cc h1.olg rfl (fun j u hj => by rw [WideShapes.add_plain]; exact hcell j u hj) (by omega) h1.bel.size
        obtain ⟨ao1, co1, rfl⟩ := own_form hown1
        have hset := h1.setLong (L' := done ++ y) hown1 hgr1 hwh1
        have hcb := (Kept.grown hgr1).heap h1.hc (own_ne h1.olg h1.hc (by decide))
        have H2 := hid hset.1
        have HAP := hid happ
        have HY := hid (And.intro hyR (And.intro hn1 (And.intro hn3 hn2')))
        have d4 : w1.cell? ⟨c, 4, none⟩ = some lg := h1.cell 4 _ rfl
        have d5 : w2.cell? ⟨c, 4, none⟩ = some lg := by rw [Lib.cell_of_heap hcb]; rfl
        have f5 : w2.frozen? ⟨c, 4, none⟩ = false := Lib.frozen_of_heap hcb 4
        clear hcb happ hset hown1 hgr1 hwh1 hcell h1 hL hr hA hB hk hy hR1 hyR hn1 hn2' hn3 c0 d2 d0 hsh
        go_wp2_with (at_builtin; refine wpList_append_eq _ rfl _ _ 43 rfl _ _ _ w2 rfl rfl HAP.out ?_)
        go_roundg (R1.length + 1)
        case measure => have h1 := HG.out.1; have h2 := HY.out.2.2.2; omega
        case rel =>
          refine ⟨done ++ y, R1, _, ?_, by have h9 := H2.out; rw [List.length_append] at h9; exact h9, Or.inl ⟨rfl, rfl, ?_, HY.out.2.2.1⟩⟩
          · rw [List.append_assoc, ← HY.out.1]; exact HRD.out
          · rw [List.mem_append, not_or]; exact ⟨HG.out.2.1, HY.out.2.1⟩
      · obtain ⟨rfl, hL, hr⟩ := hA hsh
        have h1 := H1.out.read hk hr
        obtain ⟨y, hy⟩ : ∃ y, ln Rc = y := ⟨_, rfl⟩
        obtain ⟨R1, hR1⟩ : ∃ R1, rs Rc = R1 := ⟨_, rfl⟩
        have hyR : Rc = y ++ R1 := by rw [← hy, ← hR1, ln_rs]
        have hlnR : ln R = done ++ y := by rw [HLN.out.1, hy]
        have hrsR : rs R = R1 := by rw [HLN.out.2, hR1]
        rw [hy] at hL
        rw [hR1] at h1
        obtain ⟨o, cc, rfl, hlc, hcm, hcell⟩ := hL.form
        have hyl : y.length + R1.length = Rc.length := by rw [hyR, List.length_append]
        obtain ⟨lg1, w2, happ, hown1, hgr1, hwh1⟩ := app_bytes w1 w0.heap.size lg done y ⟨row, o, none⟩ y.length cc h1.olg rfl (fun j u hj => by rw [WideShapes.add_plain]; exact hcell j u hj) (by omega) h1.bel.size
        obtain ⟨ao1, co1, rfl⟩ := own_form hown1
        have hset := h1.setLong (L' := done ++ y) hown1 hgr1 hwh1
        have hcb := (Kept.grown hgr1).heap h1.hc (own_ne h1.olg h1.hc (by decide))
        have H2 := hid hset.1
        have HAP := hid happ
        have HY := hid (And.intro hyR (And.intro hlnR hrsR))
        have d4 : w1.cell? ⟨c, 4, none⟩ = some lg := h1.cell 4 _ rfl
        have d5 : w2.cell? ⟨c, 4, none⟩ = some lg := by rw [Lib.cell_of_heap hcb]; rfl
        have f5 : w2.frozen? ⟨c, 4, none⟩ = false := Lib.frozen_of_heap hcb 4
        clear hcb happ hset hown1 hgr1 hwh1 hcell h1 hL hr hA hB hk hy hR1 hyR hlnR hrsR c0 d2 d0 hsh
        go_wp2_with (at_builtin; refine wpList_append_eq _ rfl _ _ 43 rfl _ _ _ w2 rfl rfl HAP.out ?_)
        go_roundg 0
        case measure => have h1 := HG.out.1; omega
        case rel =>
          refine ⟨done ++ y, R1, _, ?_, by have h9 := H2.out; rw [List.length_append] at h9; exact h9, Or.inr ⟨rfl, rfl, HY.out.2.1.symm, HY.out.2.2.symm⟩⟩
          rw [List.append_assoc, ← HY.out.1]; exact HRD.out
    · obtain ⟨gb, hgb, hline⟩ := line_own H1.out.olg (T := done) (by
        obtain ⟨l, h1, _, _⟩ := ln_split h10
        show done ≠ []
        rw [hdn, h1]; simp)
      have HL := hid hline
      have HGB := hid hgb
      have HDN := hid (And.intro hdn hrn)
      clear hline hgb hdn hrn
      have d4 : wr.cell? ⟨c, 4, none⟩ = some lg := H1.out.cell 4 _ rfl
      have d1 : wr.cell? ⟨c, 1, none⟩ = some (.int .i64 (x.line : Nat)) := H1.out.cell 1 _ rfl
      have f1 : wr.frozen? ⟨c, 1, none⟩ = false := H1.out.frozen 1
      have hl9 : (x.line : Int) ≤ 1000000000 := by omega
      go_wp2_with fail
      go_ret2
      have hgc : gb ≠ c := fun e => own_ne H1.out.olg H1.out.hc (by decide) (e ▸ HGB.out)
      obtain ⟨hdn, hrn⟩ := HDN.out
      subst hdn hrn
      refine ⟨lg, rfl, lg, gb, ?_⟩
      exact ⟨HL.out.kept (Z := (· = c)) (Kept.setCell (S := (· = c)) (Kept.refl _ _) ⟨c, 1, none⟩ rfl _) hgc, HGB.out, H1.out.store 1 _ _ (by simp [Cv.cells]) rfl rfl rfl rfl rfl rfl rfl rfl⟩

/-- readLine: the next line. -/
theorem readLine_c (w0 : World) (c k row s : Nat) (R : List UInt8) (x : Cv) (ae a2 : Addr) (m : Int) (w : World) (h : CSt w0 c k row s R x w) (g : Glob w0 ae a2 m) (h10 : (10 : UInt8) ∈ R) (hl : x.line ≤ 1000000000) (hR : R.length ≤ 200000000) :
    Calls Tryf.prog 34 #[.pointer (some ⟨c, 0, none⟩)] w fun e w' => ∃ v b lg L, e = .returned (.tuple #[v, .nilIface]) ∧ LineAt b v (ln R) w' ∧ (b = row ∨ lg.ownBlock = some b) ∧ CSt w0 c k row s (rs R) { x with line := x.line + 1, lg := lg, L := L } w' := by
  rcases Nat.lt_or_ge 4096 (ln R).length with hsh | hsh
  · refine (readLine_long w0 c k row s R x ae a2 m w h g h10 hl hR hsh).mono ?_
    rintro e w' ⟨v, lg, b, h1, h2, h3, h4⟩
    exact ⟨v, b, lg, _, h1, h2, Or.inr h3, h4⟩
  · refine (readLine_short w0 c k row s R x ae a2 m w h g h10 hl hsh).mono ?_
    rintro e w' ⟨v, h1, h2, h3⟩
    exact ⟨v, row, x.lg, x.L, h1, h2, Or.inl rfl, h3⟩

set_option maxHeartbeats 3200000 in
set_option maxRecDepth 100000 in
/-- readLine, all read. -/
theorem readLine_end (w0 : World) (c k row s : Nat) (x : Cv) (ae a2 : Addr) (m : Int) (w : World) (h : CSt w0 c k row s [] x w) (g : Glob w0 ae a2 m) :
    Calls Tryf.prog 34 #[.pointer (some ⟨c, 0, none⟩)] w fun e w' => e = .returned (.tuple #[.slice none 0 0, .iface 129 (.pointer (some ae))]) ∧ CSt w0 c k row s [] x w' := by
  have c0 : w.cell? ⟨c, 0, none⟩ = some (.pointer (some ⟨k, 0, none⟩)) := h.cell 0 _ rfl
  have H := hid h
  clear h
  have hs0 := eq_same ae
  go_enter Tryf.func34, Tryf.ntmps34
  go_wp2_with fail
  refine (readSlice_end w0 k row s 129 ae w H.out.rd (g.c0 H.out.bel) (by have := g.l5; omega)).mono ?_
  rintro e w1 ⟨a, cc, rfl, hr, hk⟩
  have H1 := hid (H.out.read hk hr)
  clear hr hk
  have d2 : w1.cell? ⟨2, 0, none⟩ = some (.iface 129 (.pointer (some a2))) := g.c2 H1.out.bel
  have d0 : w1.cell? ⟨0, 0, none⟩ = some (.iface 129 (.pointer (some ae))) := g.c0 H1.out.bel
  have ho := eq_other g w1 H1.out.bel
  go_wp2_with fail
  go_quiet (fail)
  go_wp2_with fail
  go_ret2
  exact ⟨rfl, H1.out.below ⟨rfl, rfl, rfl, Nat.le_refl _, fun _ _ => rfl⟩⟩
end Go.Proofs.Qxb6613956aFmt
