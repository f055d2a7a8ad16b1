/-
  csv: quoted (54).
-/
import Derived.Test.Qxb6613956aFmtRl
namespace Go.Proofs.Qxb6613956aFmt
open Go.RowKit Go.Shelf
set_option linter.unusedSimpArgs false

theorem LineAt.tail {b : Nat} {l : List UInt8} {w : World} {o c n : Nat} (h2 : l.length ≤ c) (h3 : c ≤ maxLen) (h4 : ∀ j u, (Lib.byteCells l)[j]? = some u → w.cell? ⟨b, o + j, none⟩ = some u) :
    LineAt b (.slice (some ⟨b, o + n, none⟩) (l.length - n) (c - n)) (l.drop n) w := by
  refine ⟨o + n, c - n, by rw [List.length_drop], by rw [List.length_drop]; omega, by omega, fun j u hj => ?_⟩
  rw [Nat.add_assoc]
  exact h4 (n + j) u (cells_drop l n j u hj)
/-- The line's block is none of the rows that a field is read into. -/
theorem CSt.apart {w0 w : World} {c k row s : Nat} {R : List UInt8} {x : Cv} {b : Nat} (h : CSt w0 c k row s R x w) (hb : b = row ∨ x.lg.ownBlock = some b) : b ≠ c ∧ x.tx.ownBlock ≠ some b ∧ x.en.ownBlock ≠ some b := by
  obtain ⟨_, hr⟩ := h.hrow
  rcases hb with rfl | hb
  · exact ⟨h.crow, h.d2, own_ne h.oen hr (by decide)⟩
  · refine ⟨fun e => own_ne h.olg h.hc (by decide) (e ▸ hb), h.d3 b hb, own_apart h.oen h.olg (by decide) hb⟩
theorem q_line (p z : List UInt8) (h : (10 : UInt8) ∉ p) : ln (p ++ 34 :: z) = p ++ 34 :: ln z ∧ rs (p ++ 34 :: z) = rs z := by
  rw [ln_append h, rs_append h, ln_cons (by decide), rs_cons (by decide)]
  exact ⟨rfl, rfl⟩
theorem ln_ne (c : UInt8) (t : List UInt8) : ∃ d z, ln (c :: t) = c :: z ∧ d = c := by
  by_cases h : c = 10
  · exact ⟨c, [], by simp [ln, h], rfl⟩
  · exact ⟨c, ln t, ln_cons h t, rfl⟩

/-- append in a region that draws its order, by the equation of its run. -/
theorem step_append_eq {P : Program} {ops : Array Oper} {o : Oper} {a : Act} {w : World} {K : Act → World → Prop} {Q : Exit → Act → World → Prop} {E : Prop}
    (hg : o.guard = none) (s x : Operand) (t : TypeId) (hop : o.op = Op.call { callee := Callee.builtin Builtin.append, args := #[s, x], argTypes := #[t, t] })
    (vs vx v' : Value) (w' : World) (hs : a.eval s = vs) (hx : a.eval x = vx) (hr : (Builtin.append_ #[t, t] o.type #[vs, vx]).run P w = .ok v' w') (hK : K (a.put o.dst v') w') :
    if Region.wanted o (yielded ops a.tmps) = true then Oper.wp P o a w K Q else E := by
  have hw : Region.wanted o (yielded ops a.tmps) = true := by simp [Region.wanted, hg]
  rw [if_pos hw]
  unfold Oper.wp
  simp [execOp, hop, resolve, invoke, builtin, hs, hx, hr, Result.andThen]
  exact hK

/-- append of bytes, the new slice's length under a name. -/
theorem app_bytes2 (w : World) (base : Nat) (v : Value) (T y : List UInt8) (a : Addr) (m c : Nat) (hown : w.ownsRow base 5 1 v T.length (Lib.byteCells T)) (hm : y.length = m) (hy : ∀ j u, (Lib.byteCells y)[j]? = some u → w.cell? (a.add j) = some u)
    (hb : T.length + m ≤ 1000000000) (hbase : base ≤ w.heap.size) :
    ∃ ao n co w', (Builtin.append_ #[43, 43] 43 #[v, .slice (some a) m c]).run Tryf.prog w = .ok (.slice ao n co) w' ∧ w'.ownsRow base 5 1 (.slice ao n co) (T ++ y).length (Lib.byteCells (T ++ y)) ∧ w.grownBy w' v.ownBlock ∧ (∀ k, (Value.slice ao n co).ownBlock = some k → v.ownBlock = some k ∨ w.heap.size ≤ k) := by
  obtain ⟨v', w', h1, h2, h3, h4⟩ := app_bytes w base v T y a m c hown hm hy hb hbase
  obtain ⟨ao, co, rfl⟩ := own_form h2
  exact ⟨ao, _, co, w', h1, h2, h3, h4⟩

set_option maxHeartbeats 3200000 in
set_option maxRecDepth 100000 in
theorem quoted_c (w0 : World) (c k row s : Nat) (f Y : List UInt8) (y0 : UInt8) (Y' : List UInt8) (x : Cv) (ae a2 : Addr) (m : Int) (b : Nat) (v : Value) (nv : Value) (w : World) (h : CSt w0 c k row s (rs (dbl f ++ 34 :: Y)) x w) (g : Glob w0 ae a2 m)
    (hL : LineAt b v (ln (dbl f ++ 34 :: Y)) w) (hb : b = row ∨ x.lg.ownBlock = some b) (hY : Y = y0 :: Y') (hy1 : y0 ≠ 34) (hy2 : y0 ≠ 10) (h10 : (10 : UInt8) ∈ Y)
    (hl1 : x.line + nls f ≤ 1000000000) (hl2 : (dbl f ++ 34 :: Y).length ≤ 200000000) (hl3 : x.T.length + f.length ≤ 500000000) :
    Calls Tryf.prog 54 #[.pointer (some ⟨c, 0, none⟩), v, nv] w fun e w' => ∃ v' b' lg L tx, e = .returned (.tuple #[v', .nilIface]) ∧ LineAt b' v' (ln Y) w' ∧ (b' = row ∨ lg.ownBlock = some b') ∧
      CSt w0 c k row s (rs Y) { x with line := x.line + nls f, lg := lg, L := L, tx := tx, T := x.T ++ f } w' := by
  have c1 : w.cell? ⟨c, 1, none⟩ = some (.int .i64 (x.line : Nat)) := h.cell 1 _ rfl
  have H := hid h
  have HL := hid hL
  have HB := hid hb
  clear h hL hb
  go_enter Tryf.func54, Tryf.ntmps54
  go_wp2_with fail
  go_loopg [1] f.length (fun gk s1 wx => ∃ (done fr : List UInt8) (b : Nat) (lg tx : Value) (L : List UInt8), f = done ++ fr ∧ gk = fr.length ∧ LineAt b s1 (ln (dbl fr ++ 34 :: Y)) wx ∧ (b = row ∨ lg.ownBlock = some b) ∧
    CSt w0 c k row s (rs (dbl fr ++ 34 :: Y)) { x with line := x.line + nls done, lg := lg, L := L, tx := tx, T := x.T ++ done } wx)
  case atStart => exact ⟨[], f, b, x.lg, x.tx, x.L, rfl, rfl, HL.out, HB.out, by simpa [nls] using H.out⟩
  case round =>
    clear c1 H HL HB
    obtain ⟨done, fr, bl, lg, tx, L, hf, hgk, hline, hbl, hst⟩ := hrel
    have H1 := hid hst
    have HF := hid hf
    have HG := hid hgk
    have HBL := hid hbl
    obtain ⟨o, cc, rfl, hlc, hcm, hcell⟩ := hline.form
    have HC := hid hcell
    have hfl : done.length + fr.length = f.length := by rw [hf, List.length_append]
    have hnl : nls done + nls fr = nls f := by rw [hf, nls_append]
    have hap : bl ≠ c ∧ tx.ownBlock ≠ some bl ∧ x.en.ownBlock ≠ some bl := hst.apart hbl
    clear hst hf hgk hbl hline hcell
    by_cases hq : (34 : UInt8) ∈ ln (dbl fr ++ 34 :: Y)
    · obtain ⟨p, g', hfr, hp34, hp10, hg'⟩ := q_some fr Y hq
      obtain ⟨z0, Z', hZ⟩ : ∃ z0 Z', dbl g' ++ 34 :: Y = 34 :: z0 :: Z' ∧ ((g' = [] ∧ z0 = y0 ∧ z0 :: Z' = Y) ∨ (∃ g'', g' = 34 :: g'' ∧ z0 = 34 ∧ Z' = dbl g'' ++ 34 :: Y)) := by
        rcases hg' with rfl | ⟨g'', rfl⟩
        · exact ⟨y0, Y', by rw [hY]; rfl, Or.inl ⟨rfl, rfl, hY.symm⟩⟩
        · exact ⟨34, dbl g'' ++ 34 :: Y, by simp [dbl], Or.inr ⟨g'', rfl, rfl, rfl⟩⟩
      have hz10 : z0 ≠ 10 := by
        rcases hZ.2 with ⟨_, e, _⟩ | ⟨_, _, e, _⟩
        · rw [e]; exact hy2
        · rw [e]; decide
      have hX : dbl fr ++ 34 :: Y = p ++ 34 :: z0 :: Z' := by rw [hfr, dbl_append, dbl_plain hp34, List.append_assoc, hZ.1]
      obtain ⟨hlnX, hrsX⟩ := q_line p (z0 :: Z') hp10
      rw [ln_cons hz10] at hlnX
      rw [rs_cons hz10] at hrsX
      rw [hX, hlnX] at HC hlc
      rw [hX, hrsX] at H1
      rw [hX, hlnX]
      obtain ⟨l, hl⟩ : ∃ l, p ++ 34 :: z0 :: ln Z' = l := ⟨_, rfl⟩
      have cIB := ib_c ⟨bl, o, none⟩ cc l.length l 34 34 wr rfl rfl (fun j u hj => by rw [WideShapes.add_plain]; rw [← hl] at hj; exact HC.out j u hj)
      have hib : Lib.indexByte l 34 = (p.length : Nat) := by rw [← hl]; exact ib_at p _ hp34
      rw [hib] at cIB
      rw [hl] at HC hlc ⊢
      obtain ⟨np, hnp⟩ : ∃ np, p.length = np := ⟨_, rfl⟩
      obtain ⟨nz, hnz⟩ : ∃ nz, (ln Z').length = nz := ⟨_, rfl⟩
      obtain ⟨nl, hnl'⟩ : ∃ nl, l.length = nl := ⟨_, rfl⟩
      have hll : nl = np + 2 + nz := by rw [← hnl', ← hl, ← hnp, ← hnz]; simp; omega
      have hpl : p.length + g'.length = fr.length := by rw [hfr, List.length_append]
      rw [hnp] at cIB
      rw [hnl'] at cIB hlc ⊢
      have hlp : l.take np = p := by rw [← hl, ← hnp]; simp
      have hcd : ∀ j u, (Lib.byteCells p)[j]? = some u → wr.drew.cell? ((⟨bl, o, none⟩ : Addr).add j) = some u := fun j u hj => by
        rw [WideShapes.add_plain]
        rw [← hlp] at hj
        exact HC.out j u (cells_take l np j u hj)
      obtain ⟨ao1, n1, co1, w2, happ, hown1, hgr1, hwh1⟩ := app_bytes2 wr.drew w0.heap.size _ (x.T ++ done) p ⟨bl, o, none⟩ np cc H1.out.otx hnp hcd (by rw [List.length_append]; omega) H1.out.bel.size
      have h1d : CSt w0 c k row s (rs Z') _ wr.drew := H1.out.below ⟨rfl, rfl, rfl, Nat.le_refl _, fun _ _ => rfl⟩
      have hset := h1d.setText (T' := x.T ++ done ++ p) hown1 hgr1 hwh1
      have hcb := (Kept.grown hgr1).heap h1d.hc (own_ne h1d.otx h1d.hc (by decide))
      have H2 := hid hset.1
      have HK2 := hid hset.2
      have d4 : wr.cell? ⟨c, 5, none⟩ = some tx := H1.out.cell 5 _ rfl
      have d5 : w2.cell? ⟨c, 5, none⟩ = some tx := by rw [Lib.cell_of_heap hcb]; rfl
      have f5 : w2.frozen? ⟨c, 5, none⟩ = false := Lib.frozen_of_heap hcb 5
      have HZ := hid hZ
      have HL := hid (And.intro hl (And.intro hnl' (And.intro hnp (And.intro hnz hfr))))
      have hncm : nl ≤ 200000000 := by
        have h9 := congrArg List.length (ln_rs (dbl fr ++ 34 :: Y))
        rw [hX, hlnX, hl, List.length_append, hnl'] at h9
        have h8 : (dbl fr ++ 34 :: Y).length ≤ (dbl f ++ 34 :: Y).length := by rw [HF.out, dbl_append]; simp
        rw [hX] at h8
        omega
      have hb1 : (np : Int) ≤ (nl : Int) := by omega
      have hb2 : (np : Int) ≤ (cc : Int) := by omega
      have HLL := hid hll
      have HP10 := hid hp10
      have hb3 : np + 2 ≤ nl := by omega
      clear hset hcb hown1 hgr1 hwh1 h1d hcd hlp hib hlnX hrsX hX hz10 hZ hg' hl hnl' hnp hnz hfr hq hp34 hp10 hll
      go_wp2_with fail
      refine cIB.mono ?_
      rintro e w' ⟨rfl, hw'⟩
      rw [hw']
      clear hw' cIB
      have HAP := hid happ
      clear happ
      go_wp2_with fail
      go_region_law (refine step_append_eq rfl (.tmp 51) (.tmp 54) 43 rfl _ _ _ w2 (by simp [Act.eval, Act.put]) (by simp [Act.eval, Act.put]) HAP.out ?_)
      obtain ⟨w3, hw3⟩ : ∃ w3, w2.setCell ⟨c, 5, none⟩ (.slice ao1 n1 co1) = w3 := ⟨_, rfl⟩
      rw [hw3] at H2 HK2 ⊢
      clear hw3 HAP d4 d5 f5
      obtain ⟨hl, hnl', hnp, hnz, hfr⟩ := HL.out
      have hc3 : ∀ j u, (Lib.byteCells l)[j]? = some u → w3.cell? ⟨bl, o + j, none⟩ = some u := fun j u hj =>
        HK2.out.cell (w := wr.drew) (HC.out j u hj) (fun e => by rcases e with e | e; exact hap.1 e; exact hap.2.1 e)
      have hz3 : w3.cell? ⟨bl, o + (np + 1), none⟩ = some (.int .u8 (z0.toNat : Int)) := hc3 (np + 1) _ (by rw [← hl, ← hnp]; simp [Lib.byteCells])
      have hncc : ¬ cc = np + 1 := by omega
      have hsub : nl - (np + 1) = nz + 1 := by have := HLL.out; omega
      have hnp9 : (np : Int) ≤ 200000000 := by omega
      have hb5 : (np : Int) + 1 ≤ (nl : Int) := by omega
      have HC3 := hid hc3
      clear hc3 hl hnl' hnp hnz hfr HC H1
      have hz9 := z0.toNat_lt
      have hnzb : (((nz : Nat) : Int) + 1 == 0) = false := beq_eq_false_iff_ne.2 (by omega)
      rcases HZ.out.2 with ⟨hg0, hzy, hZY⟩ | ⟨g'', hg0, hzy, hZY⟩
      · have hne : ¬ ((z0.toNat : Int) = 34) := fun e => hy1 (by
          rw [← hzy]
          exact UInt8.toNat_inj.1 (by have : z0.toNat = 34 := by omega
                                      rw [this]; rfl))
        have HZ9 := hid (And.intro hg0 (And.intro hzy hZY))
        clear hg0 hzy hZY
        have hneb : ((z0.toNat : Int) != 34) = true := by simpa using hne
        go_wp2_with fail
        go_ret2
        obtain ⟨hl, hnl', hnp, hnz, hfr⟩ := HL.out
        obtain ⟨hg0, hzy, hZY⟩ := HZ9.out
        have hz10 : z0 ≠ 10 := by rw [hzy]; exact hy2
        have hYl : ln Y = l.drop (np + 1) := by rw [← hZY, ln_cons hz10, ← hl, ← hnp]; simp
        have hYr : rs Y = rs Z' := by rw [← hZY, rs_cons hz10]
        have hff : f = done ++ p := by rw [HF.out, hfr, hg0]; simp
        refine ⟨_, bl, lg, L, .slice ao1 n1 co1, rfl, ?_, HBL.out, ?_⟩
        · rw [hYl]
          have h9 := LineAt.tail (n := np + 1) (w := w3) (b := bl) (l := l) (o := o) (c := cc) (by omega) hcm (fun j u hj => HC3.out j u hj)
          have e1 : l.length - (np + 1) = nz + 1 := by have := HLL.out; omega
          rw [e1] at h9
          exact h9
        · have h9 := H2.out
          have hp10 := HP10.out
          have e1 : nls f = nls done := by rw [hff, nls_append, nls_none hp10]; rfl
          rw [hYr, e1, hff, ← List.append_assoc]
          exact h9
      · subst hzy
        have HZ9 := hid (And.intro hg0 hZY)
        clear hg0 hZY hz9
        have hz34 : w3.cell? ⟨bl, o + (np + 1), none⟩ = some (.int .u8 34) := hz3
        clear hz3
        have h3a : CSt w0 c k row s (rs Z') _ (w3.alloc (.cells #[.int .u8 34] 5)) := H2.out.below ((Below.refl _ _).alloc (Nat.le_refl _) _)
        obtain ⟨ao4, n4, co4, w4, happ, hown4, hgr4, hwh4⟩ := app_bytes2 (w3.alloc (.cells #[.int .u8 34] 5)) w0.heap.size _ (x.T ++ done ++ p) [34] ⟨w3.heap.size, 0, none⟩ 1 1 h3a.otx rfl (fun j u hj => by
          cases j with
          | zero =>
            simp [Lib.byteCells] at hj
            subst hj
            rw [WideShapes.add_plain, Lib.cell_of_heap (heap_alloc_new _ _)]; rfl
          | succ j => simp [Lib.byteCells] at hj) (by simp only [List.length_append]; omega) h3a.bel.size
        have hset := h3a.setText (T' := x.T ++ done ++ p ++ [34]) hown4 hgr4 hwh4
        have hcb := (Kept.grown hgr4).heap h3a.hc (own_ne h3a.otx h3a.hc (by decide))
        have hk4 : Kept (fun b => b = c ∨ (Value.slice ao1 n1 co1).ownBlock = some b) w3 (w4.setCell ⟨c, 5, none⟩ (.slice ao4 n4 co4)) := ((Kept.refl _ w3).alloc _).trans hset.2
        have H4 := hid hset.1
        have HK4 := hid hk4
        have HAP := hid happ
        have hbt : (Value.slice ao1 n1 co1).ownBlock ≠ some bl := (H2.out.apart HBL.out).2.1
        have d4 : w3.cell? ⟨c, 5, none⟩ = some (.slice ao1 n1 co1) := H2.out.cell 5 _ rfl
        have d5 : w4.cell? ⟨c, 5, none⟩ = some (.slice ao1 n1 co1) := by rw [Lib.cell_of_heap hcb]; rfl
        have f5 : w4.frozen? ⟨c, 5, none⟩ = false := Lib.frozen_of_heap hcb 5
        clear hset hcb hown4 hgr4 hwh4 h3a hk4 happ
        have hnz1 : 1 ≤ nz := by
          rw [← HL.out.2.2.2.1, HZ9.out.2]
          cases hd : dbl g'' ++ 34 :: Y with
          | nil => simp at hd
          | cons q t => obtain ⟨_, z, hz, _⟩ := ln_ne q t; rw [hz]; simp
        have hncc2 : ¬ cc - (np + 1) = 1 := by have := HLL.out; omega
        go_wp2_with (at_builtin; refine wpList_append_eq _ rfl _ _ 43 rfl _ _ _ w4 rfl rfl HAP.out ?_)
        go_roundg g''.length
        case measure => rw [HG.out]; have h9 := congrArg List.length HZ9.out.1; simp at h9; omega
        case rel =>
          obtain ⟨hl, hnl', hnp, hnz, hfr⟩ := HL.out
          obtain ⟨hg0, hZ'⟩ := HZ9.out
          have hX : ln (dbl g'' ++ 34 :: Y) = l.drop (np + 2) := by rw [← hZ', ← hl, ← hnp]; simp
          refine ⟨done ++ p ++ [34], g'', bl, lg, .slice ao4 n4 co4, L, ?_, rfl, ?_, HBL.out, ?_⟩
          · rw [HF.out, hfr, hg0]; simp
          · rw [hX]
            have h9 := LineAt.tail (n := np + 2) (w := w4.setCell ⟨c, 5, none⟩ (.slice ao4 n4 co4)) (b := bl) (l := l) (o := o) (c := cc) (by omega) hcm (fun j u hj => HK4.out.cell (HC3.out j u hj) (fun e => by rcases e with e | e; exact hap.1 e; exact hbt e))
            have e1 : l.length - (np + 2) = nz := by have := HLL.out; omega
            have e2 : cc - (np + 2) = cc - (np + 1) - 1 := by omega
            rw [e1, e2] at h9
            exact h9
          · have h9 := H4.out
            have hp10 := HP10.out
            have e1 : nls (done ++ p ++ [34]) = nls done := by rw [nls_append, nls_append, nls_none hp10]; rfl
            rw [e1, ← hZ']
            have e2 : x.T ++ (done ++ p ++ [34]) = x.T ++ done ++ p ++ [34] := by simp
            rw [e2]
            exact h9
    · obtain ⟨l, hl⟩ : ∃ l, ln (dbl fr ++ 34 :: Y) = l := ⟨_, rfl⟩
      obtain ⟨g', hg1, hg2, hg3, hg4⟩ := q_none fr Y hq
      rw [hl] at hq hg1 hlc
      rw [hl] at HC
      have cIB := ib_c ⟨bl, o, none⟩ cc l.length l 34 34 wr rfl rfl (fun j u hj => by rw [WideShapes.add_plain]; exact HC.out j u hj)
      rw [ib_not hq] at cIB
      have hlg : l.length + g'.length = fr.length := by rw [hg1, List.length_append]
      obtain ⟨ao1, n1, co1, w2, happ, hown1, hgr1, hwh1⟩ := app_bytes2 wr w0.heap.size _ (x.T ++ done) l ⟨bl, o, none⟩ l.length cc H1.out.otx rfl (fun j u hj => by rw [WideShapes.add_plain]; exact HC.out j u hj) (by rw [List.length_append]; omega) H1.out.bel.size
      have hset := H1.out.setText (T' := x.T ++ done ++ l) hown1 hgr1 hwh1
      have hcb := (Kept.grown hgr1).heap H1.out.hc (own_ne H1.out.otx H1.out.hc (by decide))
      have H2 := hid hset.1
      have HAP := hid happ
      have d4 : wr.cell? ⟨c, 5, none⟩ = some tx := H1.out.cell 5 _ rfl
      have d5 : w2.cell? ⟨c, 5, none⟩ = some tx := by rw [Lib.cell_of_heap hcb]; rfl
      have f5 : w2.frozen? ⟨c, 5, none⟩ = false := Lib.frozen_of_heap hcb 5
      have HQ := hid (And.intro hg1 (And.intro hg2 hg3))
      rw [hl]
      clear hset hcb happ hown1 hgr1 hwh1 hq hg1 hg2 hg3
      go_wp2_with (first
        | (go_at_call 53; refine cIB.mono ?_; rintro e w' ⟨rfl, hw'⟩; rw [hw'])
        | (at_builtin; refine wpList_append_eq _ rfl _ _ 43 rfl _ _ _ w2 rfl rfl HAP.out ?_))
      rw [HQ.out.2.1] at H2
      have h10' : (10 : UInt8) ∈ dbl g' ++ 34 :: Y := List.mem_append_right _ (List.mem_cons_of_mem _ h10)
      refine (readLine_c w0 c k row s (dbl g' ++ 34 :: Y) _ ae a2 m _ H2.out g h10' (by show x.line + nls done ≤ 1000000000; omega) (by
        have h9 := congrArg List.length (ln_rs (dbl fr ++ 34 :: Y))
        rw [HQ.out.2.1, List.length_append] at h9
        have h8 : (dbl fr ++ 34 :: Y).length ≤ (dbl f ++ 34 :: Y).length := by rw [HF.out, dbl_append]; simp
        omega)).mono ?_
      rintro e w3 ⟨v3, b3, lg3, L3, rfl, hl3', hb3, hst3⟩
      have H3 := hid hst3
      have HL3 := hid hl3'
      have HB3 := hid hb3
      clear hst3 hl3' hb3 H2 d4 d5 f5 HAP cIB
      have hn0 := eq_nil ae
      have d0 : w3.cell? ⟨0, 0, none⟩ = some (.iface 129 (.pointer (some ae))) := g.c0 H3.out.bel
      go_wp2_with fail
      go_roundg g'.length
      case measure => rw [HG.out]; have := hg4; omega
      case rel =>
        refine ⟨done ++ l, g', b3, lg3, .slice ao1 n1 co1, L3, ?_, rfl, HL3.out, HB3.out, ?_⟩
        · rw [List.append_assoc, ← HQ.out.1]; exact HF.out
        · have h9 := H3.out
          have e1 : nls (done ++ l) = nls done + 1 := by
            have h1 := HQ.out.2.2
            have h2 := HQ.out.1
            rw [h2, nls_append] at h1
            rw [nls_append]
            omega
          rw [e1, ← Nat.add_assoc, ← List.append_assoc]
          exact h9
end Go.Proofs.Qxb6613956aFmt
