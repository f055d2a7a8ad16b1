/-
  csv: field (42).
-/
import Derived.Test.Qxb6613956aFmtQu
namespace Go.Proofs.Qxb6613956aFmt
open Go.RowKit Go.Shelf
set_option linter.unusedSimpArgs false

theorem ne34 (z : UInt8) (h : z ≠ 34) : ((z.toNat : Int) != 34) = true := by
  have h9 : ¬ ((z.toNat : Int) = 34) := fun e => h (UInt8.toNat_inj.1 (by
    have e2 : z.toNat = 34 := by omega
    rw [e2]; rfl))
  simpa using h9
theorem cut_c (b o n c : Nat) (l : List UInt8) (m : Int) (a2 c2 : Nat) (w : World) (hn : l.length = n) (hc : n ≤ c) (h4 : ∀ j u, (Lib.byteCells l)[j]? = some u → w.cell? ⟨b, o + j, none⟩ = some u)
    (hx : w.cell? ⟨a2, 0, none⟩ = some (.int .u8 44)) (h5 : w.cell? ⟨5, 0, none⟩ = some (.int .i64 m)) (hs : n ≤ 200000000) :
    Calls Tryf.prog 52 #[.slice (some ⟨b, o, none⟩) n c, .slice (some ⟨a2, 0, none⟩) 1 c2] w fun e w' => e = .returned (Lib.cutV (some ⟨b, o, none⟩) n c 1 (Lib.indexByte l 44)) ∧ ∃ q, w' = w.drewN q := by
  have h := Any.bytes_Cut_all Tryf.laysSlT4 (some ⟨b, o, none⟩) (some ⟨a2, 0, none⟩) n c 1 c2 (nums l) (nums [44]) m w (by rw [nums_length, hn]) rfl (nums_range _) (nums_range _) (bytesIn_of hn h4)
    (bytesIn_of (l := [44]) rfl (fun j u hj => by cases j with | zero => simp [Lib.byteCells] at hj; subst hj; simpa using hx | succ j => simp [Lib.byteCells] at hj)) (fun e => by cases e) hc (by omega) (by omega) h5
  rw [bytesOf_nums, bytesOf_nums, Lib.index_one] at h
  exact h

set_option maxHeartbeats 3200000 in
set_option maxRecDepth 100000 in
/-- A field written as it stands, another behind it. -/
theorem field_plain_more (w0 : World) (c k row s : Nat) (f X2 : List UInt8) (x : Cv) (ae a2 : Addr) (m : Int) (b : Nat) (v nv : Value) (w : World) (h : CSt w0 c k row s (rs (f ++ 44 :: X2)) x w) (g : Glob w0 ae a2 m)
    (hL : LineAt b v (ln (f ++ 44 :: X2)) w) (hb : b = row ∨ x.lg.ownBlock = some b) (hq1 : (44 : UInt8) ∉ f) (hq2 : (34 : UInt8) ∉ f) (hq3 : (10 : UInt8) ∉ f) (hX2 : X2 ≠ []) (hl2 : (f ++ 44 :: X2).length ≤ 200000000) (hl3 : x.T.length + f.length ≤ 500000000) :
    Calls Tryf.prog 42 #[.pointer (some ⟨c, 0, none⟩), v, nv] w fun e w' => ∃ v' tx, e = .returned (.tuple #[v', .bool true, .nilIface]) ∧ LineAt b v' (ln X2) w' ∧ CSt w0 c k row s (rs X2) { x with tx := tx, T := x.T ++ f } w' := by
  have hln : ln (f ++ 44 :: X2) = f ++ 44 :: ln X2 := by rw [ln_append hq3, ln_cons (by decide)]
  have hrs : rs (f ++ 44 :: X2) = rs X2 := by rw [rs_append hq3, rs_cons (by decide)]
  rw [hln] at hL
  rw [hrs] at h
  have hap := h.apart hb
  obtain ⟨o, cc, rfl, hlc, hcm, hcell⟩ := hL.form
  obtain ⟨l, hl⟩ : ∃ l, f ++ 44 :: ln X2 = l := ⟨_, rfl⟩
  rw [hl] at hlc hcell hL ⊢
  have hib : Lib.indexByte l 44 = (f.length : Nat) := by rw [← hl]; exact ib_at f _ hq1
  obtain ⟨l0, l', hl0, hl34⟩ : ∃ l0 l', l = l0 :: l' ∧ l0 ≠ 34 := by
    rw [← hl]
    cases f with
    | nil => exact ⟨44, _, rfl, by decide⟩
    | cons q t => exact ⟨q, _, rfl, fun e => hq2 (by rw [e]; exact List.mem_cons_self ..)⟩
  have hc0 : w.cell? ⟨b, o, none⟩ = some (.int .u8 (l0.toNat : Int)) := by simpa using hcell 0 _ (by rw [hl0]; simp [Lib.byteCells])
  obtain ⟨n, hn⟩ : ∃ n, l.length = n := ⟨_, rfl⟩
  obtain ⟨nf, hnf⟩ : ∃ nf, f.length = nf := ⟨_, rfl⟩
  have hnx : 1 ≤ (ln X2).length := by
    cases X2 with
    | nil => exact absurd rfl hX2
    | cons q t => obtain ⟨_, z, hz, _⟩ := ln_ne q t; rw [hz]; simp
  have hnn : nf + 2 ≤ n := by rw [← hn, ← hl, ← hnf]; simp; omega
  have hn9 : n ≤ 200000000 := by
    have h9 := congrArg List.length (ln_rs (f ++ 44 :: X2))
    rw [hln, hl, List.length_append, hn] at h9
    omega
  rw [hn] at hlc ⊢
  rw [hnf] at hib
  have hlb : ((n : Int) == 0) = false := beq_eq_false_iff_ne.2 (by omega)
  have hn0 : (0 : Int) < (n : Int) := by omega
  have hneb := ne34 l0 hl34
  have hl9 := l0.toNat_lt
  have H := hid h
  have HC := hid hcell
  have HL := hid (And.intro hl (And.intro hn (And.intro hnf hib)))
  clear h hcell hL hln hrs hl hl0 hn hnf hib
  go_enter Tryf.func42, Tryf.ntmps42
  go_wp2_with fail
  have hk1 : Kept (fun _ => False) w (w.alloc (.cells #[.int .u8 44] 5)) := (Kept.refl _ w).alloc _
  have hx1 : (w.alloc (.cells #[.int .u8 44] 5)).cell? ⟨w.heap.size, 0, none⟩ = some (.int .u8 44) := by rw [Lib.cell_of_heap (heap_alloc_new _ _)]; rfl
  have H1 := hid (H.out.below (w' := w.alloc (.cells #[.int .u8 44] 5)) ((Below.refl _ _).alloc (Nat.le_refl _) _))
  obtain ⟨a1, ha1⟩ : ∃ a1, w.heap.size = a1 := ⟨_, rfl⟩
  obtain ⟨w1, hw1⟩ : ∃ w1, w.alloc (.cells #[.int .u8 44] 5) = w1 := ⟨_, rfl⟩
  rw [hw1, ha1] at hx1
  rw [hw1] at hk1 H1
  rw [hw1, ha1]
  clear hw1 ha1
  have h41 : ∀ j u, (Lib.byteCells l)[j]? = some u → w1.cell? ⟨b, o + j, none⟩ = some u := fun j u hj => hk1.cell (HC.out j u hj) id
  refine (cut_c b o n cc l m a1 1 w1 HL.out.2.1 hlc h41 hx1 (g.c5 H1.out.bel) hn9).mono ?_
  rintro e w2 ⟨rfl, q, rfl⟩
  have hcv : Lib.cutV (some ⟨b, o, none⟩) n cc 1 (Lib.indexByte l 44) = .tuple #[.slice (some ⟨b, o, none⟩) nf cc, .slice (some ⟨b, o + (nf + 1), none⟩) (n - (nf + 1)) (cc - (nf + 1)), .bool true] := by
    rw [HL.out.2.2.2]
    unfold Lib.cutV Lib.fromV
    rw [if_pos (by omega)]
    have e1 : ((nf : Nat) : Int).toNat = nf := by omega
    rw [e1, if_neg (by omega)]
    simp [WideShapes.add_plain]
  rw [hcv]
  clear hcv hx1 h41
  have HK2 := hid (hk1.drewN q)
  have H2 := hid (H1.out.below (w' := w1.drewN q) ⟨rfl, rfl, rfl, Nat.le_refl _, fun _ _ => rfl⟩)
  obtain ⟨w2, hw2⟩ : ∃ w2, w1.drewN q = w2 := ⟨_, rfl⟩
  rw [hw2] at HK2 H2 ⊢
  clear hw2 hk1 H1 hc0
  have h42 : ∀ j u, (Lib.byteCells l)[j]? = some u → w2.cell? ⟨b, o + j, none⟩ = some u := fun j u hj => HK2.out.cell (HC.out j u hj) id
  have hft : l.take nf = f := by rw [← HL.out.1, ← HL.out.2.2.1]; simp
  have hf4 : ∀ j u, (Lib.byteCells f)[j]? = some u → w2.cell? ((⟨b, o, none⟩ : Addr).add j) = some u := fun j u hj => by
    rw [WideShapes.add_plain]
    rw [← hft] at hj
    exact h42 j u (cells_take l nf j u hj)
  have cIB := ib_c ⟨b, o, none⟩ cc nf f 34 34 w2 HL.out.2.2.1 rfl hf4
  rw [ib_not hq2] at cIB
  obtain ⟨ao1, n1, co1, w3, happ, hown1, hgr1, hwh1⟩ := app_bytes2 w2 w0.heap.size _ x.T f ⟨b, o, none⟩ nf cc H2.out.otx HL.out.2.2.1 hf4 (by have := HL.out.2.2.1; omega) H2.out.bel.size
  have hset := H2.out.setText (T' := x.T ++ f) hown1 hgr1 hwh1
  have hcb := (Kept.grown hgr1).heap H2.out.hc (own_ne H2.out.otx H2.out.hc (by decide))
  have H3 := hid hset.1
  have HK3 := hid hset.2
  have HAP := hid happ
  have H42 := hid h42
  have d4 : w2.cell? ⟨c, 5, none⟩ = some x.tx := H2.out.cell 5 _ rfl
  have d5 : w3.cell? ⟨c, 5, none⟩ = some x.tx := by rw [Lib.cell_of_heap hcb]; rfl
  have f5 : w3.frozen? ⟨c, 5, none⟩ = false := Lib.frozen_of_heap hcb 5
  clear hset hcb hown1 hgr1 hwh1 happ hf4 h42 hft
  go_wp2_with (first
    | (go_at_call 53; refine cIB.mono ?_; rintro e w' ⟨rfl, hw'⟩; rw [hw'])
    | (at_builtin; refine wpList_append_eq _ rfl _ _ 43 rfl _ _ _ w3 rfl rfl HAP.out ?_))
  go_ret3
  refine ⟨_, .slice ao1 n1 co1, rfl, ?_, H3.out⟩
  have hd : ln X2 = l.drop (nf + 1) := by rw [← HL.out.1, ← HL.out.2.2.1]; simp
  rw [hd]
  have h9 := LineAt.tail (n := nf + 1) (w := w3.setCell ⟨c, 5, none⟩ (.slice ao1 n1 co1)) (b := b) (l := l) (o := o) (c := cc) (by have := HL.out.2.1; omega) hcm (fun j u hj => HK3.out.cell (H42.out j u hj) (fun e => by rcases e with e | e; exact hap.1 e; exact hap.2.1 e))
  rw [HL.out.2.1] at h9
  exact h9

set_option maxHeartbeats 3200000 in
set_option maxRecDepth 100000 in
/-- A field written as it stands, the record's last. -/
theorem field_plain_last (w0 : World) (c k row s : Nat) (f W : List UInt8) (x : Cv) (ae a2 : Addr) (m : Int) (b : Nat) (v nv : Value) (w : World) (h : CSt w0 c k row s (rs (f ++ 13 :: 10 :: W)) x w) (g : Glob w0 ae a2 m)
    (hL : LineAt b v (ln (f ++ 13 :: 10 :: W)) w) (hb : b = row ∨ x.lg.ownBlock = some b) (hq1 : (44 : UInt8) ∉ f) (hq2 : (34 : UInt8) ∉ f) (hq3 : (10 : UInt8) ∉ f) (hl2 : (f ++ 13 :: 10 :: W).length ≤ 200000000) (hl3 : x.T.length + f.length ≤ 500000000) :
    Calls Tryf.prog 42 #[.pointer (some ⟨c, 0, none⟩), v, nv] w fun e w' => ∃ v' tx, e = .returned (.tuple #[v', .bool false, .nilIface]) ∧ CSt w0 c k row s W { x with tx := tx, T := x.T ++ f } w' := by
  have hln : ln (f ++ 13 :: 10 :: W) = f ++ [13, 10] := by rw [ln_append hq3, ln_cons (by decide)]; simp [ln]
  have hrs : rs (f ++ 13 :: 10 :: W) = W := by rw [rs_append hq3, rs_cons (by decide)]; simp [rs]
  rw [hln] at hL
  rw [hrs] at h
  have hap := h.apart hb
  obtain ⟨o, cc, rfl, hlc, hcm, hcell⟩ := hL.form
  obtain ⟨l, hl⟩ : ∃ l, f ++ [13, 10] = l := ⟨_, rfl⟩
  rw [hl] at hlc hcell hL ⊢
  have hib : Lib.indexByte l 44 = -1 := by
    rw [← hl]
    apply ib_not
    rw [List.mem_append, not_or]
    exact ⟨hq1, by decide⟩
  have htb : tb l = f := by rw [← hl]; exact tb_crlf f
  obtain ⟨l0, l', hl0, hl34⟩ : ∃ l0 l', l = l0 :: l' ∧ l0 ≠ 34 := by
    rw [← hl]
    cases f with
    | nil => exact ⟨13, _, rfl, by decide⟩
    | cons q t => exact ⟨q, _, rfl, fun e => hq2 (by rw [e]; exact List.mem_cons_self ..)⟩
  have hc0 : w.cell? ⟨b, o, none⟩ = some (.int .u8 (l0.toNat : Int)) := by simpa using hcell 0 _ (by rw [hl0]; simp [Lib.byteCells])
  obtain ⟨n, hn⟩ : ∃ n, l.length = n := ⟨_, rfl⟩
  obtain ⟨nf, hnf⟩ : ∃ nf, f.length = nf := ⟨_, rfl⟩
  have hnn : nf + 2 = n := by rw [← hn, ← hl, ← hnf]; simp
  have hn9 : n ≤ 200000000 := by
    have h9 := congrArg List.length (ln_rs (f ++ 13 :: 10 :: W))
    rw [hln, hl, List.length_append, hn] at h9
    omega
  have hlc2 := hlc
  rw [hn] at hlc ⊢
  have hlb : ((n : Int) == 0) = false := beq_eq_false_iff_ne.2 (by omega)
  have hn0 : (0 : Int) < (n : Int) := by omega
  have hneb := ne34 l0 hl34
  have hl9 := l0.toNat_lt
  have H := hid h
  have HC := hid hcell
  have HNN := hid hnn
  have HL := hid (And.intro hl (And.intro hn (And.intro hnf (And.intro hib htb))))
  clear h hcell hL hln hrs hl hl0 hn hnf hib hnn htb
  go_enter Tryf.func42, Tryf.ntmps42
  go_wp2_with fail
  have hk1 : Kept (fun _ => False) w (w.alloc (.cells #[.int .u8 44] 5)) := (Kept.refl _ w).alloc _
  have hx1 : (w.alloc (.cells #[.int .u8 44] 5)).cell? ⟨w.heap.size, 0, none⟩ = some (.int .u8 44) := by rw [Lib.cell_of_heap (heap_alloc_new _ _)]; rfl
  have H1 := hid (H.out.below (w' := w.alloc (.cells #[.int .u8 44] 5)) ((Below.refl _ _).alloc (Nat.le_refl _) _))
  obtain ⟨a1, ha1⟩ : ∃ a1, w.heap.size = a1 := ⟨_, rfl⟩
  obtain ⟨w1, hw1⟩ : ∃ w1, w.alloc (.cells #[.int .u8 44] 5) = w1 := ⟨_, rfl⟩
  rw [hw1, ha1] at hx1
  rw [hw1] at hk1 H1
  rw [hw1, ha1]
  clear hw1 ha1
  have h41 : ∀ j u, (Lib.byteCells l)[j]? = some u → w1.cell? ⟨b, o + j, none⟩ = some u := fun j u hj => hk1.cell (HC.out j u hj) id
  refine (cut_c b o n cc l m a1 1 w1 HL.out.2.1 hlc h41 hx1 (g.c5 H1.out.bel) hn9).mono ?_
  rintro e w2 ⟨rfl, q, rfl⟩
  have hcv : Lib.cutV (some ⟨b, o, none⟩) n cc 1 (Lib.indexByte l 44) = .tuple #[.slice (some ⟨b, o, none⟩) n cc, .slice none 0 0, .bool false] := by
    rw [HL.out.2.2.2.1]
    unfold Lib.cutV
    rw [if_neg (by omega)]
  rw [hcv]
  clear hcv hx1 h41
  have HK2 := hid (hk1.drewN q)
  have H2 := hid (H1.out.below (w' := w1.drewN q) ⟨rfl, rfl, rfl, Nat.le_refl _, fun _ _ => rfl⟩)
  obtain ⟨w2, hw2⟩ : ∃ w2, w1.drewN q = w2 := ⟨_, rfl⟩
  rw [hw2] at HK2 H2 ⊢
  clear hw2 hk1 H1 hc0
  go_wp2_with fail
  refine (trim_c b o n cc l w2 HL.out.2.1 hlc2 hcm (fun j u hj => HK2.out.cell (HC.out j u hj) id)).mono ?_
  rintro e w4 ⟨rfl, hb4⟩
  have HK4 := hid (HK2.out.trans (Kept.of_below hb4))
  have H4 := hid (H2.out.below hb4)
  rw [HL.out.2.2.2.2, HL.out.2.2.1]
  clear hb4 HK2 H2
  have h42 : ∀ j u, (Lib.byteCells l)[j]? = some u → w4.cell? ⟨b, o + j, none⟩ = some u := fun j u hj => HK4.out.cell (HC.out j u hj) id
  have hft : l.take nf = f := by rw [← HL.out.1, ← HL.out.2.2.1]; simp
  have hf4 : ∀ j u, (Lib.byteCells f)[j]? = some u → w4.cell? ((⟨b, o, none⟩ : Addr).add j) = some u := fun j u hj => by
    rw [WideShapes.add_plain]
    rw [← hft] at hj
    exact h42 j u (cells_take l nf j u hj)
  have cIB := ib_c ⟨b, o, none⟩ cc nf f 34 34 w4 HL.out.2.2.1 rfl hf4
  rw [ib_not hq2] at cIB
  obtain ⟨ao1, n1, co1, w3, happ, hown1, hgr1, hwh1⟩ := app_bytes2 w4 w0.heap.size _ x.T f ⟨b, o, none⟩ nf cc H4.out.otx HL.out.2.2.1 hf4 (by have := HL.out.2.2.1; omega) H4.out.bel.size
  have hset := H4.out.setText (T' := x.T ++ f) hown1 hgr1 hwh1
  have hcb := (Kept.grown hgr1).heap H4.out.hc (own_ne H4.out.otx H4.out.hc (by decide))
  have H3 := hid hset.1
  have HAP := hid happ
  have d4 : w4.cell? ⟨c, 5, none⟩ = some x.tx := H4.out.cell 5 _ rfl
  have d5 : w3.cell? ⟨c, 5, none⟩ = some x.tx := by rw [Lib.cell_of_heap hcb]; rfl
  have f5 : w3.frozen? ⟨c, 5, none⟩ = false := Lib.frozen_of_heap hcb 5
  clear hset hcb hown1 hgr1 hwh1 happ hf4 h42 hft
  go_wp2_with (first
    | (go_at_call 53; refine cIB.mono ?_; rintro e w' ⟨rfl, hw'⟩; rw [hw'])
    | (at_builtin; refine wpList_append_eq _ rfl _ _ 43 rfl _ _ _ w3 rfl rfl HAP.out ?_))
  go_ret3
  exact ⟨_, .slice ao1 n1 co1, rfl, H3.out⟩

set_option maxHeartbeats 3200000 in
set_option maxRecDepth 100000 in
/-- A field between double quotes, another behind it. -/
theorem field_quo_more (w0 : World) (c k row s : Nat) (f X2 : List UInt8) (x : Cv) (ae a2 : Addr) (m : Int) (b : Nat) (v nv : Value) (w : World) (h : CSt w0 c k row s (rs (34 :: (dbl f ++ 34 :: 44 :: X2))) x w) (g : Glob w0 ae a2 m)
    (hL : LineAt b v (ln (34 :: (dbl f ++ 34 :: 44 :: X2))) w) (hb : b = row ∨ x.lg.ownBlock = some b) (hX2 : X2 ≠ []) (h10 : (10 : UInt8) ∈ X2) (hl1 : x.line + nls f ≤ 1000000000) (hl2 : (dbl f ++ 34 :: 44 :: X2).length ≤ 200000000) (hl3 : x.T.length + f.length ≤ 500000000) :
    Calls Tryf.prog 42 #[.pointer (some ⟨c, 0, none⟩), v, nv] w fun e w' => ∃ v' b' lg L tx, e = .returned (.tuple #[v', .bool true, .nilIface]) ∧ LineAt b' v' (ln X2) w' ∧ (b' = row ∨ lg.ownBlock = some b') ∧ CSt w0 c k row s (rs X2) { x with line := x.line + nls f, lg := lg, L := L, tx := tx, T := x.T ++ f } w' := by
  rw [ln_cons (by decide)] at hL
  rw [rs_cons (by decide)] at h
  have hap := h.apart hb
  obtain ⟨o, cc, rfl, hlc, hcm, hcell⟩ := hL.form
  obtain ⟨l, hl⟩ : ∃ l, 34 :: ln (dbl f ++ 34 :: 44 :: X2) = l := ⟨_, rfl⟩
  rw [hl] at hlc hcell hL ⊢
  have hc0 : w.cell? ⟨b, o, none⟩ = some (.int .u8 34) := by simpa using hcell 0 _ (by rw [← hl]; simp [Lib.byteCells])
  obtain ⟨n, hn⟩ : ∃ n, l.length = n := ⟨_, rfl⟩
  obtain ⟨nz, hnz⟩ : ∃ nz, (ln (dbl f ++ 34 :: 44 :: X2)).length = nz := ⟨_, rfl⟩
  have hnn : n = nz + 1 := by rw [← hn, ← hl, ← hnz]; simp
  have hnz1 : 1 ≤ nz := by
    rw [← hnz]
    cases hd : dbl f ++ 34 :: 44 :: X2 with
    | nil => simp at hd
    | cons q t => obtain ⟨_, z, hz, _⟩ := ln_ne q t; rw [hz]; simp
  rw [hn] at hlc ⊢
  have hlb : ((n : Int) == 0) = false := beq_eq_false_iff_ne.2 (by omega)
  have hn0 : (0 : Int) < (n : Int) := by omega
  have hn1 : (1 : Int) ≤ (n : Int) := by omega
  have hncc : ¬ cc = 1 := by omega
  have hline : LineAt b (.slice (some ⟨b, o + 1, none⟩) (n - 1) (cc - 1)) (ln (dbl f ++ 34 :: 44 :: X2)) w := by
    have h9 := LineAt.tail (n := 1) (w := w) (b := b) (l := l) (o := o) (c := cc) (by omega) hcm (fun j u hj => hcell j u hj)
    rw [hn, ← hl] at h9
    exact h9
  have H := hid h
  have HLN := hid hline
  have HNN := hid hnn
  clear h hcell hL hl hn hnz hline hnn
  go_enter Tryf.func42, Tryf.ntmps42
  go_wp2_with fail
  refine (quoted_c w0 c k row s f (44 :: X2) 44 (X2) x ae a2 m b _ nv w H.out g HLN.out hb rfl (by decide) (by decide) (List.mem_cons_of_mem _ h10) hl1 hl2 hl3).mono ?_
  rintro e w1 ⟨v1, b1, lg1, L1, tx1, rfl, hl1', hb1, hst1⟩
  rw [ln_cons (by decide)] at hl1'
  rw [rs_cons (by decide)] at hst1
  obtain ⟨o1, cc1, rfl, hlc1, hcm1, hcell1⟩ := hl1'.form
  obtain ⟨l1, hl1d⟩ : ∃ l1, (44 : UInt8) :: ln X2 = l1 := ⟨_, rfl⟩
  rw [hl1d] at hlc1 hcell1 ⊢
  have hnx : 1 ≤ (ln X2).length := by
    cases X2 with
    | nil => exact absurd rfl hX2
    | cons q t => obtain ⟨_, z, hz, _⟩ := ln_ne q t; rw [hz]; simp
  obtain ⟨n1, hn1d⟩ : ∃ n1, l1.length = n1 := ⟨_, rfl⟩
  have hn12 : 2 ≤ n1 := by rw [← hn1d, ← hl1d]; simp; omega
  obtain ⟨q1, hq1⟩ := tb_head (d := 44) (by decide) (by decide) (ln X2)
  have hlc1' := hlc1
  rw [hn1d] at hlc1 ⊢
  obtain ⟨nt, hnt⟩ : ∃ nt, (tb l1).length = nt := ⟨_, rfl⟩
  have hnt1 : 1 ≤ nt := by rw [← hnt, ← hl1d, hq1]; simp
  have H1 := hid hst1
  have HB1 := hid hb1
  have HC1 := hid hcell1
  have HL1 := hid (And.intro hl1d (And.intro hn1d hnt))
  clear hst1 hb1 hcell1 hl1' hl1d hn1d hnt hc0
  go_wp2_with fail
  refine (trim_c b1 o1 n1 cc1 l1 w1 HL1.out.2.1 hlc1' hcm1 HC1.out).mono ?_
  rintro e w2 ⟨rfl, hb2⟩
  rw [HL1.out.2.2]
  have H2 := hid (H1.out.below hb2)
  have hcell2 : ∀ j u, (Lib.byteCells l1)[j]? = some u → w2.cell? ⟨b1, o1 + j, none⟩ = some u := fun j u hj => (Kept.of_below (S := fun _ => False) hb2).cell (HC1.out j u hj) id
  have hc2 : w2.cell? ⟨b1, o1, none⟩ = some (.int .u8 44) := by simpa using hcell2 0 _ (by rw [← HL1.out.1]; simp [Lib.byteCells])
  have HC2 := hid hcell2
  clear hb2 hcell2 H1
  have hntb : ((nt : Int) == 0) = false := beq_eq_false_iff_ne.2 (by omega)
  have hn10 : (0 : Int) < (n1 : Int) := by omega
  have hn11 : (1 : Int) ≤ (n1 : Int) := by omega
  have hncc1 : ¬ cc1 = 1 := by omega
  go_wp2_with fail
  go_ret3
  refine ⟨_, b1, lg1, L1, tx1, rfl, ?_, HB1.out, H2.out⟩
  have h9 := LineAt.tail (n := 1) (w := w2) (b := b1) (l := l1) (o := o1) (c := cc1) (by have := HL1.out.2.1; omega) hcm1 (fun j u hj => HC2.out j u hj)
  rw [HL1.out.2.1, ← HL1.out.1] at h9
  exact h9

set_option maxHeartbeats 3200000 in
set_option maxRecDepth 100000 in
/-- A field between double quotes, the record's last. -/
theorem field_quo_last (w0 : World) (c k row s : Nat) (f W : List UInt8) (x : Cv) (ae a2 : Addr) (m : Int) (b : Nat) (v nv : Value) (w : World) (h : CSt w0 c k row s (rs (34 :: (dbl f ++ 34 :: 13 :: 10 :: W))) x w) (g : Glob w0 ae a2 m)
    (hL : LineAt b v (ln (34 :: (dbl f ++ 34 :: 13 :: 10 :: W))) w) (hb : b = row ∨ x.lg.ownBlock = some b) (hl1 : x.line + nls f ≤ 1000000000) (hl2 : (dbl f ++ 34 :: 13 :: 10 :: W).length ≤ 200000000) (hl3 : x.T.length + f.length ≤ 500000000) :
    Calls Tryf.prog 42 #[.pointer (some ⟨c, 0, none⟩), v, nv] w fun e w' => ∃ v' lg L tx, e = .returned (.tuple #[v', .bool false, .nilIface]) ∧ CSt w0 c k row s W { x with line := x.line + nls f, lg := lg, L := L, tx := tx, T := x.T ++ f } w' := by
  rw [ln_cons (by decide)] at hL
  rw [rs_cons (by decide)] at h
  have hap := h.apart hb
  obtain ⟨o, cc, rfl, hlc, hcm, hcell⟩ := hL.form
  obtain ⟨l, hl⟩ : ∃ l, 34 :: ln (dbl f ++ 34 :: 13 :: 10 :: W) = l := ⟨_, rfl⟩
  rw [hl] at hlc hcell hL ⊢
  have hc0 : w.cell? ⟨b, o, none⟩ = some (.int .u8 34) := by simpa using hcell 0 _ (by rw [← hl]; simp [Lib.byteCells])
  obtain ⟨n, hn⟩ : ∃ n, l.length = n := ⟨_, rfl⟩
  obtain ⟨nz, hnz⟩ : ∃ nz, (ln (dbl f ++ 34 :: 13 :: 10 :: W)).length = nz := ⟨_, rfl⟩
  have hnn : n = nz + 1 := by rw [← hn, ← hl, ← hnz]; simp
  have hnz1 : 1 ≤ nz := by
    rw [← hnz]
    cases hd : dbl f ++ 34 :: 13 :: 10 :: W with
    | nil => simp at hd
    | cons q t => obtain ⟨_, z, hz, _⟩ := ln_ne q t; rw [hz]; simp
  rw [hn] at hlc ⊢
  have hlb : ((n : Int) == 0) = false := beq_eq_false_iff_ne.2 (by omega)
  have hn0 : (0 : Int) < (n : Int) := by omega
  have hn1 : (1 : Int) ≤ (n : Int) := by omega
  have hncc : ¬ cc = 1 := by omega
  have hline : LineAt b (.slice (some ⟨b, o + 1, none⟩) (n - 1) (cc - 1)) (ln (dbl f ++ 34 :: 13 :: 10 :: W)) w := by
    have h9 := LineAt.tail (n := 1) (w := w) (b := b) (l := l) (o := o) (c := cc) (by omega) hcm (fun j u hj => hcell j u hj)
    rw [hn, ← hl] at h9
    exact h9
  have H := hid h
  have HLN := hid hline
  have HNN := hid hnn
  clear h hcell hL hl hn hnz hline hnn
  go_enter Tryf.func42, Tryf.ntmps42
  go_wp2_with fail
  refine (quoted_c w0 c k row s f (13 :: 10 :: W) 13 (10 :: W) x ae a2 m b _ nv w H.out g HLN.out hb rfl (by decide) (by decide) (by simp) hl1 hl2 hl3).mono ?_
  rintro e w1 ⟨v1, b1, lg1, L1, tx1, rfl, hl1', hb1, hst1⟩
  have e1 : ln (13 :: 10 :: W) = [13, 10] := by rw [ln_cons (by decide)]; simp [ln]
  have e2 : rs (13 :: 10 :: W) = W := by rw [rs_cons (by decide)]; simp [rs]
  rw [e1] at hl1'
  rw [e2] at hst1
  obtain ⟨o1, cc1, rfl, hlc1, hcm1, hcell1⟩ := hl1'.form
  have H1 := hid hst1
  have HC1 := hid hcell1
  clear hst1 hb1 hcell1 hl1' e1 e2 hc0
  go_wp2_with fail
  refine (trim_c b1 o1 2 cc1 [13, 10] w1 rfl hlc1 hcm1 HC1.out).mono ?_
  rintro e w2 ⟨rfl, hb2⟩
  have e3 : (tb [13, 10]).length = 0 := by rw [show ([13, 10] : List UInt8) = [] ++ [13, 10] from rfl, tb_crlf]; rfl
  rw [e3]
  have H2 := hid (H1.out.below hb2)
  clear hb2 H1 e3
  go_wp2_with fail
  go_ret3
  exact ⟨_, lg1, L1, tx1, rfl, H2.out⟩

theorem encF_quo {one : Bool} {f : List UInt8} (h : quo one f = true) (Y : List UInt8) : encF one f ++ Y = 34 :: (dbl f ++ 34 :: Y) := by
  unfold encF
  rw [if_pos h]
  simp
theorem encF_plain {one : Bool} {f : List UInt8} (h : quo one f = false) : encF one f = f := by
  unfold encF
  rw [if_neg (by rw [h]; decide)]
/-- field, another behind it. -/
theorem field_more (w0 : World) (c k row s : Nat) (one : Bool) (f X2 : List UInt8) (x : Cv) (ae a2 : Addr) (m : Int) (b : Nat) (v nv : Value) (w : World) (h : CSt w0 c k row s (rs (encF one f ++ 44 :: X2)) x w) (g : Glob w0 ae a2 m)
    (hL : LineAt b v (ln (encF one f ++ 44 :: X2)) w) (hb : b = row ∨ x.lg.ownBlock = some b) (hX2 : X2 ≠ []) (h10 : (10 : UInt8) ∈ X2) (hl1 : x.line + nls f ≤ 1000000000) (hl2 : (encF one f ++ 44 :: X2).length ≤ 200000000) (hl3 : x.T.length + f.length ≤ 500000000) :
    Calls Tryf.prog 42 #[.pointer (some ⟨c, 0, none⟩), v, nv] w fun e w' => ∃ v' b' lg L tx, e = .returned (.tuple #[v', .bool true, .nilIface]) ∧ LineAt b' v' (ln X2) w' ∧ (b' = row ∨ lg.ownBlock = some b') ∧ CSt w0 c k row s (rs X2) { x with line := x.line + nls f, lg := lg, L := L, tx := tx, T := x.T ++ f } w' := by
  cases hq : quo one f with
  | true =>
    rw [encF_quo hq] at h hL hl2
    exact field_quo_more w0 c k row s f X2 x ae a2 m b v nv w h g hL hb hX2 h10 hl1 (by simp at hl2 ⊢; omega) hl3
  | false =>
    obtain ⟨q1, q2, _, q3, _⟩ := quo_false hq
    rw [encF_plain hq] at h hL hl2
    refine (field_plain_more w0 c k row s f X2 x ae a2 m b v nv w h g hL hb q1 q2 q3 hX2 hl2 hl3).mono ?_
    rintro e w' ⟨v', tx, h1, h2, h3⟩
    exact ⟨v', b, x.lg, x.L, tx, h1, h2, hb, by rw [nls_none q3]; exact h3⟩
/-- field, the record's last. -/
theorem field_last (w0 : World) (c k row s : Nat) (one : Bool) (f W : List UInt8) (x : Cv) (ae a2 : Addr) (m : Int) (b : Nat) (v nv : Value) (w : World) (h : CSt w0 c k row s (rs (encF one f ++ 13 :: 10 :: W)) x w) (g : Glob w0 ae a2 m)
    (hL : LineAt b v (ln (encF one f ++ 13 :: 10 :: W)) w) (hb : b = row ∨ x.lg.ownBlock = some b) (hl1 : x.line + nls f ≤ 1000000000) (hl2 : (encF one f ++ 13 :: 10 :: W).length ≤ 200000000) (hl3 : x.T.length + f.length ≤ 500000000) :
    Calls Tryf.prog 42 #[.pointer (some ⟨c, 0, none⟩), v, nv] w fun e w' => ∃ v' lg L tx, e = .returned (.tuple #[v', .bool false, .nilIface]) ∧ CSt w0 c k row s W { x with line := x.line + nls f, lg := lg, L := L, tx := tx, T := x.T ++ f } w' := by
  cases hq : quo one f with
  | true =>
    rw [encF_quo hq] at h hL hl2
    exact field_quo_last w0 c k row s f W x ae a2 m b v nv w h g hL hb hl1 (by simp at hl2 ⊢; omega) hl3
  | false =>
    obtain ⟨q1, q2, _, q3, _⟩ := quo_false hq
    rw [encF_plain hq] at h hL hl2
    refine (field_plain_last w0 c k row s f W x ae a2 m b v nv w h g hL hb q1 q2 q3 hl2 hl3).mono ?_
    rintro e w' ⟨v', tx, h1, h3⟩
    exact ⟨v', x.lg, x.L, tx, h1, by rw [nls_none q3]; exact h3⟩
end Go.Proofs.Qxb6613956aFmt
