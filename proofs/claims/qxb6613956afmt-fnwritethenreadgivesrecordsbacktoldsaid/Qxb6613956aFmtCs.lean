/-
  csv.Reader in memory: its block, its reader, its four rows.
-/
import Derived.Test.Qxb6613956aFmtRd
import Derived.Test.Qxb6613956aFmtPlain
namespace Go.Proofs.Qxb6613956aFmt
open Go.RowKit Go.Shelf
set_option linter.unusedSimpArgs false

abbrev strV' (l : List UInt8) : Value := .string ⟨l.toArray⟩
/-- What is left to read, however much of it the row keeps. -/
def RInv (w0 : World) (k row s : Nat) (R : List UInt8) (w : World) : Prop := ∃ S B i r e cur, R = B ++ S.drop i ∧ RSt w0 k row s S B i r e cur .nilIface w
theorem RInv.kept {w0 w w' : World} {k row s : Nat} {R : List UInt8} {Z : Nat → Prop} (h : RInv w0 k row s R w) (hk : Kept Z w w') (h1 : ¬ Z k) (h2 : ¬ Z row) (h3 : ¬ Z s) (h5 : ∀ b, Z b → w0.heap.size ≤ b) : RInv w0 k row s R w' := by
  obtain ⟨S, B, i, r, e, cur, hR, h⟩ := h
  exact ⟨S, B, i, r, e, cur, hR, h.kept hk h1 h2 h3 h5⟩
theorem own_kept {w w' : World} {B t sz n : Nat} {v : Value} {xs : List Value} {Z : Nat → Prop} (h : w.ownsRow B t sz v n xs) (hk : Kept Z w w') (h2 : ∀ b, v.ownBlock = some b → ¬ Z b) : w'.ownsRow B t sz v n xs := by
  refine ⟨h.1, ?_⟩
  rcases h.2 with e | ⟨g, cap, cur, hv, hbg, hg, rest⟩
  · exact Or.inl e
  · exact Or.inr ⟨g, cap, cur, hv, hbg, hk.heap hg (h2 g (by rw [hv]; rfl)), rest⟩
theorem own_ne {w : World} {B t sz n b t' : Nat} {v : Value} {xs : List Value} {cs : Array Value} {fz : Nat × Nat} (h : w.ownsRow B t sz v n xs) (hb : w.heap[b]? = some (.cells cs t' fz)) (ht : t' ≠ t) : v.ownBlock ≠ some b := fun e => by
  rcases h.2 with ⟨hv, _⟩ | ⟨g, cap, cur, hv, hbg, hg, rest⟩
  · rw [hv] at e; simp [Value.ownBlock] at e
  · rw [hv] at e
    simp only [Value.ownBlock, Option.some.injEq] at e
    rw [e, hb] at hg
    simp at hg
    exact ht hg.2.1
theorem own_apart {w : World} {B t t' sz sz' n n' b : Nat} {v v' : Value} {xs xs' : List Value} (h : w.ownsRow B t sz v n xs) (h' : w.ownsRow B t' sz' v' n' xs') (ht : t' ≠ t) (hb : v'.ownBlock = some b) : v.ownBlock ≠ some b := by
  rcases h'.2 with ⟨hv, _⟩ | ⟨g, cap, cur, hv, hbg, hg, rest⟩
  · rw [hv] at hb; simp [Value.ownBlock] at hb
  · rw [hv] at hb
    simp only [Value.ownBlock, Option.some.injEq] at hb
    rw [← hb]
    exact own_ne h hg ht
theorem own_lo {w : World} {B t sz n b : Nat} {v : Value} {xs : List Value} (h : w.ownsRow B t sz v n xs) (hb : v.ownBlock = some b) : B ≤ b := (h.lt b hb).1
theorem own_hi {w : World} {B t sz n b : Nat} {v : Value} {xs : List Value} (h : w.ownsRow B t sz v n xs) (hb : v.ownBlock = some b) : b < w.heap.size := (h.lt b hb).2

/-- What csv.Reader's cells hold. -/
structure Cv where
  line : Nat
  start : Nat
  fields : Nat
  lg : Value
  tx : Value
  en : Value
  rc : Value
  L : List UInt8
  T : List UInt8
  E : List Nat
  Q : List (List UInt8)
def Cv.cells (k : Nat) (x : Cv) : Array Value := #[.pointer (some ⟨k, 0, none⟩), .int .i64 (x.line : Nat), .int .i64 (x.start : Nat), .int .i64 (x.fields : Nat), x.lg, x.tx, x.en, x.rc]
def numV (n : Nat) : Value := .int .i64 (n : Nat)
/-- csv.Reader in block c, over the bufio.Reader in block k. -/
structure CSt (w0 : World) (c k row s : Nat) (R : List UInt8) (x : Cv) (w : World) : Prop where
  hc : w.heap[c]? = some (.cells (x.cells k) 69 (0, 0))
  rd : RInv w0 k row s R w
  olg : w.ownsRow w0.heap.size 5 1 x.lg x.L.length (Lib.byteCells x.L)
  otx : w.ownsRow w0.heap.size 5 1 x.tx x.T.length (Lib.byteCells x.T)
  oen : w.ownsRow w0.heap.size 3 1 x.en x.E.length (x.E.map numV)
  orc : w.ownsRow w0.heap.size 9 1 x.rc x.Q.length (x.Q.map strV')
  d1 : x.lg.ownBlock ≠ some row
  d2 : x.tx.ownBlock ≠ some row
  d3 : ∀ b, x.lg.ownBlock = some b → x.tx.ownBlock ≠ some b
  lc : w0.heap.size ≤ c
section
variable {w0 w w' : World} {c k row s : Nat} {R : List UInt8} {x : Cv}
theorem CSt.bel (h : CSt w0 c k row s R x w) : Below w0.heap.size w0 w := by obtain ⟨_, _, _, _, _, _, _, h⟩ := h.rd; exact h.bel
theorem CSt.low (h : CSt w0 c k row s R x w) : w0.heap.size ≤ k ∧ w0.heap.size ≤ row ∧ w0.heap.size ≤ s := by obtain ⟨_, _, _, _, _, _, _, h⟩ := h.rd; exact ⟨h.lk, h.lrow, h.ls⟩
theorem CSt.hk (h : CSt w0 c k row s R x w) : ∃ cs, w.heap[k]? = some (.cells cs 110 (0, 0)) := by obtain ⟨_, _, _, _, _, _, _, h⟩ := h.rd; obtain ⟨_, _, h⟩ := h.hk; exact ⟨_, h⟩
theorem CSt.hrow (h : CSt w0 c k row s R x w) : ∃ cs, w.heap[row]? = some (.cells cs 5 (0, 0)) := by obtain ⟨_, _, _, _, _, _, _, h⟩ := h.rd; exact ⟨_, h.hrow⟩
theorem CSt.hs (h : CSt w0 c k row s R x w) : ∃ cs, w.heap[s]? = some (.cells cs 84 (0, 0)) := by obtain ⟨_, _, _, _, _, _, _, h⟩ := h.rd; obtain ⟨_, h⟩ := h.hs; exact ⟨_, h⟩
theorem CSt.ck (h : CSt w0 c k row s R x w) : k ≠ c := fun e => by obtain ⟨_, h2⟩ := h.hk; rw [e, h.hc] at h2; simp at h2
theorem CSt.crow (h : CSt w0 c k row s R x w) : row ≠ c := fun e => by obtain ⟨_, h2⟩ := h.hrow; rw [e, h.hc] at h2; simp at h2
theorem CSt.cs (h : CSt w0 c k row s R x w) : s ≠ c := fun e => by obtain ⟨_, h2⟩ := h.hs; rw [e, h.hc] at h2; simp at h2
theorem CSt.cell (h : CSt w0 c k row s R x w) (i : Nat) (v : Value) (hv : (x.cells k)[i]? = some v) : w.cell? ⟨c, i, none⟩ = some v := by rw [Lib.cell_of_heap h.hc]; exact hv
theorem CSt.frozen (h : CSt w0 c k row s R x w) (i : Nat) : w.frozen? ⟨c, i, none⟩ = false := Lib.frozen_of_heap h.hc i
/-- Whatever keeps the reader's blocks keeps it. -/
theorem CSt.kept {Z : Nat → Prop} (h : CSt w0 c k row s R x w) (hk : Kept Z w w') (h0 : ∀ b, Z b → w0.heap.size ≤ b) (h1 : ¬ Z c) (h2 : ¬ Z k) (h3 : ¬ Z row) (h4 : ¬ Z s)
    (h5 : ∀ b, x.lg.ownBlock = some b → ¬ Z b) (h6 : ∀ b, x.tx.ownBlock = some b → ¬ Z b) (h7 : ∀ b, x.en.ownBlock = some b → ¬ Z b) (h8 : ∀ b, x.rc.ownBlock = some b → ¬ Z b) : CSt w0 c k row s R x w' :=
  ⟨hk.heap h.hc h1, h.rd.kept hk h2 h3 h4 h0, own_kept h.olg hk h5, own_kept h.otx hk h6, own_kept h.oen hk h7, own_kept h.orc hk h8, h.d1, h.d2, h.d3, h.lc⟩
theorem CSt.below (h : CSt w0 c k row s R x w) (hb : Below w.heap.size w w') : CSt w0 c k row s R x w' :=
  h.kept (Z := fun _ => False) (Kept.of_below hb) (fun _ e => e.elim) id id id id (fun _ _ => id) (fun _ _ => id) (fun _ _ => id) (fun _ _ => id)
/-- A store into the reader's own block. -/
theorem CSt.store (h : CSt w0 c k row s R x w) (i : Nat) (v : Value) (x' : Cv) (hx : (x.cells k).setIfInBounds i v = x'.cells k) (e1 : x'.lg = x.lg) (e2 : x'.tx = x.tx) (e3 : x'.en = x.en) (e4 : x'.rc = x.rc) (e5 : x'.L = x.L) (e6 : x'.T = x.T) (e7 : x'.E = x.E) (e8 : x'.Q = x.Q) :
    CSt w0 c k row s R x' (w.setCell ⟨c, i, none⟩ v) := by
  have hk : Kept (· = c) w (w.setCell ⟨c, i, none⟩ v) := Kept.setCell (S := (· = c)) (Kept.refl _ _) ⟨c, i, none⟩ rfl _
  refine ⟨?_, h.rd.kept hk h.ck h.crow h.cs (fun b e => e ▸ h.lc), ?_, ?_, ?_, ?_, e1 ▸ h.d1, e2 ▸ h.d2, by rw [e1, e2]; exact h.d3, h.lc⟩
  · rw [heap_set h.hc, hx]
  · rw [e1, e5]; exact own_kept h.olg hk (fun b e e' => own_ne h.olg h.hc (by decide) (e' ▸ e))
  · rw [e2, e6]; exact own_kept h.otx hk (fun b e e' => own_ne h.otx h.hc (by decide) (e' ▸ e))
  · rw [e3, e7]; exact own_kept h.oen hk (fun b e e' => own_ne h.oen h.hc (by decide) (e' ▸ e))
  · rw [e4, e8]; exact own_kept h.orc hk (fun b e e' => own_ne h.orc h.hc (by decide) (e' ▸ e))
/-- r.text behind an append, stored. -/
theorem CSt.setText (h : CSt w0 c k row s R x w) {v' : Value} {T' : List UInt8} {w1 : World} (hown : w1.ownsRow w0.heap.size 5 1 v' T'.length (Lib.byteCells T')) (hg : w.grownBy w1 x.tx.ownBlock) (hl : ∀ b, v'.ownBlock = some b → x.tx.ownBlock = some b ∨ w.heap.size ≤ b) :
    CSt w0 c k row s R { x with tx := v', T := T' } (w1.setCell ⟨c, 5, none⟩ v') ∧ Kept (fun b => b = c ∨ x.tx.ownBlock = some b) w (w1.setCell ⟨c, 5, none⟩ v') := by
  have hk1 : Kept (fun b => b = c ∨ x.tx.ownBlock = some b) w w1 := (Kept.grown hg).mono (fun _ _ e => Or.inr e)
  have hk2 : Kept (· = c) w1 (w1.setCell ⟨c, 5, none⟩ v') := Kept.setCell (S := (· = c)) (Kept.refl _ _) ⟨c, 5, none⟩ rfl _
  have hk : Kept (fun b => b = c ∨ x.tx.ownBlock = some b) w (w1.setCell ⟨c, 5, none⟩ v') := hk1.setCell ⟨c, 5, none⟩ (Or.inl rfl) _
  have hlo : ∀ b, (b = c ∨ x.tx.ownBlock = some b) → w0.heap.size ≤ b := fun b e => by rcases e with e | e; exact e ▸ h.lc; exact own_lo h.otx e
  obtain ⟨_, hkk⟩ := h.hk
  obtain ⟨_, hrr⟩ := h.hrow
  obtain ⟨_, hss⟩ := h.hs
  have hc1 : w1.heap[c]? = some (.cells (x.cells k) 69 (0, 0)) := (Kept.grown hg).heap h.hc (own_ne h.otx h.hc (by decide))
  have hv : ∀ b o, w.heap[b]? = some o → x.tx.ownBlock ≠ some b → v'.ownBlock ≠ some b := fun b o hb hn e => by
    rcases hl b e with e' | e'
    · exact hn e'
    · have := lt_heap hb; omega
  refine ⟨⟨?_, h.rd.kept hk (fun e => by rcases e with e | e; exact h.ck e; exact own_ne h.otx hkk (by decide) e) (fun e => by rcases e with e | e; exact h.crow e; exact h.d2 e) (fun e => by rcases e with e | e; exact h.cs e; exact own_ne h.otx hss (by decide) e) hlo, ?_, ?_, ?_, ?_, h.d1, hv row _ hrr h.d2, fun b e => ?_, h.lc⟩, hk⟩
  · rw [heap_set hc1]
    simp [Cv.cells]
  · exact own_kept h.olg hk (fun b e e' => by rcases e' with e' | e'; exact own_ne h.olg h.hc (by decide) (e' ▸ e); exact h.d3 b e e')
  · exact own_kept hown hk2 (fun b e e' => hv c _ h.hc (own_ne h.otx h.hc (by decide)) (e' ▸ e))
  · exact own_kept h.oen hk (fun b e e' => by rcases e' with e' | e'; exact own_ne h.oen h.hc (by decide) (e' ▸ e); exact own_apart h.oen h.otx (by decide) e' e)
  · exact own_kept h.orc hk (fun b e e' => by rcases e' with e' | e'; exact own_ne h.orc h.hc (by decide) (e' ▸ e); exact own_apart h.orc h.otx (by decide) e' e)
  · intro e'
    rcases hl b e' with e'' | e''
    · exact h.d3 b e e''
    · have := own_hi h.olg e; omega
/-- r.long behind an append, stored. -/
theorem CSt.setLong (h : CSt w0 c k row s R x w) {v' : Value} {L' : List UInt8} {w1 : World} (hown : w1.ownsRow w0.heap.size 5 1 v' L'.length (Lib.byteCells L')) (hg : w.grownBy w1 x.lg.ownBlock) (hl : ∀ b, v'.ownBlock = some b → x.lg.ownBlock = some b ∨ w.heap.size ≤ b) :
    CSt w0 c k row s R { x with lg := v', L := L' } (w1.setCell ⟨c, 4, none⟩ v') ∧ Kept (fun b => b = c ∨ x.lg.ownBlock = some b) w (w1.setCell ⟨c, 4, none⟩ v') := by
  have hk1 : Kept (fun b => b = c ∨ x.lg.ownBlock = some b) w w1 := (Kept.grown hg).mono (fun _ _ e => Or.inr e)
  have hk2 : Kept (· = c) w1 (w1.setCell ⟨c, 4, none⟩ v') := Kept.setCell (S := (· = c)) (Kept.refl _ _) ⟨c, 4, none⟩ rfl _
  have hk : Kept (fun b => b = c ∨ x.lg.ownBlock = some b) w (w1.setCell ⟨c, 4, none⟩ v') := hk1.setCell ⟨c, 4, none⟩ (Or.inl rfl) _
  have hlo : ∀ b, (b = c ∨ x.lg.ownBlock = some b) → w0.heap.size ≤ b := fun b e => by rcases e with e | e; exact e ▸ h.lc; exact own_lo h.olg e
  obtain ⟨_, hkk⟩ := h.hk
  obtain ⟨_, hrr⟩ := h.hrow
  obtain ⟨_, hss⟩ := h.hs
  have hc1 : w1.heap[c]? = some (.cells (x.cells k) 69 (0, 0)) := (Kept.grown hg).heap h.hc (own_ne h.olg h.hc (by decide))
  have hv : ∀ b o, w.heap[b]? = some o → x.lg.ownBlock ≠ some b → v'.ownBlock ≠ some b := fun b o hb hn e => by
    rcases hl b e with e' | e'
    · exact hn e'
    · have := lt_heap hb; omega
  refine ⟨⟨?_, h.rd.kept hk (fun e => by rcases e with e | e; exact h.ck e; exact own_ne h.olg hkk (by decide) e) (fun e => by rcases e with e | e; exact h.crow e; exact h.d1 e) (fun e => by rcases e with e | e; exact h.cs e; exact own_ne h.olg hss (by decide) e) hlo, ?_, ?_, ?_, ?_, hv row _ hrr h.d1, h.d2, fun b e => ?_, h.lc⟩, hk⟩
  · rw [heap_set hc1]
    simp [Cv.cells]
  · exact own_kept hown hk2 (fun b e e' => hv c _ h.hc (own_ne h.olg h.hc (by decide)) (e' ▸ e))
  · exact own_kept h.otx hk (fun b e e' => by rcases e' with e' | e'; exact own_ne h.otx h.hc (by decide) (e' ▸ e); exact h.d3 b e' e)
  · exact own_kept h.oen hk (fun b e e' => by rcases e' with e' | e'; exact own_ne h.oen h.hc (by decide) (e' ▸ e); exact own_apart h.oen h.olg (by decide) e' e)
  · exact own_kept h.orc hk (fun b e e' => by rcases e' with e' | e'; exact own_ne h.orc h.hc (by decide) (e' ▸ e); exact own_apart h.orc h.olg (by decide) e' e)
  · intro e'
    rcases hl b e with e'' | e''
    · exact h.d3 b e'' e'
    · have := own_hi h.otx e'; omega
/-- r.ends behind an append, stored. -/
theorem CSt.setEnds (h : CSt w0 c k row s R x w) {v' : Value} {E' : List Nat} {w1 : World} (hown : w1.ownsRow w0.heap.size 3 1 v' E'.length (E'.map numV)) (hg : Kept (fun b => x.en.ownBlock = some b) w w1) (hl : ∀ b, v'.ownBlock = some b → x.en.ownBlock = some b ∨ w.heap.size ≤ b) :
    CSt w0 c k row s R { x with en := v', E := E' } (w1.setCell ⟨c, 6, none⟩ v') ∧ Kept (fun b => b = c ∨ x.en.ownBlock = some b) w (w1.setCell ⟨c, 6, none⟩ v') := by
  have hk1 : Kept (fun b => b = c ∨ x.en.ownBlock = some b) w w1 := hg.mono (fun _ _ e => Or.inr e)
  have hk2 : Kept (· = c) w1 (w1.setCell ⟨c, 6, none⟩ v') := Kept.setCell (S := (· = c)) (Kept.refl _ _) ⟨c, 6, none⟩ rfl _
  have hk : Kept (fun b => b = c ∨ x.en.ownBlock = some b) w (w1.setCell ⟨c, 6, none⟩ v') := hk1.setCell ⟨c, 6, none⟩ (Or.inl rfl) _
  have hlo : ∀ b, (b = c ∨ x.en.ownBlock = some b) → w0.heap.size ≤ b := fun b e => by rcases e with e | e; exact e ▸ h.lc; exact own_lo h.oen e
  obtain ⟨_, hkk⟩ := h.hk
  obtain ⟨_, hrr⟩ := h.hrow
  obtain ⟨_, hss⟩ := h.hs
  have hc1 : w1.heap[c]? = some (.cells (x.cells k) 69 (0, 0)) := hg.heap h.hc (own_ne h.oen h.hc (by decide))
  have hv : ∀ b o, w.heap[b]? = some o → x.en.ownBlock ≠ some b → v'.ownBlock ≠ some b := fun b o hb hn e => by
    rcases hl b e with e' | e'
    · exact hn e'
    · have := lt_heap hb; omega
  refine ⟨⟨?_, h.rd.kept hk (fun e => by rcases e with e | e; exact h.ck e; exact own_ne h.oen hkk (by decide) e) (fun e => by rcases e with e | e; exact h.crow e; exact own_ne h.oen hrr (by decide) e) (fun e => by rcases e with e | e; exact h.cs e; exact own_ne h.oen hss (by decide) e) hlo, ?_, ?_, ?_, ?_, h.d1, h.d2, h.d3, h.lc⟩, hk⟩
  · rw [heap_set hc1]
    simp [Cv.cells]
  · exact own_kept h.olg hk (fun b e e' => by rcases e' with e' | e'; exact own_ne h.olg h.hc (by decide) (e' ▸ e); exact own_apart h.olg h.oen (by decide) e' e)
  · exact own_kept h.otx hk (fun b e e' => by rcases e' with e' | e'; exact own_ne h.otx h.hc (by decide) (e' ▸ e); exact own_apart h.otx h.oen (by decide) e' e)
  · exact own_kept hown hk2 (fun b e e' => hv c _ h.hc (own_ne h.oen h.hc (by decide)) (e' ▸ e))
  · exact own_kept h.orc hk (fun b e e' => by rcases e' with e' | e'; exact own_ne h.orc h.hc (by decide) (e' ▸ e); exact own_apart h.orc h.oen (by decide) e' e)
/-- r.record behind an append, stored. -/
theorem CSt.setRec (h : CSt w0 c k row s R x w) {v' : Value} {Q' : List (List UInt8)} {w1 : World} (hown : w1.ownsRow w0.heap.size 9 1 v' Q'.length (Q'.map strV')) (hg : Kept (fun b => x.rc.ownBlock = some b) w w1) (hl : ∀ b, v'.ownBlock = some b → x.rc.ownBlock = some b ∨ w.heap.size ≤ b) :
    CSt w0 c k row s R { x with rc := v', Q := Q' } (w1.setCell ⟨c, 7, none⟩ v') ∧ Kept (fun b => b = c ∨ x.rc.ownBlock = some b) w (w1.setCell ⟨c, 7, none⟩ v') := by
  have hk1 : Kept (fun b => b = c ∨ x.rc.ownBlock = some b) w w1 := hg.mono (fun _ _ e => Or.inr e)
  have hk2 : Kept (· = c) w1 (w1.setCell ⟨c, 7, none⟩ v') := Kept.setCell (S := (· = c)) (Kept.refl _ _) ⟨c, 7, none⟩ rfl _
  have hk : Kept (fun b => b = c ∨ x.rc.ownBlock = some b) w (w1.setCell ⟨c, 7, none⟩ v') := hk1.setCell ⟨c, 7, none⟩ (Or.inl rfl) _
  have hlo : ∀ b, (b = c ∨ x.rc.ownBlock = some b) → w0.heap.size ≤ b := fun b e => by rcases e with e | e; exact e ▸ h.lc; exact own_lo h.orc e
  obtain ⟨_, hkk⟩ := h.hk
  obtain ⟨_, hrr⟩ := h.hrow
  obtain ⟨_, hss⟩ := h.hs
  have hc1 : w1.heap[c]? = some (.cells (x.cells k) 69 (0, 0)) := hg.heap h.hc (own_ne h.orc h.hc (by decide))
  have hv : ∀ b o, w.heap[b]? = some o → x.rc.ownBlock ≠ some b → v'.ownBlock ≠ some b := fun b o hb hn e => by
    rcases hl b e with e' | e'
    · exact hn e'
    · have := lt_heap hb; omega
  refine ⟨⟨?_, h.rd.kept hk (fun e => by rcases e with e | e; exact h.ck e; exact own_ne h.orc hkk (by decide) e) (fun e => by rcases e with e | e; exact h.crow e; exact own_ne h.orc hrr (by decide) e) (fun e => by rcases e with e | e; exact h.cs e; exact own_ne h.orc hss (by decide) e) hlo, ?_, ?_, ?_, ?_, h.d1, h.d2, h.d3, h.lc⟩, hk⟩
  · rw [heap_set hc1]
    simp [Cv.cells]
  · exact own_kept h.olg hk (fun b e e' => by rcases e' with e' | e'; exact own_ne h.olg h.hc (by decide) (e' ▸ e); exact own_apart h.olg h.orc (by decide) e' e)
  · exact own_kept h.otx hk (fun b e e' => by rcases e' with e' | e'; exact own_ne h.otx h.hc (by decide) (e' ▸ e); exact own_apart h.otx h.orc (by decide) e' e)
  · exact own_kept h.oen hk (fun b e e' => by rcases e' with e' | e'; exact own_ne h.oen h.hc (by decide) (e' ▸ e); exact own_apart h.oen h.orc (by decide) e' e)
  · exact own_kept hown hk2 (fun b e e' => hv c _ h.hc (own_ne h.orc h.hc (by decide)) (e' ▸ e))
/-- The reader behind a call that changed the bufio.Reader's blocks alone. -/
theorem CSt.read (h : CSt w0 c k row s R x w) {R' : List UInt8} (hk : Kept (fun b => b = k ∨ b = row ∨ b = s) w w') (hr : RInv w0 k row s R' w') : CSt w0 c k row s R' x w' := by
  obtain ⟨_, hkk⟩ := h.hk
  obtain ⟨_, hrr⟩ := h.hrow
  obtain ⟨_, hss⟩ := h.hs
  refine ⟨hk.heap h.hc (fun e => by rcases e with e | e | e; exact h.ck e.symm; exact h.crow e.symm; exact h.cs e.symm), hr, ?_, ?_, ?_, ?_, h.d1, h.d2, h.d3, h.lc⟩
  · exact own_kept h.olg hk (fun b e e' => by rcases e' with e' | e' | e'; exact own_ne h.olg hkk (by decide) (e' ▸ e); exact h.d1 (e' ▸ e); exact own_ne h.olg hss (by decide) (e' ▸ e))
  · exact own_kept h.otx hk (fun b e e' => by rcases e' with e' | e' | e'; exact own_ne h.otx hkk (by decide) (e' ▸ e); exact h.d2 (e' ▸ e); exact own_ne h.otx hss (by decide) (e' ▸ e))
  · exact own_kept h.oen hk (fun b e e' => by rcases e' with e' | e' | e'; exact own_ne h.oen hkk (by decide) (e' ▸ e); exact own_ne h.oen hrr (by decide) (e' ▸ e); exact own_ne h.oen hss (by decide) (e' ▸ e))
  · exact own_kept h.orc hk (fun b e e' => by rcases e' with e' | e' | e'; exact own_ne h.orc hkk (by decide) (e' ▸ e); exact own_ne h.orc hrr (by decide) (e' ▸ e); exact own_ne h.orc hss (by decide) (e' ▸ e))
end

/-- Bytes at a slice of block b. -/
structure LineAt (b : Nat) (v : Value) (l : List UInt8) (w : World) : Prop where
  form : ∃ o c, v = .slice (some ⟨b, o, none⟩) l.length c ∧ l.length ≤ c ∧ c ≤ maxLen ∧ ∀ j u, (Lib.byteCells l)[j]? = some u → w.cell? ⟨b, o + j, none⟩ = some u
theorem LineAt.kept {b : Nat} {v : Value} {l : List UInt8} {w w' : World} {Z : Nat → Prop} (h : LineAt b v l w) (hk : Kept Z w w') (hb : ¬ Z b) : LineAt b v l w' := by
  obtain ⟨o, c, h1, h2, h3, h4⟩ := h.form
  exact ⟨o, c, h1, h2, h3, fun j u hj => hk.cell (h4 j u hj) hb⟩
theorem LineAt.below {b : Nat} {v : Value} {l : List UInt8} {w w' : World} (h : LineAt b v l w) (hk : Below w.heap.size w w') : LineAt b v l w' := h.kept (Z := fun _ => False) (Kept.of_below hk) id
theorem cells_drop (l : List UInt8) (n j : Nat) (u : Value) (h : (Lib.byteCells (l.drop n))[j]? = some u) : (Lib.byteCells l)[n + j]? = some u := by
  unfold Lib.byteCells at h ⊢
  rw [List.map_drop, List.getElem?_drop] at h
  exact h
theorem cells_take (l : List UInt8) (n j : Nat) (u : Value) (h : (Lib.byteCells (l.take n))[j]? = some u) : (Lib.byteCells l)[j]? = some u := by
  unfold Lib.byteCells at h ⊢
  rw [List.map_take, List.getElem?_take] at h
  split at h
  · exact h
  · cases h
end Go.Proofs.Qxb6613956aFmt
