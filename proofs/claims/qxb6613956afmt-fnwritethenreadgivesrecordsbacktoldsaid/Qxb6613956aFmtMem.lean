/-
  MEMORY: what a call leaves but for a few blocks; bytes.Buffer's grow (116), Write (112), WriteString (113) with WHERE the new row lies.
-/
import Derived.Test.Qxb6613956aFmtShelf
import Derived.Test.Qxb6613956aFmtSteps
import Derived.WalkKit
import Derived.WalkMore
import Derived.WalkSpells
import Derived.WalkLawsBesides
import Derived.Below
import Derived.Deep.LoopGhost
import Derived.Deep.QuietTactic
import Derived.Deep.RegionWith
import Derived.BigQuiet
import Derived.Lib.SlBytesRow
import Derived.Lib.SliceRun
import Derived.Lib.BufferWrite
import Derived.Lib.OthersKept
import Derived.Laws.CopyRow
namespace Go.Proofs.Qxb6613956aFmt
open Go.RowKit Go.Shelf
set_option linter.unusedSimpArgs false

theorem hid {p : Prop} (h : p) : Hid p := h

/-- Every block but those of S stands. -/
structure Kept (S : Nat → Prop) (w w' : World) : Prop where
  os : w'.os = w.os
  tape : w'.tape = w.tape
  output : w'.output = w.output
  size : w.heap.size ≤ w'.heap.size
  block : ∀ k, k < w.heap.size → ¬ S k → w'.heap[k]? = w.heap[k]?
section
variable {S S' : Nat → Prop} {w w' w'' : World}
theorem Kept.refl (S : Nat → Prop) (w : World) : Kept S w w := ⟨rfl, rfl, rfl, Nat.le_refl _, fun _ _ _ => rfl⟩
theorem Kept.trans (h : Kept S w w') (h' : Kept S w' w'') : Kept S w w'' :=
  ⟨h'.os.trans h.os, h'.tape.trans h.tape, h'.output.trans h.output, Nat.le_trans h.size h'.size, fun k hk hs => (h'.block k (Nat.lt_of_lt_of_le hk h.size) hs).trans (h.block k hk hs)⟩
theorem Kept.mono (h : Kept S w w') (hS : ∀ k, k < w.heap.size → S k → S' k) : Kept S' w w' := ⟨h.os, h.tape, h.output, h.size, fun k hk hs => h.block k hk (fun e => hs (hS k hk e))⟩
theorem Kept.of_below (h : Below w.heap.size w w') : Kept S w w' := ⟨h.os, h.tape, h.output, h.size, fun k hk _ => h.block k hk⟩
theorem Kept.to_below {B : Nat} (h : Kept S w w') (hS : ∀ k, S k → B ≤ k) (hB : B ≤ w.heap.size) : Below B w w' := ⟨h.os, h.tape, h.output, h.size, fun k hk => h.block k (by omega) (fun e => by have := hS k e; omega)⟩
theorem Kept.drewN (h : Kept S w w') (n : Nat) : Kept S w (w'.drewN n) := h.trans ⟨rfl, rfl, rfl, Nat.le_refl _, fun _ _ _ => rfl⟩
theorem Kept.alloc (h : Kept S w w') (o : Obj) : Kept S w (w'.alloc o) := h.trans (Kept.of_below ((Below.refl _ _).alloc (Nat.le_refl _) _))
theorem Kept.setCell (h : Kept S w w') (p : Addr) (hp : S p.block) (v : Value) : Kept S w (w'.setCell p v) :=
  h.trans ⟨rfl, rfl, rfl, by simp [World.setCell], fun k _ hs => Below.heap_setCell _ _ _ _ (fun e => hs (e ▸ hp))⟩
theorem Kept.cell (h : Kept S w w') {p : Addr} {v : Value} (hc : w.cell? p = some v) (hs : ¬ S p.block) : w'.cell? p = some v :=
  (World.cell?_of_block (a := p) (h.block p.block (World.block_lt_of_cell? w p hc) hs)).trans hc
theorem Kept.heap (h : Kept S w w') {k : Nat} {o : Obj} (hk : w.heap[k]? = some o) (hs : ¬ S k) : w'.heap[k]? = some o :=
  (h.block k (Array.getElem?_eq_some_iff.1 hk).1 hs).trans hk
theorem Kept.grown {row : Option Nat} (h : w.grownBy w' row) : Kept (fun k => row = some k) w w' := ⟨h.os, h.tape, h.output, h.size, fun k hk hs => h.block k hk (fun e => hs e.symm)⟩
end
theorem lt_heap {w : World} {k : Nat} {o : Obj} (h : w.heap[k]? = some o) : k < w.heap.size := (Array.getElem?_eq_some_iff.1 h).1

/-- bytes.Buffer in block b: its slice v, its bytes. -/
structure Snk (b : Nat) (v : Value) (l : List UInt8) (w : World) : Prop where
  blk : ∃ lr, w.heap[b]? = some (.cells #[v, .int .i64 0, .int .i8 lr] 52 (0, 0))
  own : w.ownsRow 0 5 1 v l.length (Lib.byteCells l)
theorem Snk.kept {b : Nat} {v : Value} {l : List UInt8} {w w' : World} {S : Nat → Prop} (h : Snk b v l w) (hk : Kept S w w') (h1 : ¬ S b) (h2 : ∀ k, v.ownBlock = some k → ¬ S k) : Snk b v l w' := by
  obtain ⟨lr, hb⟩ := h.blk
  refine ⟨⟨lr, hk.heap hb h1⟩, h.own.1, ?_⟩
  rcases h.own.2 with e | ⟨g, cap, cur, hv, hbg, hg, rest⟩
  · exact Or.inl e
  · exact Or.inr ⟨g, cap, cur, hv, hbg, hk.heap hg (h2 g (by rw [hv]; rfl)), rest⟩
theorem Snk.ne {b : Nat} {v : Value} {l : List UInt8} {w : World} (h : Snk b v l w) : v.ownBlock ≠ some b := by
  obtain ⟨lr, hb⟩ := h.blk
  intro e
  obtain ⟨c, fz, hc⟩ := Lib.ownsRowF_kind (World.ownsRowF_of h.own) b e
  rw [hb] at hc
  simp at hc

theorem Tryf.info5 : (Tryf.prog.info? 5).map (fun i => (i.zero, i.size, i.bytes)) = some (some (.int .u8 0), 1, 1) := by kernel_rfl

/-- What grow leaves: a new row with room for n more. -/
def GrowPost (b l n : Nat) (bs : List Value) (lr : Int) (w : World) (e : Ending) (w' : World) : Prop :=
  e = .returned (.int .i64 l) ∧ ∃ g cap cells, w'.heap[b]? = some (.cells #[.slice (some ⟨g, 0, none⟩) (l + n) cap, .int .i64 0, .int .i8 lr] 52 (0, 0)) ∧ w'.heap[g]? = some (.cells cells 5 (0, 0)) ∧ cells.size = cap ∧ l + n ≤ cap ∧ cap ≤ maxLen ∧ cells.toList.take l = bs ∧
    w.heap.size ≤ g ∧ Kept (· = b) w w'

theorem len_c (b : Nat) (v : Value) (ao : Option Addr) (l cap : Nat) (lr : Int) (w : World) (hl : l ≤ 140737488355328) (hv : v = .slice ao l cap) (hb : w.heap[b]? = some (.cells #[v, .int .i64 0, .int .i8 lr] 52 (0, 0))) :
    Calls Tryf.prog 117 #[.pointer (some ⟨b, 0, none⟩)] w fun e w' => e = .returned (.int .i64 l) ∧ ∃ k, w' = w.drewN k := by
  subst hv
  have c0 : w.cell? ⟨b, 0, none⟩ = some (.slice ao l cap) := by rw [Lib.cell_of_heap hb]; rfl
  have c1 : w.cell? ⟨b, 1, none⟩ = some (.int .i64 0) := by rw [Lib.cell_of_heap hb]; rfl
  go_enter Tryf.func117, Tryf.ntmps117
  go_wp2
  go_quiet (fail)
  go_wp2
  go_ret
  refine ⟨?_, _, rfl⟩
  have hw : wrap64 (l : Int) = l := by unfold wrap64; omega
  simp [hw]

theorem heap_set {w : World} {b i : Nat} {cs : Array Value} {t : TypeId} {fz : Nat × Nat} (h : w.heap[b]? = some (.cells cs t fz)) (v : Value) : (w.setCell ⟨b, i, none⟩ v).heap[b]? = some (.cells (cs.setIfInBounds i v) t fz) := by
  simp [World.setCell, Array.getElem?_modify, h]
theorem heap_set_other {w : World} {b i k : Nat} (hk : k ≠ b) (v : Value) : (w.setCell ⟨b, i, none⟩ v).heap[k]? = w.heap[k]? := Below.heap_setCell _ _ _ _ hk

set_option maxHeartbeats 3200000 in
set_option maxRecDepth 100000 in
/-- grow, the buffer nil, n at most 64. -/
theorem grow_small (b n : Nat) (lr : Int) (w : World) (hb : w.heap[b]? = some (.cells #[.slice none 0 0, .int .i64 0, .int .i8 lr] 52 (0, 0))) (hn : 1 ≤ n) (h64 : n ≤ 64) :
    Calls Tryf.prog 116 #[.pointer (some ⟨b, 0, none⟩), .int .i64 n] w (GrowPost b 0 n [] lr w) := by
  obtain ⟨i0, hi, hz0, hz1, hz2⟩ := info_parts Tryf.info5
  obtain ⟨M, hM⟩ : ∃ M, M = madeCells (Value.int .u8 0).cells ((64 : Int).toNat * i0.size) := ⟨_, rfl⟩
  have hMs : M.size = 64 := by rw [hM, size_madeCells, hz1]; rfl
  have hmk : ∀ W : World, (Instr.makeSlice 43 (.int .i64 (n : Int)) (.int .i64 64)).run Tryf.prog W = .ok (.slice (some ⟨W.heap.size, 0, none⟩) n 64) (W.alloc (.cells M 5)) := fun W => by
    have h := run_makeSlice (P := Tryf.prog) W 43 5 i0 (.int .u8 0) Tryf.underlying43 hi hz0 .i64 .i64 (n : Int) 64 (by omega) (by omega) (by rw [hz1]; decide) (by rw [hz2]; decide) (by decide)
    rw [← hM] at h
    simpa using h
  clear hM
  have hnil : ∀ W, (binOp .eql 43 (.slice none 0 0) (.slice none 0 0)).run Tryf.prog W = .ok (.bool true) W := fun W => Lib.run_eql_slice_nil W 43 5 none 0 0 0 0 Tryf.underlying43
  have cL := len_c b _ none 0 0 lr w (by omega) rfl hb
  have HB := hid hb
  clear hb
  go_enter Tryf.func116, Tryf.ntmps116
  go_wp2_with fail
  refine cL.mono ?_
  rintro e w1 ⟨rfl, k, rfl⟩
  have hb1 : (w.drewN k).heap[b]? = some (.cells #[.slice none 0 0, .int .i64 0, .int .i8 lr] 52 (0, 0)) := HB.out
  obtain ⟨W0, hW0⟩ : ∃ W0, w.drewN k = W0 := ⟨_, rfl⟩
  have HK := hid (show Kept (· = b) w W0 by rw [← hW0]; exact (Kept.refl _ _).drewN k)
  have hsz : W0.heap.size = w.heap.size := by rw [← hW0]; rfl
  rw [hW0] at hb1 ⊢
  clear hW0 cL
  have c0 : W0.cell? ⟨b, 0, none⟩ = some (.slice none 0 0) := by rw [Lib.cell_of_heap hb1]; rfl
  have c1 : W0.cell? ⟨b, 1, none⟩ = some (.int .i64 0) := by rw [Lib.cell_of_heap hb1]; rfl
  have f0 : W0.frozen? ⟨b, 0, none⟩ = false := Lib.frozen_of_heap hb1 0
  have hbl := lt_heap hb1
  have c0a : ∀ o, (W0.alloc o).cell? ⟨b, 0, none⟩ = some (.slice none 0 0) := fun o => (World.cell?_of_block (a := ⟨b, 0, none⟩) (Below.heap_alloc W0 o b hbl)).trans c0
  have f0a : ∀ o, (W0.alloc o).frozen? ⟨b, 0, none⟩ = false := fun o => (World.frozen?_of_block (a := ⟨b, 0, none⟩) (Below.heap_alloc W0 o b hbl)).trans f0
  have HB1 := hid hb1
  clear hb1
  go_wp2_with (go_at_call 115; refine (Any.Buffer_tryGrow_none { Tryf.laysM251 with } b _ 0 0 n _ c0 (Nat.le_refl _) (Nat.zero_le _) (by omega)).mono ?_; rintro e w' ⟨rfl, rfl⟩)
  go_ret
  refine ⟨rfl, w'.heap.size, 64, M, ?_, ?_, hMs, by omega, by decide, rfl, by omega, ?_⟩
  · rw [heap_set (by rw [Below.heap_alloc w' _ b hbl]; exact HB1.out)]
    simp
  · rw [heap_set_other (by omega)]
    exact heap_alloc_new _ _
  · exact (HK.out.alloc _).setCell ⟨b, 0, none⟩ rfl _

theorem wrap_id (x : Int) (h0 : 0 ≤ x) (h1 : x ≤ 1000000000000000) : IntKind.i64.wrap x = x := by
  rw [IntKind.wrap_i64]; omega

end Go.Proofs.Qxb6613956aFmt
