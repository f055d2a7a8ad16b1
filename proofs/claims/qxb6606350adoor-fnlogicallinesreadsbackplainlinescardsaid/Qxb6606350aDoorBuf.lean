/-
  THE LAWS' WORLD: the copied strings and two byte rows of the call's own, apart; append onto them; []byte to string.
-/
import Derived.Test.Qxb6606350aDoorWalkA
import Derived.Test.Qxb6606350aDoorSteps
import Derived.Lib.AppendStr
import Derived.Lib.OthersKept
namespace Go.Proofs.Qxb6606350aDoor
open Go.RowKit
set_option linter.unusedSimpArgs false

/-- append of a string's bytes: as the base's law, and WHERE the new value lies. -/
theorem run_append_own_string2 {P : Program} (w : World) (base : Nat) (t u ty e : TypeId) (i : TypeInfo) (ht : P.underlying t = some (.slice e)) (hu : P.underlying u = some .string) (hi : P.info? e = some i) (hz : i.zero = some (.int .u8 0))
    (hsize : i.size = 1) (hby : i.bytes = 1) (v : Value) (n : Nat) (xs : List Value) (hown : w.ownsRow base e 1 v n xs) (s : ByteArray)
    (h63 : n + s.size ≤ maxLen) (hbytes : n + s.size ≤ 140737488355328) (hbase : base ≤ w.heap.size) :
    ∃ v' w', (Builtin.append_ #[t, u] ty #[v, .string s]).run P w = .ok v' w' ∧ w'.ownsRow base e 1 v' (n + s.size) (xs ++ Lib.strCells s) ∧ w.grownBy w' v.ownBlock ∧
      (∀ k, v'.ownBlock = some k → v.ownBlock = some k ∨ w.heap.size ≤ k) := by
  rcases hown.2 with ⟨rfl, rfl⟩ | ⟨g, cap, cur, rfl, hbg, hg, hnc, hcm, hcs, htake⟩
  · obtain rfl : xs = [] := List.eq_nil_of_length_eq_zero (by simpa using hown.1)
    obtain ⟨v', w', r1, r2, r3, _⟩ := Lib.run_append_own_string (P := P) w w.heap.size t u ty e i ht hu hi hz hsize hby (.slice none 0 0) 0 [] (World.ownsRow_nil w _ e 1) s h63 hbytes (Nat.le_refl _)
    exact ⟨v', w', r1, own_base r2 hbase, r3, fun k hk => Or.inr (r2.lt k hk).1⟩
  · obtain ⟨v', w', r1, r2, r3, _⟩ := Lib.run_append_own_string (P := P) w base t u ty e i ht hu hi hz hsize hby _ n xs hown s h63 hbytes hbase
    refine ⟨v', w', r1, r2, r3, ?_⟩
    have hsmall : n + s.size ≤ 9223372036854775807 := by simp only [maxLen] at h63; omega
    by_cases hroom : n + s.size ≤ cap
    · have hr := Lib.run_append_room_string (P := P) w t u ty e i ht hu hi hsize g n cap cur hg s hroom (by omega)
      rw [r1] at hr
      have hv : v' = .slice (some ⟨g, 0, none⟩) (n + s.size) cap := by injection hr
      rw [hv]
      exact fun k hk => Or.inl hk
    · have hr := Lib.run_append_grow_string (P := P) w t u ty e i (.int .u8 0) ht hu hi hz ⟨g, 0, none⟩ n cap xs (by rw [hsize]; exact hown.1) (hown.cells (g := g) rfl) s (by omega) (by omega) (by rw [hby]; exact growslice_fits (by omega) (by omega))
      rw [r1] at hr
      have hv : v' = .slice (some ⟨w.heap.size, 0, none⟩) (n + s.size) (grownCap w (n + s.size) cap e) := by injection hr
      rw [hv]
      intro k hk
      simp only [Value.ownBlock, Option.some.injEq] at hk
      exact Or.inr (by omega)
theorem wpList_append_own_string2 {P : Program} (w : World) {ops : Array Oper} {rest : List Oper} {o : Oper} {a : Act} {Q : Exit → Act → World → Prop} (hgd : o.guard = none) (sl x : Operand) (t u : TypeId)
    (ho : o.op = .call { callee := .builtin .append, args := #[sl, x], argTypes := #[t, u] })
    (base : Nat) (e : TypeId) (i : TypeInfo) (ht : P.underlying t = some (.slice e)) (hu : P.underlying u = some .string) (hi : P.info? e = some i) (hz : i.zero = some (.int .u8 0))
    (hsize : i.size = 1) (hby : i.bytes = 1)
    (v : Value) (n : Nat) (xs : List Value) (hs : a.eval sl = v) (hown : w.ownsRow base e 1 v n xs) (s : ByteArray) (hx : a.eval x = .string s)
    (h63 : n + s.size ≤ maxLen) (hbytes : n + s.size ≤ 140737488355328) (hbase : base ≤ w.heap.size)
    (h : ∀ v' w', w'.ownsRow base e 1 v' (n + s.size) (xs ++ Lib.strCells s) → w.grownBy w' v.ownBlock → (∀ k, v'.ownBlock = some k → v.ownBlock = some k ∨ w.heap.size ≤ k) → wpList P ops Q rest (a.put o.dst v') w') : wpList P ops Q (o :: rest) a w := by
  refine wpList_plain hgd fun K hK => ?_
  obtain ⟨v', w', hr, h2, h3, h4⟩ := run_append_own_string2 (P := P) w base t u o.type e i ht hu hi hz hsize hby v n xs hown s h63 hbytes hbase
  unfold Oper.wp execOp
  simp only [ho, resolve, invoke, builtin, Sem.run_bind, Sem.run_pure, Result.andThen_ok, List.map_toArray, List.map_cons, List.map_nil, hs, hx, hr]
  exact hK _ _ (h v' w' h2 h3 h4)

theorem grown_belB {w w' : World} (h : Below w.heap.size w w') (row : Option Nat) : w.grownBy w' row := ⟨h.os, h.tape, h.output, h.size, fun k hk _ => h.block k hk⟩
/-- A row of the call's own, of another element type than the row that grew, stands. -/
theorem row_apart {w w' : World} {B B' e e' n n' : Nat} {v v' : Value} {xs xs' : List Value} (h : w.ownsRow B e 1 v n xs) (h' : w.ownsRow B' e' 1 v' n' xs') (hne : e ≠ e') (hg : w.grownBy w' v'.ownBlock) : w'.ownsRow B e 1 v n xs := by
  refine h.kept hg ?_
  cases hv : v.ownBlock with
  | none => exact Or.inl rfl
  | some k =>
    right
    intro e1
    obtain ⟨c, fz, hc⟩ := Lib.ownsRowF_kind (World.ownsRowF_of h) k hv
    obtain ⟨c', fz', hc'⟩ := Lib.ownsRowF_kind (World.ownsRowF_of h') k e1.symm
    rw [hc] at hc'
    simp only [Option.some.injEq, Obj.cells.injEq] at hc'
    exact hne hc'.2.1

/-- The copied strings; the bytes so far; the wanted bytes so far; what was there as it was. -/
structure JInv (w wx : World) (vp : Value) (ys : List (List UInt8)) (vb vw : Value) (bl wl : List UInt8) : Prop where
  pcs : wx.ownsRow w.heap.size 9 1 vp ys.length (ys.map strV)
  buf : wx.ownsRow w.heap.size 5 1 vb bl.length (Lib.byteCells bl)
  wnt : wx.ownsRow w.heap.size 5 1 vw wl.length (Lib.byteCells wl)
  ne : ∀ k, vb.ownBlock = some k → vw.ownBlock = some k → False
  bel : Below w.heap.size w wx
section
variable {w wx wy : World} {vp vb vw v' : Value} {ys : List (List UInt8)} {bl wl x : List UInt8}
theorem JInv.below (h : JInv w wx vp ys vb vw bl wl) (hb : Below wx.heap.size wx wy) : JInv w wy vp ys vb vw bl wl := by
  have k : ∀ v : Value, v.ownBlock = none ∨ v.ownBlock ≠ none := fun v => by cases v.ownBlock <;> simp
  exact ⟨h.pcs.kept (grown_belB hb none) (k _), h.buf.kept (grown_belB hb none) (k _), h.wnt.kept (grown_belB hb none) (k _), h.ne, h.bel.trans (hb.mono h.bel.size)⟩
theorem JInv.drewN (h : JInv w wx vp ys vb vw bl wl) (n : Nat) : JInv w (wx.drewN n) vp ys vb vw bl wl := h.below ⟨rfl, rfl, rfl, Nat.le_refl _, fun _ _ => rfl⟩
theorem JInv.alloc (h : JInv w wx vp ys vb vw bl wl) (o : Obj) : JInv w (wx.alloc o) vp ys vb vw bl wl := h.below ((Below.refl _ _).alloc (Nat.le_refl _) _)
theorem JInv.putBuf (h : JInv w wx vp ys vb vw bl wl) {m : Nat} {c : List Value} (hm : x.length = m) (hc : c = Lib.byteCells x) (ho : wy.ownsRow w.heap.size 5 1 v' (bl.length + m) (Lib.byteCells bl ++ c)) (hg : wx.grownBy wy vb.ownBlock) (hk : ∀ k, v'.ownBlock = some k → vb.ownBlock = some k ∨ wx.heap.size ≤ k) : JInv w wy vp ys v' vw (bl ++ x) wl := by
  subst hm hc
  refine ⟨row_apart h.pcs h.buf (by decide) hg, by rw [List.length_append, Lib.byteCells_append]; exact ho, h.wnt.kept hg ?_, fun k h1 h2 => ?_, h.bel.grown hg h.bel.size (fun k e => (h.buf.lt k e).1)⟩
  · cases hv : vw.ownBlock with
    | none => exact Or.inl rfl
    | some k => exact Or.inr (fun e => h.ne k e.symm hv)
  · rcases hk k h1 with h3 | h3
    · exact h.ne k h3 h2
    · have := (h.wnt.lt k h2).2; omega
theorem JInv.putWnt (h : JInv w wx vp ys vb vw bl wl) {m : Nat} {c : List Value} (hm : x.length = m) (hc : c = Lib.byteCells x) (ho : wy.ownsRow w.heap.size 5 1 v' (wl.length + m) (Lib.byteCells wl ++ c)) (hg : wx.grownBy wy vw.ownBlock) (hk : ∀ k, v'.ownBlock = some k → vw.ownBlock = some k ∨ wx.heap.size ≤ k) : JInv w wy vp ys vb v' bl (wl ++ x) := by
  subst hm hc
  refine ⟨row_apart h.pcs h.wnt (by decide) hg, h.buf.kept hg ?_, by rw [List.length_append, Lib.byteCells_append]; exact ho, fun k h1 h2 => ?_, h.bel.grown hg h.bel.size (fun k e => (h.wnt.lt k e).1)⟩
  · cases hv : vb.ownBlock with
    | none => exact Or.inl rfl
    | some k => exact Or.inr (fun e => h.ne k hv e.symm)
  · rcases hk k h2 with h3 | h3
    · exact h.ne k h1 h3
    · have := (h.buf.lt k h1).2; omega
end

/-- A row of bytes as a string. -/
theorem conv_own {w : World} {B : Nat} {v : Value} {l : List UInt8} (h : w.ownsRow B 5 1 v l.length (Lib.byteCells l)) : (convert 29 9 v).run Tryd.prog w = .ok (strV l) w := by
  rcases h.2 with ⟨rfl, h2⟩ | ⟨g, cap, cur, rfl, _⟩
  · have : l = [] := List.eq_nil_of_length_eq_zero h2
    subst this
    simp [convert, run_underlying Tryd.underlying29, run_underlying Tryd.underlying9, run_underlying Tryd.underlying5, Conv.bytesToString]
    rfl
  · have hsz : (⟨l.toArray⟩ : ByteArray).size = l.length := by rw [Lib.size_eq]
    have hby : Lib.Bytes w g 0 ⟨l.toArray⟩ := fun i hi => by
      rw [Nat.zero_add, h.cellAt i (by rw [hsz] at hi; omega)]
      have hi' : i < l.length := by rw [hsz] at hi; exact hi
      unfold Lib.byteCells
      rw [List.getElem?_map, List.getElem?_eq_getElem hi']
      rfl
    have h := Lib.run_convert_whole (P := Tryd.prog) w 29 5 9 Tryd.underlying29 Tryd.underlying5 Tryd.underlying9 g 0 _ hby cap
    rw [hsz] at h
    exact h
theorem room_drop (ys : List (List UInt8)) (k : Nat) (y : List UInt8) (h : ys[k]? = some y) : room (ys.drop k) = y.length + 16 + room (ys.drop (k + 1)) ∧ ys.drop k = y :: ys.drop (k + 1) := by
  have hk : k < ys.length := (List.getElem?_eq_some_iff.1 h).1
  have hv : ys[k] = y := (List.getElem?_eq_some_iff.1 h).2
  rw [List.drop_eq_getElem_cons hk, hv]
  exact ⟨rfl, rfl⟩
end Go.Proofs.Qxb6606350aDoor
