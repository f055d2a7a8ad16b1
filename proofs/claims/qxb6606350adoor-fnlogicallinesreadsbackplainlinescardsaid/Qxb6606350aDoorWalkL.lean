/-
  THE WALK of internal/connectconfig.logicalLines (17) and its door (7), at a text whose lines end in LF each.
-/
import Derived.Test.Qxb6606350aDoorWalkA
import Derived.Test.Qxb6606350aDoorIxAny
import Derived.Test.Qxb6606350aDoorSteps
import Derived.Deep.DeepCutAuto
namespace Go.Proofs.Qxb6606350aDoor
open Go.RowKit Go.Shelf
set_option linter.unusedSimpArgs false

theorem Tryd.extra166 : Builder.Extra Tryd.prog Tryd.lays166_ren := {
  sizeBuilder := by kernel_rfl
  liesBuilder := by kernel_rfl
  t5 := Tryd.underlying5
  a5 := Tryd.isAgg5
  z5 := Tryd.sizeOf5
  v5 := Tryd.zeroValue5
  infoByte := by kernel_rfl
  cellsByte := by kernel_rfl
  sizeByte := by kernel_rfl
  neB5 := by decide }
theorem Tryd.extra169 : Builder.Extra Tryd.prog Tryd.lays169_ren := {
  sizeBuilder := by kernel_rfl
  liesBuilder := by kernel_rfl
  t5 := Tryd.underlying5
  a5 := Tryd.isAgg5
  z5 := Tryd.sizeOf5
  v5 := Tryd.zeroValue5
  infoByte := by kernel_rfl
  cellsByte := by kernel_rfl
  sizeByte := by kernel_rfl
  neB5 := by decide }

theorem asc_two (a b : UInt8) (ha : a.toNat < 128) (hb : b.toNat < 128) : Asc ⟨#[a, b]⟩ := fun j x hx => by
  match j, hx with
  | 0, hx => simp at hx; rw [← hx]; exact ha
  | 1, hx => simp at hx; rw [← hx]; exact hb
  | _ + 2, hx => simp at hx
theorem asc_blanks : ∀ (j : Nat) b, (⟨#[32, 9, 12]⟩ : ByteArray).data.toList[j]? = some b → b.toNat < 128 := fun j x hx => by
  match j, hx with
  | 0, hx => simp at hx; rw [← hx]; decide
  | 1, hx => simp at hx; rw [← hx]; decide
  | 2, hx => simp at hx; rw [← hx]; decide
  | _ + 3, hx => simp at hx

theorem left_c (l : List UInt8) (w : World) : Calls Tryd.prog 19 #[strV l, .string ⟨#[32, 9, 12]⟩] w fun e w' => e = .returned (strV (trimL l)) ∧ Below w.heap.size w w' :=
  Any.strings_TrimLeft_laid Tryd.lays161 (by kernel_rfl) ⟨l.toArray⟩ ⟨#[32, 9, 12]⟩ w (by decide) asc_blanks
theorem right_c (l : List UInt8) (w : World) (hl : l.length ≤ 1000000000) : Calls Tryd.prog 20 #[strV l, .string ⟨#[92]⟩] w fun e w' => e = .returned (strV (Lib.trimRightB l 92)) ∧ w' = w :=
  Any.strings_TrimRight_one Tryd.lays162 ⟨l.toArray⟩ 92 (by decide) w (by rw [Lib.size_eq]; simp only; omega)
theorem index_c (l : List UInt8) (w : World) (hl : l.length ≤ 1000000000) : Calls Tryd.prog 18 #[strV l, .string ⟨#[13, 10]⟩] w fun e w' => e = .returned (.int .i64 (Lib.indexAny l [13, 10])) ∧ Below w.heap.size w w' :=
  ia_c ⟨l.toArray⟩ ⟨#[13, 10]⟩ w (by rw [Lib.size_eq]; exact hl) (by decide) (by decide) (asc_two _ _ (by decide) (by decide))

/-! ### the loop's world -/
theorem grown_bel {w w' : World} (h : Below w.heap.size w w') (row : Option Nat) : w.grownBy w' row := ⟨h.os, h.tape, h.output, h.size, fun k hk _ => h.block k hk⟩
/-- The lines so far in a row of the call's own; the logical line so far in the builder; what was there as it was. -/
structure LInv (w wx : World) (v : Value) (st : St) : Prop where
  own : wx.ownsRow w.heap.size 9 1 v st.acc.length (st.acc.map strV)
  bld : Lib.IsBuilderF 34 5 w.heap.size w.heap.size (Lib.byteCells st.log) wx
  bel : Below w.heap.size w wx
theorem bld_kept {B b : Nat} {bs : List Value} {w w' : World} {row : Option Nat} (h : Lib.IsBuilderF 34 5 B b bs w) (hg : w.grownBy w' row) (hr : ∀ g, row = some g → ∃ c fz, w.heap[g]? = some (.cells c 9 fz)) : Lib.IsBuilderF 34 5 B b bs w' := by
  have one : ∀ p, Lib.BuilderAtF 34 5 B b p bs w → Lib.BuilderAtF 34 5 B b p bs w' := fun p hp => by
    have hlt := hp.lt
    obtain ⟨hB, v, hb, hown, hne⟩ := hp
    have h1 : some b ≠ row := fun e => by
      obtain ⟨c, fz, hc⟩ := hr b e.symm
      rw [hb] at hc
      simp at hc
    refine ⟨hB, v, (hg.block b hlt h1).trans hb, hown.kept hg ?_, hne⟩
    cases hv : v.ownBlock with
    | none => exact Or.inl rfl
    | some k =>
      right
      intro e
      obtain ⟨c, fz, hc⟩ := hr k e.symm
      obtain ⟨c', fz', hc'⟩ := Lib.ownsRowF_kind hown k hv
      rw [hc'] at hc
      simp at hc
  exact h.elim (fun x => .inl (one _ x)) (fun x => .inr (one _ x))
theorem row_kind {w : World} {B n : Nat} {v : Value} {xs : List Value} (h : w.ownsRow B 9 1 v n xs) : ∀ g, v.ownBlock = some g → ∃ c fz, w.heap[g]? = some (.cells c 9 fz) := fun g hg => by
  exact Lib.ownsRowF_kind (World.ownsRowF_of h) g hg
theorem row_others {w w' : World} {B n b : Nat} {v : Value} {xs : List Value} {p u : Value} (h : w.ownsRow B 9 1 v n xs) (hb : w.heap[b]? = some (.cells #[p, u] 34 (0, 0))) (hk : Lib.OthersKept 5 (some b) w w') : w'.ownsRow B 9 1 v n xs := by
  refine ⟨h.1, ?_⟩
  rcases h.2 with h1 | ⟨g, cap, cur, hv, hbg, hg, rest⟩
  · exact Or.inl h1
  · refine Or.inr ⟨g, cap, cur, hv, hbg, hk g _ hg (fun e => ?_) (fun c fz e => by simp at e), rest⟩
    have := Option.some.inj e
    rw [this, hb] at hg
    simp at hg
theorem bld_block {B b : Nat} {bs : List Value} {w : World} (h : Lib.IsBuilderF 34 5 B b bs w) : ∃ p u, w.heap[b]? = some (.cells #[p, u] 34 (0, 0)) := by
  rcases h with ⟨_, v, hb, _⟩ | ⟨_, v, hb, _⟩ <;> exact ⟨_, _, hb⟩
theorem LInv.below {w wx wy : World} {v : Value} {st : St} (h : LInv w wx v st) (hb : Below wx.heap.size wx wy) : LInv w wy v st :=
  ⟨h.own.kept (grown_bel hb none) (by cases h' : v.ownBlock with | none => exact Or.inl rfl | some k => exact Or.inr (by simp)), bld_kept h.bld (grown_bel hb none) (fun g e => by cases e), h.bel.trans (hb.mono h.bel.size)⟩
theorem LInv.drewN {w wx : World} {v : Value} {st : St} (h : LInv w wx v st) (n : Nat) : LInv w (wx.drewN n) v st := h.below ⟨rfl, rfl, rfl, Nat.le_refl _, fun _ _ => rfl⟩
theorem LInv.alloc {w wx : World} {v : Value} {st : St} (h : LInv w wx v st) (o : Obj) : LInv w (wx.alloc o) v st := h.below ((Below.refl _ _).alloc (Nat.le_refl _) _)
theorem LInv.write {w wx wy : World} {v : Value} {st : St} {log : List UInt8} (h : LInv w wx v st) (hb : Lib.IsBuilderF 34 5 w.heap.size w.heap.size (Lib.byteCells log) wy) (hw : Below w.heap.size wx wy) (hk : Lib.OthersKept 5 (some w.heap.size) wx wy) (c : Bool) : LInv w wy v ⟨c, log, st.acc⟩ := by
  obtain ⟨p, u, hbk⟩ := bld_block h.bld
  exact ⟨row_others h.own hbk hk, hb, h.bel.trans hw⟩
theorem LInv.append {w wx wy : World} {v v' : Value} {st : St} {x : List UInt8} (h : LInv w wx v st) (ho : wy.ownsRow w.heap.size 9 1 v' (st.acc.length + 1) (st.acc.map strV ++ [strV x])) (hg : wx.grownBy wy v.ownBlock) : LInv w wy v' ⟨st.cont, st.log, st.acc ++ [x]⟩ := by
  refine ⟨?_, bld_kept h.bld hg (row_kind h.own), h.bel.grown hg h.bel.size (fun k e => (h.own.lt k e).1)⟩
  simp only [List.length_append, List.map_append]
  exact ho
theorem LInv.start (w : World) : LInv w (w.alloc (.cells #[.pointer none, .slice none 0 0] 34)) (.slice none 0 0) ⟨false, [], []⟩ :=
  ⟨World.ownsRow_nil _ _ _ _, Lib.IsBuilderF.of (Lib.fresh_isBuilder 34 5 w), (Below.refl _ _).alloc (Nat.le_refl _) _⟩

set_option maxHeartbeats 1000000 in
/-- (*strings.Builder).Reset. -/
theorem reset_c (w wx : World) (v : Value) (st : St) (h : LInv w wx v st) (c : Bool) : Calls Tryd.prog 23 #[.pointer (some ⟨w.heap.size, 0, none⟩)] wx fun e w' => e = .returned (.tuple #[]) ∧ LInv w w' v ⟨c, [], st.acc⟩ := by
  have H := hid h
  obtain ⟨p, u, hbk⟩ := bld_block h.bld
  clear h
  have c0 : wx.cell? ⟨w.heap.size, 0, none⟩ = some p := by rw [Lib.cell_of_heap hbk]; rfl
  have c1 : wx.cell? ⟨w.heap.size, 1, none⟩ = some u := by rw [Lib.cell_of_heap hbk]; rfl
  have f0 : wx.frozen? ⟨w.heap.size, 0, none⟩ = false := Lib.frozen_of_heap hbk 0
  have f1 : wx.frozen? ⟨w.heap.size, 1, none⟩ = false := Lib.frozen_of_heap hbk 1
  have hbk2 : (wx.setCell ⟨w.heap.size, 0, none⟩ (.pointer none)).heap[w.heap.size]? = some (.cells #[.pointer none, u] 34 (0, 0)) := by
    simp [World.setCell, Array.getElem?_modify, hbk]
  have d1 : (wx.setCell ⟨w.heap.size, 0, none⟩ (.pointer none)).cell? ⟨w.heap.size, 1, none⟩ = some u := by rw [Lib.cell_of_heap hbk2]; rfl
  have g1 : (wx.setCell ⟨w.heap.size, 0, none⟩ (.pointer none)).frozen? ⟨w.heap.size, 1, none⟩ = false := Lib.frozen_of_heap hbk2 1
  have HK := hid hbk
  have HK2 := hid hbk2
  clear hbk hbk2
  go_enter Tryd.func23, Tryd.ntmps23
  go_wp2
  go_end0
  refine ⟨rfl, ?_, ?_, ?_⟩
  · have hk : Lib.OthersKept 5 (some w.heap.size) wx ((wx.setCell ⟨w.heap.size, 0, none⟩ (.pointer none)).setCell ⟨w.heap.size, 1, none⟩ (.slice none 0 0)) := ((Lib.OthersKept.refl _ _ _).setCell ⟨w.heap.size, 0, none⟩ rfl _).setCell ⟨w.heap.size, 1, none⟩ rfl _
    exact row_others H.out.own HK.out hk
  · exact Or.inl (Lib.BuilderAtF.put (Nat.le_refl _) HK2.out (bs' := []) (World.ownsRowF_nil _ _ _ _) (by decide))
  · exact (H.out.bel.setCell (p := ⟨w.heap.size, 0, none⟩) (Nat.le_refl _) _).setCell (p := ⟨w.heap.size, 1, none⟩) (Nat.le_refl _) _

theorem write_c (w wx : World) (v : Value) (st : St) (x : List UInt8) (h : LInv w wx v st) (hl : st.log.length + x.length ≤ 1000000000) (c : Bool) :
    Calls Tryd.prog 21 #[.pointer (some ⟨w.heap.size, 0, none⟩), strV x] wx fun e w' => (∃ r, e = .returned (.tuple #[r, .nilIface])) ∧ LInv w w' v ⟨c, st.log ++ x, st.acc⟩ := by
  refine (Any.Builder_WriteString_k Tryd.lays166 Tryd.extra166 w.heap.size w.heap.size (Lib.byteCells st.log) ⟨x.toArray⟩ wx h.bld (by rw [Lib.byteCells_length, Lib.size_eq]; simp only; omega) h.bel.size).mono fun e w' ⟨he, hb, hw, hk⟩ => ⟨⟨_, he⟩, ?_⟩
  refine h.write ?_ hw hk c
  rw [Lib.byteCells_append]
  exact Or.inr hb
theorem string_c (w wx : World) (v : Value) (st : St) (h : LInv w wx v st) :
    Calls Tryd.prog 22 #[.pointer (some ⟨w.heap.size, 0, none⟩)] wx fun e w' => e = .returned (strV st.log) ∧ LInv w w' v st := by
  refine (Any.Builder_String_any_k Tryd.lays169 Tryd.extra169 w.heap.size w.heap.size st.log wx h.bld h.bel.size).mono fun e w' ⟨he, hb, hw, hk⟩ => ⟨he, ?_⟩
  exact h.write hb hw hk st.cont


/-- What logicalLines leaves. -/
def LinesPost (R : List (List UInt8)) (w : World) (e : Ending) (w' : World) : Prop :=
  ∃ v, e = .returned v ∧ w'.ownsRow w.heap.size 9 1 v R.length (R.map strV) ∧ Below w.heap.size w w'
theorem lines_end {w wx : World} {v : Value} {st : St} {R : List (List UInt8)} (h : LInv w wx v st) (hR : st.acc = R) : LinesPost R w (.returned v) wx := by
  subst hR
  exact ⟨v, rfl, h.own, h.bel⟩

/-- The natural line and the rest, cut at the line end. -/
theorem cut_facts (l : List UInt8) (T : List UInt8) : ∃ S : ByteArray, S = ⟨(l ++ (10 :: T)).toArray⟩ ∧ S.size = l.length + 1 + T.length ∧ S.extract 0 l.length = ⟨l.toArray⟩ ∧ S.extract (l.length + 1) S.size = ⟨T.toArray⟩ ∧ ∀ h : l.length < S.size, S[l.length]'h = 10 := by
  refine ⟨_, rfl, ?_, ?_, ?_, ?_⟩
  · rw [Lib.size_eq]; simp; omega
  · apply ByteArray.ext
    apply Array.ext'
    rw [Lib.extract_data]
    simp
  · rw [ext_drop]
    congr 2
    simp
  · intro h
    show (l ++ (10 :: T)).toArray[l.length] = 10
    simp
theorem dropLast_ext (n : List UInt8) : (⟨n.toArray⟩ : ByteArray).extract 0 (n.length - 1) = ⟨n.dropLast.toArray⟩ := by
  apply ByteArray.ext
  apply Array.ext'
  rw [Lib.extract_data]
  simp [List.dropLast_eq_take]

set_option maxHeartbeats 4000000 in
set_option maxRecDepth 100000 in
theorem lines_c (ls0 : List (List UInt8)) (w : World) (hn0 : ∀ l ∈ ls0, NoEnd l) (hs0 : (flat ls0).length ≤ 2000000) : Calls Tryd.prog 17 #[strV (flat ls0)] w (LinesPost (logical ⟨false, [], []⟩ ls0) w) := by
  obtain ⟨R, hR⟩ : ∃ R, logical ⟨false, [], []⟩ ls0 = R := ⟨_, rfl⟩
  rw [hR]
  have HR := hid hR
  have HN0 := hid hn0
  clear hR hn0
  obtain ⟨i0, hi, hz0, hz1, hz2⟩ := info_parts Tryd.info9
  go_enter Tryd.func17, Tryd.ntmps17
  go_wp2_with fail
  go_loopg [0, 3, 5] ls0.length (fun gk t v c wx => ∃ (ls : List (List UInt8)) (st : St), gk = ls.length ∧ t = strV (flat ls) ∧ c = .bool st.cont ∧ LInv w wx v st ∧ logical st ls = R ∧ (∀ l ∈ ls, NoEnd l) ∧ st.log.length + (flat ls).length ≤ 2000000 ∧ st.acc.length + (flat ls).length ≤ 2000000)
  case atStart => exact ⟨ls0, ⟨false, [], []⟩, rfl, rfl, rfl, LInv.start w, HR.out, HN0.out, by simp; omega, by simp; omega⟩
  case round =>
    obtain ⟨ls, ⟨cont, log, acc⟩, hk, rfl, rfl, hinv, hlg, hnn, hb1, hb2⟩ := hrel
    have HI := hid hinv
    have HL := hid hlg
    have HN := hid hnn
    clear hinv hlg hnn HR HN0
    have hacc : acc.length ≤ 2000000 := Nat.le_trans (Nat.le_add_right _ _) hb2
    cases ls with
    | nil =>
      cases cont with
      | false =>
        go_wp2_with fail
        go_ret
        exact lines_end HI.out (by have := HL.out; simpa [logical, fin] using this)
      | true =>
        go_wp2_with fail
        refine (string_c w _ _ _ HI.out).mono ?_
        rintro e w1 ⟨rfl, hinv1⟩
        have HI1 := hid hinv1
        clear hinv1
        go_wp2_with (at_builtin; refine wpList_append_own _ rfl _ _ 23 rfl w.heap.size 9 i0 (.string ByteArray.empty) 1 16 Tryd.underlying23 hi hz0 hz1 hz2 rfl (by decide) u3 acc.length (acc.map strV) rfl (HI1.out.alloc _).own ⟨w1.heap.size, 0, none⟩ 1 1 [strV log] rfl (by simp) (cell_one_new _ _ _) (fun u hu => by rw [List.mem_singleton.1 hu]; rfl) (by unfold maxLen; omega) (by omega) (HI1.out.alloc _).bel.size ?_; intro v9 w9 hown9 hgrow9 _; have HI9 := hid ((HI1.out.alloc _).append hown9 hgrow9); clear hown9 hgrow9)
        go_ret
        exact lines_end HI9.out (by have := HL.out; simpa [logical, fin] using this)
    | cons l r =>
      obtain ⟨S, hS, hsz, hx0, hx1, hxg⟩ := cut_facts l (flat r)
      have hSV : strV (flat (l :: r)) = .string S := by rw [hS]; rfl
      have hfl : (flat (l :: r)).length = l.length + 1 + (flat r).length := by simp [flat]; omega
      rw [hfl] at hb1 hb2
      simp only at hb1 hb2
      have cI := index_c (flat (l :: r)) wr (by omega)
      rw [hSV, show flat (l :: r) = l ++ (10 :: flat r) from rfl, index_end l (flat r) (HN.out l (by simp))] at cI
      rw [hSV]
      have hSe : S.toList.isEmpty = false := by rw [Lib.toList_data, hS]; simp
      have HX0 := hid hx0
      rw [hsz] at hx1
      have HX1 := hid hx1
      clear hx0 hx1 hS hSV
      have hlS : l.length < S.size := by omega
      have hg10 : S[l.length]'hlS = 10 := hxg hlS
      clear hxg
      cases gk with
      | zero => simp at hk
      | succ gk =>
        go_wp2_with fail
        refine cI.mono ?_
        rintro e w1 ⟨rfl, hb1'⟩
        have HI1 := hid (HI.out.below hb1')
        clear hb1' HI cI
        go_wp2_with fail
        go_quiet (fail)
        rw [HX0.out, HX1.out]
        have HI2 := hid (HI1.out.drewN nq)
        clear HI1 HX0 HX1 hg10 hSe
        go_wp2_with fail
        refine (left_c l _).mono ?_
        rintro e w2 ⟨rfl, hb2'⟩
        have HI3 := hid (HI2.out.below hb2')
        clear hb2' HI2
        obtain ⟨n, hn⟩ : ∃ n, trimL l = n := ⟨_, rfl⟩
        have hnl : n.length ≤ l.length := by rw [← hn]; exact trim_len l
        rw [hn]
        have HST := hid hn
        clear hn hsz hlS
        have cR := right_c n w2 (by omega)
        obtain ⟨Nb, hNb⟩ : ∃ Nb : ByteArray, Nb = ⟨n.toArray⟩ := ⟨_, rfl⟩
        have hV : strV n = .string Nb := by rw [hNb]
        have hNs : Nb.size = n.length := by rw [hNb, Lib.size_eq]
        have HNB := hid hNb
        clear hNb
        rw [hV] at cR ⊢
        clear hV
        obtain ⟨R', hR'⟩ : ∃ R', Lib.trimRightB n 92 = R' := ⟨_, rfl⟩
        obtain ⟨T, hT⟩ : ∃ T, tbs n = T := ⟨_, rfl⟩
        have hRT : R'.length + T = n.length := by
          have h1 : T = n.length - R'.length := by rw [← hT, ← hR']; rfl
          have h2 : R'.length ≤ n.length := by
            rw [← hR']
            unfold Lib.trimRightB
            rw [List.length_reverse]
            have := List.Sublist.length_le (List.dropWhile_sublist (· == (92 : UInt8)) (l := n.reverse))
            rwa [List.length_reverse] at this
          omega
        rw [hR'] at cR
        clear hR'
        have HT := hid hT
        clear hT
        have hLN : (R'.length : Int) ≤ (Nb.size : Int) := by omega
        have HNV := hid (show Value.string Nb = strV n by rw [HNB.out])
        have HDL := hid (show Value.string (Nb.extract 0 (n.length - 1)) = strV n.dropLast by rw [HNB.out, dropLast_ext])
        have HSo : Hid ((cont = true ∨ note n = false) → T % 2 = 1 → logical ⟨true, log ++ n.dropLast, acc⟩ r = R) := fun h1 h2 => by
          rw [← HL.out, logical_cons]
          unfold step
          rw [HST.out, if_neg (by rcases h1 with h | h <;> simp [h]), HT.out, if_pos h2]
        have HSe : Hid ((cont = true ∨ note n = false) → T % 2 = 0 → logical ⟨false, [], acc ++ [log ++ n]⟩ r = R) := fun h1 h2 => by
          rw [← HL.out, logical_cons]
          unfold step
          rw [HST.out, if_neg (by rcases h1 with h | h <;> simp [h]), HT.out, if_neg (by omega)]
        have HSn : Hid (cont = false → note n = true → logical ⟨cont, log, acc⟩ r = R) := fun h1 h2 => by
          rw [← HL.out, logical_cons]
          unfold step
          rw [HST.out, if_pos ⟨h1, h2⟩]
        clear HL HST HT hfl
        cases cont with
        | true =>
          cases hpar : (((n.length : Int) - (R'.length : Int)) % 2 == 1) with
          | true =>
            have hodd : T % 2 = 1 := by rw [beq_iff_eq] at hpar; omega
            have hn1 : (1 : Int) ≤ (n.length : Int) := by omega
            have HLG := hid (HSo.out (Or.inl rfl) hodd)
            go_wp2_with fail
            refine cR.mono ?_
            rintro e w3 ⟨rfl, hw3⟩
            rw [hw3]
            clear hw3 cR
            go_wp2_with fail
            rw [HDL.out]
            refine (write_c w w2 u3 _ n.dropLast HI3.out (by rw [List.length_dropLast]; simp only; omega) true).mono ?_
            rintro e w4 ⟨⟨r4, rfl⟩, hinv4⟩
            have HI4 := hid hinv4
            clear hinv4 HI3
            go_wp2_with fail
            go_roundg gk
            case measure => omega
            case rel => exact ⟨r, _, by simp at hk; omega, rfl, rfl, HI4.out, HLG.out, fun x hx => HN.out x (by simp [hx]), by rw [List.length_append, List.length_dropLast]; omega, by simp only; omega⟩
          | false =>
            have heven : T % 2 = 0 := by rw [beq_eq_false_iff_ne] at hpar; omega
            have HLG := hid (HSe.out (Or.inl rfl) heven)
            go_wp2_with fail
            refine cR.mono ?_
            rintro e w3 ⟨rfl, hw3⟩
            rw [hw3]
            clear hw3 cR
            go_wp2_with fail
            rw [HNV.out]
            refine (write_c w w2 u3 _ n HI3.out (by simp only; omega) false).mono ?_
            rintro e w4 ⟨⟨r4, rfl⟩, hinv4⟩
            have HI4 := hid hinv4
            clear hinv4 HI3
            go_wp2_with fail
            refine (string_c w _ _ _ HI4.out).mono ?_
            rintro e w5 ⟨rfl, hinv5⟩
            have HI5 := hid hinv5
            clear hinv5 HI4
            go_wp2_with (at_builtin; refine wpList_append_own _ rfl _ _ 23 rfl w.heap.size 9 i0 (.string ByteArray.empty) 1 16 Tryd.underlying23 hi hz0 hz1 hz2 rfl (by decide) u3 acc.length (acc.map strV) rfl (HI5.out.alloc _).own ⟨w5.heap.size, 0, none⟩ 1 1 [strV (log ++ n)] rfl (by simp) (cell_one_new _ _ _) (fun u hu => by rw [List.mem_singleton.1 hu]; rfl) (by unfold maxLen; omega) (by omega) (HI5.out.alloc _).bel.size ?_; intro v9 w9 hown9 hgrow9 _; have HI9 := hid ((HI5.out.alloc _).append hown9 hgrow9); clear hown9 hgrow9 HI5)
            refine (reset_c w _ _ _ HI9.out false).mono ?_
            rintro e w6 ⟨rfl, hinv6⟩
            have HI6 := hid hinv6
            clear hinv6 HI9
            go_wp2_with fail
            go_roundg gk
            case measure => omega
            case rel => exact ⟨r, _, by simp at hk; omega, rfl, rfl, HI6.out, HLG.out, fun x hx => HN.out x (by simp [hx]), by simp only [List.length_nil]; omega, by simp only [List.length_append, List.length_cons, List.length_nil]; omega⟩
        | false =>
          cases hnn : n with
          | nil =>
            have hNe : Nb.toList.isEmpty = true := by rw [HNB.out, hnn, Lib.toList_data]; rfl
            have HLG := hid (HSn.out rfl (by rw [hnn]; rfl))
            clear cR
            go_wp2_with fail
            go_roundg gk
            case measure => omega
            case rel => exact ⟨r, _, by simp at hk; omega, rfl, rfl, HI3.out, HLG.out, fun x hx => HN.out x (by simp [hx]), by simp only; omega, by simp only; omega⟩
          | cons x t =>
            have hNe : Nb.toList.isEmpty = false := by rw [HNB.out, hnn, Lib.toList_data]; rfl
            have hn0 : 0 < Nb.size := by rw [hNs, hnn]; simp
            have hx : Nb[0]'hn0 = x := by
              have h1 := Lib.data_getElem? Nb 0 hn0
              have h2 : Nb.data.toList[0]? = some x := by rw [HNB.out, hnn]; rfl
              exact Option.some.inj (h1.symm.trans h2)
            have hn0' : (0 : Int) < (Nb.size : Int) := by omega
            have e1 : ((x.toNat : Int) == 35) = (x == 35) := beq_c x 35
            have e2 : ((x.toNat : Int) == 33) = (x == 33) := beq_c x 33
            have hno : note n = (x == 35 || x == 33) := by rw [hnn]; rfl
            have HNN := hid hnn
            clear hnn
            cases c1 : (x == 35) with
            | true =>
              rw [c1] at e1 hno
              have HLG := hid (HSn.out rfl hno)
              clear cR
              go_wp2_with fail
              go_roundg gk
              case measure => omega
              case rel => exact ⟨r, _, by simp at hk; omega, rfl, rfl, HI3.out, HLG.out, fun x hx => HN.out x (by simp [hx]), by simp only; omega, by simp only; omega⟩
            | false =>
              cases c2 : (x == 33) with
              | true =>
                rw [c1] at e1 hno
                rw [c2] at e2 hno
                have HLG := hid (HSn.out rfl hno)
                clear cR
                go_wp2_with fail
                go_roundg gk
                case measure => omega
                case rel => exact ⟨r, _, by simp at hk; omega, rfl, rfl, HI3.out, HLG.out, fun x hx => HN.out x (by simp [hx]), by simp only; omega, by simp only; omega⟩
              | false =>
                rw [c1] at e1 hno
                rw [c2] at e2 hno
                cases hpar : (((n.length : Int) - (R'.length : Int)) % 2 == 1) with
                | true =>
                  have hodd : T % 2 = 1 := by rw [beq_iff_eq] at hpar; omega
                  have hn1 : (1 : Int) ≤ (n.length : Int) := by omega
                  have HLG := hid (HSo.out (Or.inr hno) hodd)
                  go_wp2_with fail
                  refine cR.mono ?_
                  rintro e w3 ⟨rfl, hw3⟩
                  rw [hw3]
                  clear hw3 cR
                  go_wp2_with fail
                  rw [HDL.out]
                  refine (write_c w w2 u3 _ n.dropLast HI3.out (by rw [List.length_dropLast]; simp only; omega) true).mono ?_
                  rintro e w4 ⟨⟨r4, rfl⟩, hinv4⟩
                  have HI4 := hid hinv4
                  clear hinv4 HI3
                  go_wp2_with fail
                  go_roundg gk
                  case measure => omega
                  case rel => exact ⟨r, _, by simp at hk; omega, rfl, rfl, HI4.out, HLG.out, fun x hx => HN.out x (by simp [hx]), by rw [List.length_append, List.length_dropLast]; omega, by simp only; omega⟩
                | false =>
                  have heven : T % 2 = 0 := by rw [beq_eq_false_iff_ne] at hpar; omega
                  have HLG := hid (HSe.out (Or.inr hno) heven)
                  go_wp2_with fail
                  refine cR.mono ?_
                  rintro e w3 ⟨rfl, hw3⟩
                  rw [hw3]
                  clear hw3 cR
                  go_wp2_with fail
                  rw [HNV.out]
                  refine (write_c w w2 u3 _ n HI3.out (by simp only; omega) false).mono ?_
                  rintro e w4 ⟨⟨r4, rfl⟩, hinv4⟩
                  have HI4 := hid hinv4
                  clear hinv4 HI3
                  go_wp2_with fail
                  refine (string_c w _ _ _ HI4.out).mono ?_
                  rintro e w5 ⟨rfl, hinv5⟩
                  have HI5 := hid hinv5
                  clear hinv5 HI4
                  go_wp2_with (at_builtin; refine wpList_append_own _ rfl _ _ 23 rfl w.heap.size 9 i0 (.string ByteArray.empty) 1 16 Tryd.underlying23 hi hz0 hz1 hz2 rfl (by decide) u3 acc.length (acc.map strV) rfl (HI5.out.alloc _).own ⟨w5.heap.size, 0, none⟩ 1 1 [strV (log ++ n)] rfl (by simp) (cell_one_new _ _ _) (fun u hu => by rw [List.mem_singleton.1 hu]; rfl) (by unfold maxLen; omega) (by omega) (HI5.out.alloc _).bel.size ?_; intro v9 w9 hown9 hgrow9 _; have HI9 := hid ((HI5.out.alloc _).append hown9 hgrow9); clear hown9 hgrow9 HI5)
                  refine (reset_c w _ _ _ HI9.out false).mono ?_
                  rintro e w6 ⟨rfl, hinv6⟩
                  have HI6 := hid hinv6
                  clear hinv6 HI9
                  go_wp2_with fail
                  go_roundg gk
                  case measure => omega
                  case rel => exact ⟨r, _, by simp at hk; omega, rfl, rfl, HI6.out, HLG.out, fun x hx => HN.out x (by simp [hx]), by simp only [List.length_nil]; omega, by simp only [List.length_append, List.length_cons, List.length_nil]; omega⟩

set_option maxHeartbeats 1000000 in
theorem zzlines_c (ls : List (List UInt8)) (w : World) (hn : ∀ l ∈ ls, NoEnd l) (hs : (flat ls).length ≤ 2000000) : Calls Tryd.prog 7 #[strV (flat ls)] w (LinesPost (logical ⟨false, [], []⟩ ls) w) := by
  have c := lines_c ls w hn hs
  clear hn
  go_enter Tryd.func7, Tryd.ntmps7
  go_wp2_with (go_at_call 17; refine c.mono ?_; rintro e w1 ⟨v, rfl, h⟩)
  go_ret
  exact ⟨v, rfl, h⟩
end Go.Proofs.Qxb6606350aDoor
