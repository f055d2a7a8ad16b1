/-
  THE WALK of the law FnLogicalLinesJoinsContinuations (5).
-/
import Derived.Test.Qxb6606350aDoorWalkL
import Derived.Test.Qxb6606350aDoorBuf
namespace Go.Proofs.Qxb6606350aDoor
open Go.RowKit
set_option linter.unusedSimpArgs false

/-- What a law answers. -/
def LawPost (w : World) (e : Ending) (w' : World) : Prop := e = .returned (.bool true) ∧ Below w.heap.size w w'
theorem law_same (w : World) : LawPost w (.returned (.bool true)) w := ⟨rfl, Below.refl _ _⟩
theorem mod2 (t : Nat) : ((t : Int) % 2 == 1) = (t % 2 == 1) := by
  cases h : (t % 2 == 1) with
  | true => rw [beq_iff_eq] at h ⊢; omega
  | false => rw [beq_eq_false_iff_ne] at h ⊢; omega

theorem lines_more (y : List UInt8) (r : List (List UInt8)) (h : r ≠ []) : flat (linesOf (y :: r)) = y ++ ([92] ++ ([10] ++ flat (linesOf r))) := by
  cases r with
  | nil => exact absurd rfl h
  | cons q t => simp [linesOf, flat]
theorem lines_one (y : List UInt8) : flat (linesOf [y]) = y ++ ([10] ++ flat (linesOf [])) := by simp [linesOf, flat]
theorem oneByte (x : UInt8) : ∀ u ∈ [Value.int .u8 (x.toNat : Int)], u.oneCell' = true := fun u hu => by rw [List.mem_singleton.1 hu]; rfl
theorem hasEnd_no {l : List UInt8} (h : hasEnd l = false) : NoEnd l := fun x hx => by
  have := List.any_eq_false.1 h x hx
  simp only [Bool.or_eq_true, beq_iff_eq, not_or] at this
  exact ⟨this.2, this.1⟩

set_option maxHeartbeats 4000000 in
set_option maxRecDepth 100000 in
theorem law5 (a0 : Option Addr) (g o c : Nat) (ys : List (List UInt8)) (w : World) (h : Strs w a0 g o ys) (hg : 0 < ys.length → g < w.heap.size) (hn : ys.length ≤ maxLen) (hy : ∀ y ∈ ys, y.length ≤ maxLen) :
    Calls Tryd.prog 5 #[.slice a0 ys.length c] w (LawPost w) := by
  have cB := bytes13 a0 g o c ys w h hn hy
  have H := hid h
  have HG := hid hg
  clear h hy hg
  obtain ⟨n, hn'⟩ : ∃ n, ys.length = n := ⟨_, rfl⟩
  have HN := hid hn'
  rw [hn'] at hn cB ⊢
  clear hn'
  unfold maxLen at hn
  obtain ⟨i5, hi, hz0, hz1, hz2⟩ := info_parts Tryd.info5
  go_enter Tryd.func5, Tryd.ntmps5
  go_wp2_with fail
  refine cB.mono ?_
  rintro e w1 ⟨⟨b, rfl, hb⟩, hw⟩
  rw [hw]
  clear hw cB
  cases b with
  | false =>
    go_wp2_with fail
    go_ret
    exact law_same w
  | true =>
    obtain ⟨hb1, hb2⟩ := hb rfl
    have HY := hid hb2
    clear hb hb2
    rw [HN.out] at hb1
    go_wp2_with fail
    go_loopg [3, 4] n (fun gk z i wx => ∃ (k : Nat) (t : Nat), k + gk = n ∧ i = .int .i64 k ∧ z = .int .i64 t ∧ t + room (ys.drop k) = room ys ∧ t ≤ 1048576 ∧ w = wx)
    case atStart => exact ⟨0, 0, by omega, rfl, rfl, by simp, by omega, rfl⟩
    case round =>
      obtain ⟨k, t, hk, rfl, rfl, ht, ht2, rfl⟩ := hrel
      cases gk with
      | succ gk =>
        have hkn : (k : Int) < (n : Int) := by omega
        obtain ⟨y, hy⟩ : ∃ y, ys[k]? = some y := ⟨_, List.getElem?_eq_getElem (by have := HN.out; omega)⟩
        have hc1 := H.out.cell k y hy
        have ha := H.out.at' (by have := HN.out; omega)
        have hyl := HY.out y (List.mem_of_getElem? hy)
        have hrd := (room_drop ys k y hy).1
        subst ha
        clear hy
        by_cases c2 : (1048576 : Int) < (t : Int) + ((y.length : Int) + 16)
        · go_wp2_with fail
          go_ret
          exact law_same _
        · go_wp2_with fail
          go_roundg gk
          case measure => omega
          case rel => exact ⟨k + 1, t + (y.length + 16), by omega, by go_num, by go_num, by omega, by omega, rfl⟩
      | zero =>
        have hkn : ¬ ((k : Int) < (n : Int)) := by omega
        have hroom : room ys ≤ 1048576 := by
          rw [List.drop_of_length_le (by have := HN.out; omega)] at ht
          simp only [room] at ht
          omega
        clear ht ht2
        by_cases hn0 : n = 0
        · have hn1 : ((n : Int) == 0) = true := by rw [beq_iff_eq]; omega
          go_wp2_with fail
          go_ret
          exact law_same _
        · have hn1 : ((n : Int) == 0) = false := by rw [beq_eq_false_iff_ne]; omega
          go_wp2_with fail
          go_loopg [5] n (fun gk i wx => ∃ k : Nat, k + gk = n ∧ i = .int .i64 k ∧ w = wx ∧ ∀ y ∈ ys.take k, hasEnd y = false ∧ tbs y % 2 = 0)
          case atStart => exact ⟨0, by omega, rfl, rfl, by simp⟩
          case round =>
            obtain ⟨k, hk, rfl, rfl, hall⟩ := hrel
            have HALL := hid hall
            clear hall
            cases gk with
            | succ gk =>
              have hkn : (k : Int) < (n : Int) := by omega
              obtain ⟨y, hy⟩ : ∃ y, ys[k]? = some y := ⟨_, List.getElem?_eq_getElem (by have := HN.out; omega)⟩
              have hc1 := H.out.cell k y hy
              have ha := H.out.at' (by have := HN.out; omega)
              have hyl := HY.out y (List.mem_of_getElem? hy)
              have HYK := hid hy
              subst ha
              clear hy
              have cE := hasEnd_c ⟨y.toArray⟩ w (by rw [Lib.size_eq]; simp only; omega)
              have cT := tbs_c ⟨y.toArray⟩ w (by rw [Lib.size_eq]; simp only; omega)
              simp only [List.toList_toArray] at cE cT
              cases hE : hasEnd y with
              | true =>
                rw [hE] at cE
                clear cT
                go_wp2_with fail
                refine cE.mono ?_
                rintro e w2 ⟨rfl, hw⟩
                rw [hw]
                go_wp2_with fail
                go_ret
                exact law_same _
              | false =>
                rw [hE] at cE
                obtain ⟨T, hT⟩ : ∃ T, tbs y = T := ⟨_, rfl⟩
                have hTl : T ≤ 1048576 := by have := tbs_le y; omega
                rw [hT] at cT
                have hm := mod2 T
                cases hp : (T % 2 == 1) with
                | true =>
                  rw [hp] at hm
                  go_wp2_with fail
                  refine cE.mono ?_
                  rintro e w2 ⟨rfl, hw⟩
                  rw [hw]
                  go_wp2_with fail
                  refine cT.mono ?_
                  rintro e w3 ⟨rfl, hw3⟩
                  rw [hw3]
                  go_wp2_with fail
                  go_ret
                  exact law_same _
                | false =>
                  rw [hp] at hm
                  rw [beq_eq_false_iff_ne] at hp
                  have HAK := hid (all_take_succ (p := fun y => hasEnd y = false ∧ tbs y % 2 = 0) ys k y HYK.out HALL.out ⟨hE, by omega⟩)
                  clear hp
                  go_wp2_with fail
                  refine cE.mono ?_
                  rintro e w2 ⟨rfl, hw⟩
                  rw [hw]
                  go_wp2_with fail
                  refine cT.mono ?_
                  rintro e w3 ⟨rfl, hw3⟩
                  rw [hw3]
                  clear cE cT hw hw3 hT hE
                  go_wp2_with fail
                  go_roundg gk
                  case measure => omega
                  case rel => exact ⟨k + 1, by omega, by go_num, rfl, HAK.out⟩
            | zero =>
              have hkn : ¬ ((k : Int) < (n : Int)) := by omega
              have hall : ∀ y ∈ ys, hasEnd y = false ∧ tbs y % 2 = 0 := fun y hy => HALL.out y (by rw [List.take_of_length_le (by have := HN.out; omega)]; exact hy)
              have HALL2 := hid hall
              clear hall HALL
              obtain ⟨y, hy⟩ : ∃ y, ys[0]? = some y := ⟨_, List.getElem?_eq_getElem (by have := HN.out; omega)⟩
              have hc1 := H.out.cell 0 y hy
              rw [Nat.add_zero] at hc1
              have ha := H.out.at' (by have := HN.out; omega)
              have hyl := HY.out y (List.mem_of_getElem? hy)
              have HY0 := hid hy
              subst ha
              clear hy
              have hn2 : (0 : Int) < (n : Int) := by omega
              have cT := trim_c ⟨y.toArray⟩ w (by rw [Lib.size_eq]; simp only; omega)
              simp only [List.toList_toArray] at cT
              go_wp2_with fail
              refine cT.mono ?_
              rintro e w2 ⟨rfl, hw⟩
              rw [hw]
              clear cT hw
              obtain ⟨hd, hhd⟩ : ∃ hd, trimL y = hd := ⟨_, rfl⟩
              rw [hhd]
              cases hd with
              | nil =>
                go_wp2_with fail
                go_ret
                exact law_same _
              | cons x tl =>
                have e1 : ((x.toNat : Int) == 35) = (x == 35) := beq_c x 35
                have e2 : ((x.toNat : Int) == 33) = (x == 33) := beq_c x 33
                have hno : note (trimL y) = (x == 35 || x == 33) := by rw [hhd]; rfl
                obtain ⟨Nb, hNb⟩ : ∃ Nb : ByteArray, Nb = ⟨(x :: tl).toArray⟩ := ⟨_, rfl⟩
                have hNe : Nb.toList.isEmpty = false := by rw [hNb, Lib.toList_data]; rfl
                have hb0 : 0 < Nb.size := by rw [hNb, Lib.size_eq]; simp
                have hx : Nb[0]'hb0 = x := by
                  have h1 := Lib.data_getElem? Nb 0 hb0
                  have h2 : Nb.data.toList[0]? = some x := by rw [hNb]; rfl
                  exact Option.some.inj (h1.symm.trans h2)
                have hb0' : (0 : Int) < (Nb.size : Int) := by omega
                rw [← hNb]
                clear hNb hhd
                cases c1 : (x == 35) with
                | true =>
                  rw [c1] at e1
                  clear e2 hno
                  go_wp2_with fail
                  go_ret
                  exact law_same _
                | false =>
                  cases c2 : (x == 33) with
                  | true =>
                    rw [c1] at e1
                    rw [c2] at e2
                    clear hno
                    go_wp2_with fail
                    go_ret
                    exact law_same _
                  | false =>
                    rw [c1] at e1 hno
                    rw [c2] at e2 hno
                    clear c1 c2
                    have HNO := hid hno
                    have cC := clone_some ⟨g, o, none⟩ g o c ys w (by have := HN.out; omega) HG.out H.out
                    rw [HN.out] at cC
                    go_wp2_with fail
                    refine cC.mono ?_
                    rintro e w3 ⟨vp, rfl, hown3, hbel3⟩
                    clear cC
                    obtain ⟨ap, gp, cp, rfl, hsp, hgp⟩ := strs_of hown3
                    have HJ0 : Hid (JInv w w3 (.slice ap ys.length cp) ys (.slice none 0 0) (.slice none 0 0) [] []) := ⟨hown3, World.ownsRow_nil _ _ _ _, World.ownsRow_nil _ _ _ _, (fun k h => by cases h), hbel3⟩
                    obtain rfl := hsp.at' (by have := HN.out; omega)
                    rw [HN.out]
                    have HP : Hid (∀ wx vb vw bl wl, JInv w wx (.slice (some ⟨gp, 0, none⟩) ys.length cp) ys vb vw bl wl → ∀ (j : Nat) y, ys[j]? = some y → wx.cell? ⟨gp, j, none⟩ = some (strV y)) := fun wx vb vw bl wl hJ j y hj => by
                      have hjl : j < ys.length := (List.getElem?_eq_some_iff.1 hj).1
                      rw [hJ.pcs.cellAt j (by omega), List.getElem?_map, hj]; rfl
                    clear hsp hgp hown3 hbel3
                    go_wp2_with fail
                    go_loopg [7, 8, 9] n (fun gk vb vw i wx => ∃ (k : Nat) (bl wl : List UInt8), k + gk = n ∧ i = .int .i64 k ∧ JInv w wx (.slice (some ⟨gp, 0, none⟩) ys.length cp) ys vb vw bl wl ∧ bl ++ flat (linesOf (ys.drop k)) = flat (linesOf ys) ∧ wl ++ wantOf (ys.drop k) = wantOf ys)
                    case atStart => exact ⟨0, [], [], by omega, rfl, HJ0.out, by simp, by simp⟩
                    case round =>
                      obtain ⟨k, bl, wl, hk, rfl, hJ, hbl, hwl⟩ := hrel
                      have HJ := hid hJ
                      clear hJ HJ0
                      have hbl' : bl.length + (flat (linesOf (ys.drop k))).length ≤ 1048576 := by
                        have h1 := flat_linesOf_len ys
                        rw [← hbl, List.length_append] at h1
                        omega
                      have hwl' : wl.length + (wantOf (ys.drop k)).length ≤ 1048576 := by
                        have h1 := wantOf_len ys
                        rw [← hwl, List.length_append] at h1
                        omega
                      have HBL := hid hbl
                      have HWL := hid hwl
                      clear hbl hwl
                      cases gk with
                      | succ gk =>
                        have hkn : (k : Int) < (n : Int) := by omega
                        obtain ⟨y, hy⟩ : ∃ y, ys[k]? = some y := ⟨_, List.getElem?_eq_getElem (by have := HN.out; omega)⟩
                        have hcy := HP.out _ _ _ _ _ HJ.out k y hy
                        have hyl := HY.out y (List.mem_of_getElem? hy)
                        have hdr := (room_drop ys k y hy).2
                        have HYK := hid hy
                        clear hy
                        have hHW2 : (wl ++ trimL y) ++ wantOf (ys.drop (k + 1)) = wantOf ys := by
                          have h := HWL.out
                          rw [hdr] at h
                          rw [List.append_assoc]
                          exact h
                        have HW2 := hid hHW2
                        clear hHW2
                        by_cases hlast : k + 1 < n
                        · have hl2 : (k : Int) + 1 < (n : Int) := by omega
                          have hrne : ys.drop (k + 1) ≠ [] := by
                            intro e
                            have h := congrArg List.length e
                            rw [List.length_drop, List.length_nil] at h
                            have := HN.out
                            omega
                          have hHB2 : ((bl ++ y) ++ [92]) ++ [10] ++ flat (linesOf (ys.drop (k + 1))) = flat (linesOf ys) := by
                            have h := HBL.out
                            rw [hdr, lines_more y _ hrne] at h
                            rw [← h]
                            simp only [List.append_assoc]
                          rw [hdr, lines_more y _ hrne] at hbl'
                          simp only [List.length_append, List.length_cons, List.length_nil] at hbl'
                          have HB2 := hid hHB2
                          have hwl2 : wl.length ≤ 1048576 := by omega
                          clear hHB2 hdr hrne HBL HWL hwl'
                          go_wp2_with (first
                            | (at_builtin; refine wpList_append_own_string2 _ rfl _ _ 29 9 rfl w.heap.size 5 i5 Tryd.underlying29 Tryd.underlying9 hi hz0 hz1 hz2 u7 bl.length (Lib.byteCells bl) rfl HJ.out.buf ⟨y.toArray⟩ rfl (by rw [Lib.size_eq]; simp only; unfold maxLen; omega) (by rw [Lib.size_eq]; simp only; omega) HJ.out.bel.size ?_; intro v4 w4 ho4 hg4 hk4; have HJ4 := hid (HJ.out.putBuf (x := y) (by rw [Lib.size_eq]) rfl ho4 hg4 hk4); clear ho4 hg4 hk4)
                            | (at_builtin; refine wpList_append_own2 _ rfl _ _ 29 rfl w.heap.size 5 i5 (.int .u8 0) 1 1 Tryd.underlying29 hi hz0 hz1 hz2 rfl (by decide) v4 (bl ++ y).length (Lib.byteCells (bl ++ y)) rfl (HJ4.out.alloc _).buf ⟨w4.heap.size, 0, none⟩ 1 1 [.int .u8 92] rfl (by simp) (cell_one_new _ _ _) (oneByte 92) (by simp only [List.length_append, List.length_cons, List.length_nil]; unfold maxLen; omega) (by simp only [List.length_append, List.length_cons, List.length_nil]; omega) (HJ4.out.alloc _).bel.size ?_; intro v5 w5 ho5 hg5 hk5; have HJ5 := hid ((HJ4.out.alloc _).putBuf (x := [92]) rfl rfl ho5 hg5 hk5); clear ho5 hg5 hk5)
                            | (at_builtin; refine wpList_append_own2 _ rfl _ _ 29 rfl w.heap.size 5 i5 (.int .u8 0) 1 1 Tryd.underlying29 hi hz0 hz1 hz2 rfl (by decide) v5 ((bl ++ y) ++ [92]).length (Lib.byteCells ((bl ++ y) ++ [92])) rfl (HJ5.out.alloc _).buf ⟨w5.heap.size, 0, none⟩ 1 1 [.int .u8 10] rfl (by simp) (cell_one_new _ _ _) (oneByte 10) (by simp only [List.length_append, List.length_cons, List.length_nil]; unfold maxLen; omega) (by simp only [List.length_append, List.length_cons, List.length_nil]; omega) (HJ5.out.alloc _).bel.size ?_; intro v6 w6 ho6 hg6 hk6; have HJ6 := hid ((HJ5.out.alloc _).putBuf (x := [10]) rfl rfl ho6 hg6 hk6); clear ho6 hg6 hk6; have hcy2 := HP.out _ _ _ _ _ HJ6.out k y HYK.out))
                          refine (trim_c ⟨y.toArray⟩ w6 (by rw [Lib.size_eq]; simp only; omega)).mono ?_
                          rintro e w7 ⟨rfl, hw7⟩
                          rw [hw7]
                          clear hw7
                          simp only [List.toList_toArray]
                          have htl := trim_len y
                          go_wp2_with (at_builtin; refine wpList_append_own_string2 _ rfl _ _ 29 9 rfl w.heap.size 5 i5 Tryd.underlying29 Tryd.underlying9 hi hz0 hz1 hz2 u8 wl.length (Lib.byteCells wl) rfl HJ6.out.wnt ⟨(trimL y).toArray⟩ rfl (by rw [Lib.size_eq]; simp only; unfold maxLen; omega) (by rw [Lib.size_eq]; simp only; omega) HJ6.out.bel.size ?_; intro v8 w8 ho8 hg8 hk8; have HJ8 := hid (HJ6.out.putWnt (x := trimL y) (by rw [Lib.size_eq]) rfl ho8 hg8 hk8); clear ho8 hg8 hk8)
                          go_roundg gk
                          case measure => omega
                          case rel => exact ⟨k + 1, ((bl ++ y) ++ [92]) ++ [10], wl ++ trimL y, by omega, by go_num, HJ8.out, HB2.out, HW2.out⟩
                        · have hl2 : ¬ ((k : Int) + 1 < (n : Int)) := by omega
                          have hrne : ys.drop (k + 1) = [] := List.drop_of_length_le (by have := HN.out; omega)
                          have hHB2 : (bl ++ y) ++ [10] ++ flat (linesOf (ys.drop (k + 1))) = flat (linesOf ys) := by
                            have h := HBL.out
                            rw [hdr, hrne, lines_one y] at h
                            rw [hrne, ← h]
                            simp only [List.append_assoc]
                          rw [hdr, hrne, lines_one y] at hbl'
                          simp only [List.length_append, List.length_cons, List.length_nil] at hbl'
                          have HB2 := hid hHB2
                          have hwl2 : wl.length ≤ 1048576 := by omega
                          clear hHB2 hdr hrne HBL HWL hwl'
                          go_wp2_with (first
                            | (at_builtin; refine wpList_append_own_string2 _ rfl _ _ 29 9 rfl w.heap.size 5 i5 Tryd.underlying29 Tryd.underlying9 hi hz0 hz1 hz2 u7 bl.length (Lib.byteCells bl) rfl HJ.out.buf ⟨y.toArray⟩ rfl (by rw [Lib.size_eq]; simp only; unfold maxLen; omega) (by rw [Lib.size_eq]; simp only; omega) HJ.out.bel.size ?_; intro v4 w4 ho4 hg4 hk4; have HJ4 := hid (HJ.out.putBuf (x := y) (by rw [Lib.size_eq]) rfl ho4 hg4 hk4); clear ho4 hg4 hk4)
                            | (at_builtin; refine wpList_append_own2 _ rfl _ _ 29 rfl w.heap.size 5 i5 (.int .u8 0) 1 1 Tryd.underlying29 hi hz0 hz1 hz2 rfl (by decide) v4 (bl ++ y).length (Lib.byteCells (bl ++ y)) rfl (HJ4.out.alloc _).buf ⟨w4.heap.size, 0, none⟩ 1 1 [.int .u8 10] rfl (by simp) (cell_one_new _ _ _) (oneByte 10) (by simp only [List.length_append, List.length_cons, List.length_nil]; unfold maxLen; omega) (by simp only [List.length_append, List.length_cons, List.length_nil]; omega) (HJ4.out.alloc _).bel.size ?_; intro v6 w6 ho6 hg6 hk6; have HJ6 := hid ((HJ4.out.alloc _).putBuf (x := [10]) rfl rfl ho6 hg6 hk6); clear ho6 hg6 hk6; have hcy2 := HP.out _ _ _ _ _ HJ6.out k y HYK.out))
                          refine (trim_c ⟨y.toArray⟩ w6 (by rw [Lib.size_eq]; simp only; omega)).mono ?_
                          rintro e w7 ⟨rfl, hw7⟩
                          rw [hw7]
                          clear hw7
                          simp only [List.toList_toArray]
                          have htl := trim_len y
                          go_wp2_with (at_builtin; refine wpList_append_own_string2 _ rfl _ _ 29 9 rfl w.heap.size 5 i5 Tryd.underlying29 Tryd.underlying9 hi hz0 hz1 hz2 u8 wl.length (Lib.byteCells wl) rfl HJ6.out.wnt ⟨(trimL y).toArray⟩ rfl (by rw [Lib.size_eq]; simp only; unfold maxLen; omega) (by rw [Lib.size_eq]; simp only; omega) HJ6.out.bel.size ?_; intro v8 w8 ho8 hg8 hk8; have HJ8 := hid (HJ6.out.putWnt (x := trimL y) (by rw [Lib.size_eq]) rfl ho8 hg8 hk8); clear ho8 hg8 hk8)
                          go_roundg gk
                          case measure => omega
                          case rel => exact ⟨k + 1, (bl ++ y) ++ [10], wl ++ trimL y, by omega, by go_num, HJ8.out, HB2.out, HW2.out⟩
                      | zero =>
                        have hkn : ¬ ((k : Int) < (n : Int)) := by omega
                        have hdr : ys.drop k = [] := List.drop_of_length_le (by have := HN.out; omega)
                        have hb3 : bl = flat (linesOf ys) := by have h := HBL.out; rw [hdr] at h; simpa [linesOf, flat] using h
                        have hw3 : wl = wantOf ys := by have h := HWL.out; rw [hdr] at h; simpa [wantOf] using h
                        clear HBL HWL hdr
                        subst hb3
                        subst hw3
                        have hcv := conv_own HJ.out.buf
                        have cL := zzlines_c (linesOf ys) wr (linesOf_noEnd ys (fun p hp => hasEnd_no (HALL2.out p hp).1)) (by omega)
                        have hjo : logical ⟨false, [], []⟩ (linesOf ys) = [wantOf ys] := by
                          obtain ⟨y', r', rfl⟩ : ∃ y' r', ys = y' :: r' := by
                            cases hys : ys with
                            | nil => rw [hys] at HY0; exact absurd HY0.out (by simp)
                            | cons a b => exact ⟨a, b, rfl⟩
                          have hyy : y' = y := by have := HY0.out; simpa using this
                          exact joins y' r' (by rw [hyy]; exact HNO.out) (fun x hx => (HALL2.out x hx).2)
                        rw [hjo] at cL
                        clear hjo
                        go_wp2_with fail
                        refine cL.mono ?_
                        rintro e w9 ⟨v9, rfl, hown9, hbel9⟩
                        obtain ⟨a9, g9, c9, rfl, hs9, _⟩ := strs_of hown9
                        have hJ9 := HJ.out.below hbel9
                        obtain rfl := hs9.at' (by simp)
                        have hc9 := hs9.cell 0 (wantOf ys) rfl
                        rw [Nat.add_zero] at hc9
                        have hcv9 := conv_own hJ9.wnt
                        have hcv9q := fun q => conv_own (hJ9.drewN q).wnt
                        have HB9 := hid hJ9.bel
                        clear hs9 hJ9 hown9 hbel9 hcv cL
                        simp only [List.length_cons, List.length_nil]
                        go_wp2_with fail
                        go_quiet (fail)
                        go_wp2
                        go_ret
                        exact ⟨rfl, HB9.out.trans ⟨rfl, rfl, rfl, Nat.le_refl _, fun _ _ => rfl⟩⟩
end Go.Proofs.Qxb6606350aDoor
