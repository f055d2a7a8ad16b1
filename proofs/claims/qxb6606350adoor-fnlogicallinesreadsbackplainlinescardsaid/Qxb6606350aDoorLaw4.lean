/-
  THE WALK of the law FnLogicalLinesReadsBackPlainLines (4).
-/
import Derived.Test.Qxb6606350aDoorWalkL
import Derived.Test.Qxb6606350aDoorBuf
namespace Go.Proofs.Qxb6606350aDoor
open Go.RowKit
set_option linter.unusedSimpArgs false

/-- What a law answers. -/
def LawPost4 (w : World) (e : Ending) (w' : World) : Prop := e = .returned (.bool true) ∧ Below w.heap.size w w'
theorem law_same4 (w : World) : LawPost4 w (.returned (.bool true)) w := ⟨rfl, Below.refl _ _⟩
theorem mod24 (t : Nat) : ((t : Int) % 2 == 1) = (t % 2 == 1) := by
  cases h : (t % 2 == 1) with
  | true => rw [beq_iff_eq] at h ⊢; omega
  | false => rw [beq_eq_false_iff_ne] at h ⊢; omega
theorem odd_succ (k : Nat) : ((k + 1) % 2 == 1) = !(k % 2 == 1) := by
  cases h : (k % 2 == 1) with
  | true => rw [beq_iff_eq] at h; show ((k + 1) % 2 == 1) = false; rw [beq_eq_false_iff_ne]; omega
  | false => rw [beq_eq_false_iff_ne] at h; show ((k + 1) % 2 == 1) = true; rw [beq_iff_eq]; omega
theorem bytes_one (l : List UInt8) : ∀ u ∈ Lib.byteCells l, u.oneCell' = true := fun u hu => by
  obtain ⟨x, _, rfl⟩ := List.mem_map.1 hu
  rfl
theorem cells_new (w : World) (news : List Value) (t : TypeId) (h : news.length ≤ maxLen) : ∀ j u, news[j]? = some u → (w.alloc (.cells news.toArray t)).cell? ((⟨w.heap.size, 0, none⟩ : Addr).add j) = some u :=
  (World.ownsRow_lit (e := t) (size := 1) w news.toArray news.length (Nat.le_refl _) h (by simp)).cells (g := w.heap.size) rfl
theorem noted_odd (y : List UInt8) (r : List (List UInt8)) : flat (noted true (y :: r)) = [32, 9, 35, 110, 111, 116, 101, 92, 10] ++ ([10] ++ ([33, 120, 10] ++ (y ++ ([10] ++ flat (noted false r))))) := by
  simp [noted, flat, note1, note2]
theorem noted_even (y : List UInt8) (r : List (List UInt8)) : flat (noted false (y :: r)) = y ++ ([10] ++ flat (noted true r)) := by
  simp [noted, flat]
theorem clone_c (a0 : Option Addr) (g o c : Nat) (ys : List (List UInt8)) (w : World) (hl : ys.length ≤ 1000000000) (hg : 0 < ys.length → g < w.heap.size) (h : Strs w a0 g o ys) (hnil : a0 = none → c = 0) : Calls Tryd.prog 12 #[.slice a0 ys.length c] w (ClonePost ys w) := by
  cases a0 with
  | some a => exact clone_some a g o c ys w hl hg h
  | none =>
    have h0 : ys = [] := by
      cases ys with
      | nil => rfl
      | cons a b => exact absurd (h.at' (by simp)) (by simp)
    subst h0
    rw [hnil rfl]
    exact clone_nil w

set_option maxHeartbeats 4000000 in
set_option maxRecDepth 100000 in
theorem law4 (a0 : Option Addr) (g o c : Nat) (ys : List (List UInt8)) (w : World) (h : Strs w a0 g o ys) (hg : 0 < ys.length → g < w.heap.size) (hn : ys.length ≤ maxLen) (hy : ∀ y ∈ ys, y.length ≤ maxLen) (hnil : a0 = none → c = 0) :
    Calls Tryd.prog 4 #[.slice a0 ys.length c] w (LawPost4 w) := by
  have cB := bytes10 a0 g o c ys w h hn hy
  have H := hid h
  have HG := hid hg
  have HNIL := hid hnil
  clear h hy hg hnil
  obtain ⟨n, hn'⟩ : ∃ n, ys.length = n := ⟨_, rfl⟩
  have HN := hid hn'
  rw [hn'] at hn cB ⊢
  clear hn'
  unfold maxLen at hn
  obtain ⟨i5, hi, hz0, hz1, hz2⟩ := info_parts Tryd.info5
  go_enter Tryd.func4, Tryd.ntmps4
  go_wp2_with fail
  refine cB.mono ?_
  rintro e w1 ⟨⟨b, rfl, hb⟩, hw⟩
  rw [hw]
  clear hw cB
  cases b with
  | false =>
    go_wp2_with fail
    go_ret
    exact law_same4 w
  | true =>
    obtain ⟨hb1, hb2⟩ := hb rfl
    have HY := hid hb2
    clear hb hb2
    rw [HN.out] at hb1
    go_wp2_with fail
    go_loopg [3, 4] n (fun gk z i wx => ∃ (k : Nat) (t : Nat), k + gk = n ∧ i = .int .i64 k ∧ z = .int .i64 t ∧ t + room (ys.drop k) = room ys ∧ t ≤ 1048576 ∧ w = wx)
    case atStart => exact ⟨0, 0, by omega, rfl, rfl, by simp, by omega, rfl⟩
    case round =>
      obtain ⟨k, t, hk, rfl, rfl, ht, ht2, rfl⟩ := hrel
      cases gk with
      | succ gk =>
        have hkn : (k : Int) < (n : Int) := by omega
        obtain ⟨y, hy⟩ : ∃ y, ys[k]? = some y := ⟨_, List.getElem?_eq_getElem (by have := HN.out; omega)⟩
        have hc1 := H.out.cell k y hy
        have ha := H.out.at' (by have := HN.out; omega)
        have hyl := HY.out y (List.mem_of_getElem? hy)
        have hrd := (room_drop ys k y hy).1
        subst ha
        clear hy
        by_cases c2 : (1048576 : Int) < (t : Int) + ((y.length : Int) + 16)
        · go_wp2_with fail
          go_ret
          exact law_same4 _
        · go_wp2_with fail
          go_roundg gk
          case measure => omega
          case rel => exact ⟨k + 1, t + (y.length + 16), by omega, by go_num, by go_num, by omega, by omega, rfl⟩
      | zero =>
        have hkn : ¬ ((k : Int) < (n : Int)) := by omega
        have hroom : room ys ≤ 1048576 := by
          rw [List.drop_of_length_le (by have := HN.out; omega)] at ht
          simp only [room] at ht
          omega
        clear ht ht2
        go_wp2_with fail
        go_loopg [5] n (fun gk i wx => ∃ k : Nat, k + gk = n ∧ i = .int .i64 k ∧ w = wx ∧ ∀ y ∈ ys.take k, plainL y = true)
        case atStart => exact ⟨0, by omega, rfl, rfl, by simp⟩
        case round =>
          obtain ⟨k, hk, rfl, rfl, hall⟩ := hrel
          have HALL := hid hall
          clear hall
          cases gk with
          | succ gk =>
            have hkn : (k : Int) < (n : Int) := by omega
            obtain ⟨y, hy⟩ : ∃ y, ys[k]? = some y := ⟨_, List.getElem?_eq_getElem (by have := HN.out; omega)⟩
            have hc1 := H.out.cell k y hy
            have ha := H.out.at' (by have := HN.out; omega)
            have hyl := HY.out y (List.mem_of_getElem? hy)
            have HYK := hid hy
            subst ha
            clear hy
            have cP := plain_c ⟨y.toArray⟩ w (by rw [Lib.size_eq]; simp only; omega)
            simp only [List.toList_toArray] at cP
            cases hP : plainL y with
            | false =>
              rw [hP] at cP
              go_wp2_with fail
              refine cP.mono ?_
              rintro e w2 ⟨rfl, hw⟩
              rw [hw]
              go_wp2_with fail
              go_ret
              exact law_same4 _
            | true =>
              rw [hP] at cP
              have HAK := hid (all_take_succ (p := fun y => plainL y = true) ys k y HYK.out HALL.out hP)
              clear hP
              go_wp2_with fail
              refine cP.mono ?_
              rintro e w2 ⟨rfl, hw⟩
              rw [hw]
              clear cP hw
              go_wp2_with fail
              go_roundg gk
              case measure => omega
              case rel => exact ⟨k + 1, by omega, by go_num, rfl, HAK.out⟩
          | zero =>
            have hkn : ¬ ((k : Int) < (n : Int)) := by omega
            have hall : ∀ y ∈ ys, plainL y = true := fun y hy => HALL.out y (by rw [List.take_of_length_le (by have := HN.out; omega)]; exact hy)
            have HALL2 := hid hall
            clear hall HALL
            have cC := clone_c a0 g o c ys w (by have := HN.out; omega) HG.out H.out HNIL.out
            rw [HN.out] at cC
            go_wp2_with fail
            refine cC.mono ?_
            rintro e w3 ⟨vp, rfl, hown3, hbel3⟩
            clear cC
            obtain ⟨ap, gp, cp, rfl, hsp, hgp⟩ := strs_of hown3
            have HJ0 : Hid (JInv w w3 (.slice ap ys.length cp) ys (.slice none 0 0) (.slice none 0 0) [] []) := ⟨hown3, World.ownsRow_nil _ _ _ _, World.ownsRow_nil _ _ _ _, (fun k h => by cases h), hbel3⟩
            have HAP := hid hsp.at'
            rw [HN.out]
            have HP : Hid (∀ wx vb vw bl wl, JInv w wx (.slice (some ⟨gp, 0, none⟩) ys.length cp) ys vb vw bl wl → ∀ (j : Nat) y, ys[j]? = some y → wx.cell? ⟨gp, j, none⟩ = some (strV y)) := fun wx vb vw bl wl hJ j y hj => by
              have hjl : j < ys.length := (List.getElem?_eq_some_iff.1 hj).1
              rw [hJ.pcs.cellAt j (by omega), List.getElem?_map, hj]; rfl
            clear hsp hgp hown3 hbel3
            go_wp2_with fail
            go_loopg [6, 7] n (fun gk vb i wx => ∃ (k : Nat) (bl : List UInt8), k + gk = n ∧ i = .int .i64 k ∧ JInv w wx (.slice ap ys.length cp) ys vb (.slice none 0 0) bl [] ∧ bl ++ flat (noted (k % 2 == 1) (ys.drop k)) = flat (noted false ys))
            case atStart => exact ⟨0, [], by omega, rfl, HJ0.out, by simp⟩
            case round =>
              obtain ⟨k, bl, hk, rfl, hJ, hbl⟩ := hrel
              have HJ := hid hJ
              clear hJ HJ0
              have hbl' : bl.length + (flat (noted (k % 2 == 1) (ys.drop k))).length ≤ 1048576 := by
                have h1 := flat_noted_len ys false
                rw [← hbl, List.length_append] at h1
                omega
              have HBL := hid hbl
              clear hbl
              cases gk with
              | succ gk =>
                have hkn : (k : Int) < (n : Int) := by omega
                obtain ⟨y, hy⟩ : ∃ y, ys[k]? = some y := ⟨_, List.getElem?_eq_getElem (by have := HN.out; omega)⟩
                obtain rfl := HAP.out (by have := HN.out; omega)
                have hcy := HP.out _ _ _ _ _ HJ.out k y hy
                have hyl := HY.out y (List.mem_of_getElem? hy)
                have hdr := (room_drop ys k y hy).2
                have HYK := hid hy
                have hm := mod24 k
                clear hy
                cases hp : (k % 2 == 1) with
                | true =>
                  have hB2 : ((((bl ++ [32, 9, 35, 110, 111, 116, 101, 92, 10]) ++ [10]) ++ [33, 120, 10]) ++ y) ++ [10] ++ flat (noted ((k + 1) % 2 == 1) (ys.drop (k + 1))) = flat (noted false ys) := by
                    have h := HBL.out
                    rw [hdr, hp, noted_odd y] at h
                    rw [← h, odd_succ, hp]
                    simp only [List.append_assoc, Bool.not_true]
                  have HB2 := hid hB2
                  rw [hdr, hp, noted_odd y] at hbl'
                  simp only [List.length_append, List.length_cons, List.length_nil] at hbl'
                  rw [hp] at hm
                  clear hB2 hdr HBL
                  go_wp2_with (first
                    | (at_builtin; refine wpList_append_own2 _ rfl _ _ 29 rfl w.heap.size 5 i5 (.int .u8 0) 1 1 Tryd.underlying29 hi hz0 hz1 hz2 rfl (by decide) u6 (bl).length (Lib.byteCells (bl)) rfl (HJ.out.alloc _).buf ⟨wr.heap.size, 0, none⟩ 9 9 [.int .u8 32, .int .u8 9, .int .u8 35, .int .u8 110, .int .u8 111, .int .u8 116, .int .u8 101, .int .u8 92, .int .u8 10] rfl (by simp) (cells_new _ _ _ (by decide)) (bytes_one [32, 9, 35, 110, 111, 116, 101, 92, 10]) (by (try simp only [List.length_append, List.length_cons, List.length_nil]); unfold maxLen; omega) (by (try simp only [List.length_append, List.length_cons, List.length_nil]); omega) (HJ.out.alloc _).bel.size ?_; intro v4 w4 ho4 hg4 hk4; have HJ4 := hid ((HJ.out.alloc _).putBuf (x := [32, 9, 35, 110, 111, 116, 101, 92, 10]) rfl rfl ho4 hg4 hk4); clear ho4 hg4 hk4)
                    | (at_builtin; refine wpList_append_own2 _ rfl _ _ 29 rfl w.heap.size 5 i5 (.int .u8 0) 1 1 Tryd.underlying29 hi hz0 hz1 hz2 rfl (by decide) v4 (bl ++ [32, 9, 35, 110, 111, 116, 101, 92, 10]).length (Lib.byteCells (bl ++ [32, 9, 35, 110, 111, 116, 101, 92, 10])) rfl (HJ4.out.alloc _).buf ⟨w4.heap.size, 0, none⟩ 1 1 [.int .u8 10] rfl (by simp) (cells_new _ _ _ (by decide)) (bytes_one [10]) (by (try simp only [List.length_append, List.length_cons, List.length_nil]); unfold maxLen; omega) (by (try simp only [List.length_append, List.length_cons, List.length_nil]); omega) (HJ4.out.alloc _).bel.size ?_; intro v5 w5 ho5 hg5 hk5; have HJ5 := hid ((HJ4.out.alloc _).putBuf (x := [10]) rfl rfl ho5 hg5 hk5); clear ho5 hg5 hk5)
                    | (at_builtin; refine wpList_append_own2 _ rfl _ _ 29 rfl w.heap.size 5 i5 (.int .u8 0) 1 1 Tryd.underlying29 hi hz0 hz1 hz2 rfl (by decide) v5 ((bl ++ [32, 9, 35, 110, 111, 116, 101, 92, 10]) ++ [10]).length (Lib.byteCells ((bl ++ [32, 9, 35, 110, 111, 116, 101, 92, 10]) ++ [10])) rfl (HJ5.out.alloc _).buf ⟨w5.heap.size, 0, none⟩ 3 3 [.int .u8 33, .int .u8 120, .int .u8 10] rfl (by simp) (cells_new _ _ _ (by decide)) (bytes_one [33, 120, 10]) (by (try simp only [List.length_append, List.length_cons, List.length_nil]); unfold maxLen; omega) (by (try simp only [List.length_append, List.length_cons, List.length_nil]); omega) (HJ5.out.alloc _).bel.size ?_; intro v6 w6 ho6 hg6 hk6; have HJ6 := hid ((HJ5.out.alloc _).putBuf (x := [33, 120, 10]) rfl rfl ho6 hg6 hk6); clear ho6 hg6 hk6; have hcy2 := HP.out _ _ _ _ _ HJ6.out k y HYK.out)
                    | (at_builtin; refine wpList_append_own_string2 _ rfl _ _ 29 9 rfl w.heap.size 5 i5 Tryd.underlying29 Tryd.underlying9 hi hz0 hz1 hz2 v6 (((bl ++ [32, 9, 35, 110, 111, 116, 101, 92, 10]) ++ [10]) ++ [33, 120, 10]).length (Lib.byteCells (((bl ++ [32, 9, 35, 110, 111, 116, 101, 92, 10]) ++ [10]) ++ [33, 120, 10])) rfl HJ6.out.buf ⟨y.toArray⟩ rfl (by rw [Lib.size_eq]; simp only [List.length_append, List.length_cons, List.length_nil]; unfold maxLen; omega) (by rw [Lib.size_eq]; simp only [List.length_append, List.length_cons, List.length_nil]; omega) HJ6.out.bel.size ?_; intro v7 w7 ho7 hg7 hk7; have HJ7 := hid (HJ6.out.putBuf (x := y) (by rw [Lib.size_eq]) rfl ho7 hg7 hk7); clear ho7 hg7 hk7)
                    | (at_builtin; refine wpList_append_own2 _ rfl _ _ 29 rfl w.heap.size 5 i5 (.int .u8 0) 1 1 Tryd.underlying29 hi hz0 hz1 hz2 rfl (by decide) v7 ((((bl ++ [32, 9, 35, 110, 111, 116, 101, 92, 10]) ++ [10]) ++ [33, 120, 10]) ++ y).length (Lib.byteCells ((((bl ++ [32, 9, 35, 110, 111, 116, 101, 92, 10]) ++ [10]) ++ [33, 120, 10]) ++ y)) rfl (HJ7.out.alloc _).buf ⟨w7.heap.size, 0, none⟩ 1 1 [.int .u8 10] rfl (by simp) (cells_new _ _ _ (by decide)) (bytes_one [10]) (by (try simp only [List.length_append, List.length_cons, List.length_nil]); unfold maxLen; omega) (by (try simp only [List.length_append, List.length_cons, List.length_nil]); omega) (HJ7.out.alloc _).bel.size ?_; intro v8 w8 ho8 hg8 hk8; have HJ8 := hid ((HJ7.out.alloc _).putBuf (x := [10]) rfl rfl ho8 hg8 hk8); clear ho8 hg8 hk8))
                  go_roundg gk
                  case measure => omega
                  case rel => exact ⟨k + 1, ((((bl ++ [32, 9, 35, 110, 111, 116, 101, 92, 10]) ++ [10]) ++ [33, 120, 10]) ++ y) ++ [10], by omega, by go_num, HJ8.out, HB2.out⟩
                | false =>
                  have hB2 : (bl ++ y) ++ [10] ++ flat (noted ((k + 1) % 2 == 1) (ys.drop (k + 1))) = flat (noted false ys) := by
                    have h := HBL.out
                    rw [hdr, hp, noted_even y] at h
                    rw [← h, odd_succ, hp]
                    simp only [List.append_assoc, Bool.not_false]
                  have HB2 := hid hB2
                  rw [hdr, hp, noted_even y] at hbl'
                  simp only [List.length_append, List.length_cons, List.length_nil] at hbl'
                  rw [hp] at hm
                  clear hB2 hdr HBL
                  go_wp2_with (first
                    | (at_builtin; refine wpList_append_own_string2 _ rfl _ _ 29 9 rfl w.heap.size 5 i5 Tryd.underlying29 Tryd.underlying9 hi hz0 hz1 hz2 u6 (bl).length (Lib.byteCells (bl)) rfl HJ.out.buf ⟨y.toArray⟩ rfl (by rw [Lib.size_eq]; simp only [List.length_append, List.length_cons, List.length_nil]; unfold maxLen; omega) (by rw [Lib.size_eq]; simp only [List.length_append, List.length_cons, List.length_nil]; omega) HJ.out.bel.size ?_; intro v7 w7 ho7 hg7 hk7; have HJ7 := hid (HJ.out.putBuf (x := y) (by rw [Lib.size_eq]) rfl ho7 hg7 hk7); clear ho7 hg7 hk7)
                    | (at_builtin; refine wpList_append_own2 _ rfl _ _ 29 rfl w.heap.size 5 i5 (.int .u8 0) 1 1 Tryd.underlying29 hi hz0 hz1 hz2 rfl (by decide) v7 (bl ++ y).length (Lib.byteCells (bl ++ y)) rfl (HJ7.out.alloc _).buf ⟨w7.heap.size, 0, none⟩ 1 1 [.int .u8 10] rfl (by simp) (cells_new _ _ _ (by decide)) (bytes_one [10]) (by (try simp only [List.length_append, List.length_cons, List.length_nil]); unfold maxLen; omega) (by (try simp only [List.length_append, List.length_cons, List.length_nil]); omega) (HJ7.out.alloc _).bel.size ?_; intro v8 w8 ho8 hg8 hk8; have HJ8 := hid ((HJ7.out.alloc _).putBuf (x := [10]) rfl rfl ho8 hg8 hk8); clear ho8 hg8 hk8))
                  go_roundg gk
                  case measure => omega
                  case rel => exact ⟨k + 1, (bl ++ y) ++ [10], by omega, by go_num, HJ8.out, HB2.out⟩
              | zero =>
                have hkn : ¬ ((k : Int) < (n : Int)) := by omega
                have hdr : ys.drop k = [] := List.drop_of_length_le (by have := HN.out; omega)
                have hb3 : bl = flat (noted false ys) := by have h := HBL.out; rw [hdr] at h; simpa [noted, flat] using h
                clear HBL hdr
                subst hb3
                have hcv := conv_own HJ.out.buf
                have cL := zzlines_c (noted false ys) wr (noted_noEnd ys false (fun p hp => by
                  obtain ⟨_, _, _, _, _, _, _, _, h, _⟩ := plain_parts (HALL2.out p hp)
                  exact h)) (by omega)
                have hjo : logical ⟨false, [], []⟩ (noted false ys) = ys := by
                  have := noted_reads ys false [] HALL2.out
                  simpa using this
                rw [hjo] at cL
                clear hjo
                go_wp2_with fail
                refine cL.mono ?_
                rintro e w9 ⟨v9, rfl, hown9, hbel9⟩
                obtain ⟨a9, g9, c9, rfl, hs9, _⟩ := strs_of hown9
                have hJ9 := HJ.out.below hbel9
                have hsp9 : Strs w9 ap gp 0 ys := ⟨HAP.out, fun j y hj => by
                  have hjl : j < ys.length := (List.getElem?_eq_some_iff.1 hj).1
                  have hap := HAP.out (by omega)
                  subst hap
                  rw [Nat.zero_add]
                  exact HP.out _ _ _ _ _ hJ9 j y hj⟩
                have HB9 := hid hJ9.bel
                have cS := same_c a9 ap g9 0 c9 gp 0 cp ys w9 (by have := HN.out; omega) hs9 hsp9
                rw [HN.out] at cS
                rw [HN.out]
                clear hs9 hJ9 hown9 hbel9 hcv cL hsp9
                go_wp2_with fail
                refine cS.mono ?_
                rintro e w10 ⟨rfl, q, rfl⟩
                go_wp2
                go_ret
                exact ⟨rfl, HB9.out.trans ⟨rfl, rfl, rfl, Nat.le_refl _, fun _ _ => rfl⟩⟩
end Go.Proofs.Qxb6606350aDoor
