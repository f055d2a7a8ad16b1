/-
  The law's helpers: zzSameRecord (15), zzNewlines (17), zzBytes (8), zzRecordsTooBig (9).
-/
import Derived.Test.Qxb6613956aFmtCn
import Derived.Test.Qxb6613956aFmtRp
namespace Go.Proofs.Qxb6613956aFmt
open Go.RowKit Go.Shelf
set_option linter.unusedSimpArgs false

theorem Rec.at {w : World} {v : Value} {ys : List (List UInt8)} (h : Rec w v ys) {n : Nat} (hn : ys.length = n) : ∃ ao cap, v = .slice ao n cap ∧ (0 < n → ∃ b o, ao = some ⟨b, o, none⟩ ∧ ∀ j y, ys[j]? = some y → w.cell? ⟨b, o + j, none⟩ = some (strV y)) := by
  subst hn
  exact h
theorem Rec.below {B : Nat} {w w' : World} {v : Value} {ys : List (List UInt8)} (h : Rec w v ys) (hb : Below B w w') (hB : w.heap.size ≤ B) : Rec w' v ys := by
  obtain ⟨ao, cap, h1, h2⟩ := h
  refine ⟨ao, cap, h1, fun h0 => ?_⟩
  obtain ⟨b, o, h3, h4⟩ := h2 h0
  refine ⟨b, o, h3, fun j y hj => ?_⟩
  have h5 := h4 j y hj
  exact (World.cell?_of_block (a := ⟨b, o + j, none⟩) (hb.block b (Nat.lt_of_lt_of_le (World.block_lt_of_cell? w _ h5) hB))).trans h5
set_option maxHeartbeats 3200000 in
set_option maxRecDepth 100000 in
theorem same_c (v1 v2 : Value) (ys : List (List UInt8)) (w : World) (h1 : Rec w v1 ys) (h2 : Rec w v2 ys) (hl : ys.length ≤ 100000000) :
    Calls Tryf.prog 15 #[v1, v2] w fun e w' => e = .returned (.bool true) ∧ ∃ k, w' = w.drewN k := by
  obtain ⟨n, hn⟩ : ∃ n, ys.length = n := ⟨_, rfl⟩
  obtain ⟨ao1, cap1, rfl, hc1⟩ := h1.at hn
  obtain ⟨ao2, cap2, rfl, hc2⟩ := h2.at hn
  have hn9 : (n : Int) ≤ 100000000 := by omega
  have HN := hid hn
  clear hn h1 h2
  have hnb : ((n : Int) != (n : Int)) = false := by simp
  go_enter Tryf.func15, Tryf.ntmps15
  go_wp2_with fail
  go_loopg [5] n (fun gk s5 wx => ∃ i k, s5 = .int .i64 (i : Nat) ∧ i ≤ n ∧ gk = n - i ∧ wx = w.drewN k)
  case atStart => exact ⟨0, 0, rfl, Nat.zero_le _, rfl, rfl⟩
  case round =>
    obtain ⟨i, k, rfl, hi, hgk, hw⟩ := hrel
    have hw' := hw
    subst hw
    have HG := hid hgk
    clear hgk
    by_cases hlt : i < n
    · obtain ⟨y, hy⟩ : ∃ y, ys[i]? = some y := ⟨_, List.getElem?_eq_getElem (by have := HN.out; omega)⟩
      obtain ⟨b1, o1, rfl, hx1⟩ := hc1 (by omega)
      obtain ⟨b2, o2, rfl, hx2⟩ := hc2 (by omega)
      have e1 : (w.drewN k).cell? ⟨b1, o1 + i, none⟩ = some (strV y) := hx1 i y hy
      have e2 : (w.drewN k).cell? ⟨b2, o2 + i, none⟩ = some (strV y) := hx2 i y hy
      have hlt9 : (i : Int) < (n : Int) := by omega
      have HX1 := hid hx1
      have HX2 := hid hx2
      clear hx1 hx2
      obtain ⟨w1, hw1⟩ : ∃ w1, w.drewN k = w1 := ⟨_, rfl⟩
      rw [hw1] at e1 e2 ⊢
      have HW := hid hw1
      clear hw1 hc1 hc2
      go_wp2_with fail
      go_quiet (fail)
      go_wp2_with fail
      go_roundg (n - (i + 1))
      case measure => rw [HG.out]; omega
      case rel => exact ⟨i + 1, k + nq, rfl, hlt, rfl, by rw [← HW.out, World.drewN_drewN]⟩
    · have hge : ¬ ((i : Int) < (n : Int)) := by omega
      go_wp2_with fail
      go_ret
      exact ⟨rfl, k, rfl⟩

set_option maxHeartbeats 3200000 in
set_option maxRecDepth 100000 in
theorem newlines_c (v : Value) (ys : List (List UInt8)) (w : World) (h : Rec w v ys) (hl : ys.length ≤ 100000000) (hy : ∀ y ∈ ys, y.length ≤ 100000000) (hs : nlR ys ≤ 100000000) :
    Calls Tryf.prog 17 #[v] w fun e w' => e = .returned (.int .i64 (nlR ys : Nat)) ∧ w' = w := by
  obtain ⟨n, hn⟩ : ∃ n, ys.length = n := ⟨_, rfl⟩
  obtain ⟨ao, cap, rfl, hc⟩ := h.at hn
  have hn9 : (n : Int) ≤ 100000000 := by omega
  have HN := hid hn
  clear hn h
  go_enter Tryf.func17, Tryf.ntmps17
  go_wp2_with fail
  go_loopg [3, 4] n (fun gk s3 s4 wx => ∃ i : Nat, s4 = .int .i64 (i : Nat) ∧ i ≤ n ∧ gk = n - i ∧ s3 = .int .i64 (nlR (ys.take i) : Nat) ∧ w = wx)
  case atStart => exact ⟨0, rfl, Nat.zero_le _, rfl, rfl, rfl⟩
  case round =>
    obtain ⟨i, rfl, hi, hgk, rfl, rfl⟩ := hrel
    have HG := hid hgk
    clear hgk
    by_cases hlt : i < n
    · obtain ⟨y, hy'⟩ : ∃ y, ys[i]? = some y := ⟨_, List.getElem?_eq_getElem (by have := HN.out; omega)⟩
      obtain ⟨b1, o1, rfl, hx1⟩ := hc (by omega)
      have e1 : w.cell? ⟨b1, o1 + i, none⟩ = some (strV y) := hx1 i y hy'
      have hlt9 : (i : Int) < (n : Int) := by omega
      have hyl : y.length ≤ 100000000 := hy y (List.mem_of_getElem? hy')
      have htk : nlR (ys.take (i + 1)) = nlR (ys.take i) + nls y := by
        obtain ⟨h1, h2⟩ := List.getElem?_eq_some_iff.1 hy'
        rw [List.take_succ_eq_append_getElem h1, h2, nlR_snoc]
      have hle : nlR (ys.take (i + 1)) ≤ nlR ys := by
        have h9 := congrArg nlR (List.take_append_drop (i + 1) ys)
        rw [nlR_append] at h9
        omega
      have HTK := hid htk
      obtain ⟨acc, hacc⟩ : ∃ acc, nlR (ys.take i) = acc := ⟨_, rfl⟩
      rw [hacc] at htk ⊢
      have HAC := hid hacc
      clear hacc hx1 hc
      have hyl9 : (y.length : Int) ≤ 100000000 := by omega
      go_wp2_with fail
      go_loopg [3, 5] y.length (fun gj s3 s5 wx => ∃ j : Nat, s5 = .int .i64 (j : Nat) ∧ j ≤ y.length ∧ gj = y.length - j ∧ s3 = .int .i64 ((acc + nls (y.take j) : Nat) : Int) ∧ w = wx)
      case atStart => exact ⟨0, rfl, Nat.zero_le _, rfl, rfl, rfl⟩
      case round =>
        obtain ⟨j, rfl, hj, hgj, rfl, rfl⟩ := hrel
        have HGJ := hid hgj
        clear hgj
        by_cases hjl : j < y.length
        · obtain ⟨ch, hch⟩ : ∃ ch, y[j]? = some ch := ⟨_, List.getElem?_eq_getElem hjl⟩
          have hjl9 : (j : Int) < (y.length : Int) := by omega
          have hsnc : nls (y.take (j + 1)) = nls (y.take j) + (if ch = 10 then 1 else 0) := by
            obtain ⟨h1, h2⟩ := List.getElem?_eq_some_iff.1 hch
            rw [List.take_succ_eq_append_getElem h1, h2, nls_append]
            by_cases hc : ch = 10
            · rw [if_pos hc, hc]; rfl
            · rw [if_neg hc]; simp [nls, hc]
          have hjle : nls (y.take (j + 1)) ≤ nls y := by
            have h9 := congrArg nls (List.take_append_drop (j + 1) y)
            rw [nls_append] at h9
            omega
          have HS := hid hsnc
          clear hsnc
          obtain ⟨sv, hsv⟩ : ∃ sv, acc + nls (y.take j) = sv := ⟨_, rfl⟩
          rw [hsv]
          have hsv9 : (sv : Int) ≤ 100000000 := by have := HS.out; omega
          have HSV := hid hsv
          clear hsv
          have hgd : ∀ h, ((⟨y.toArray⟩ : ByteArray)[j]'h) = ch := fun h => by
            obtain ⟨h1, h2⟩ := List.getElem?_eq_some_iff.1 hch
            rw [← h2]
            simp [ByteArray.getElem_eq_getElem_data]
          go_wp2_with fail
          · rename_i hcnd
            have h10 : ch = 10 := UInt8.toNat_inj.1 (by have h9 : (ch.toNat : Int) = 10 := by simpa using hcnd
                                                        show ch.toNat = 10
                                                        omega)
            go_roundg (y.length - (j + 1))
            case measure => rw [HGJ.out]; omega
            case rel =>
              refine ⟨j + 1, rfl, hjl, rfl, ?_, rfl⟩
              have h9 := HS.out
              rw [if_pos h10] at h9
              rw [h9, ← Nat.add_assoc, HSV.out]
              rfl
          · rename_i hcnd
            have h10 : ¬ ch = 10 := fun e => by rw [e] at hcnd; simp at hcnd
            go_roundg (y.length - (j + 1))
            case measure => rw [HGJ.out]; omega
            case rel =>
              refine ⟨j + 1, rfl, hjl, rfl, ?_, rfl⟩
              have h9 := HS.out
              rw [if_neg h10] at h9
              rw [h9, Nat.add_zero, HSV.out]
        · have hge : ¬ ((j : Int) < (y.length : Int)) := by omega
          have hall : y.take j = y := List.take_of_length_le (by omega)
          rw [hall]
          have hs9 : ((acc + nls y : Nat) : Int) ≤ 100000000 := by omega
          go_wp2_with fail
          go_roundg (n - (i + 1))
          case measure => rw [HG.out]; omega
          case rel => exact ⟨i + 1, rfl, hlt, rfl, by rw [htk]; simp, rfl⟩
    · have hge : ¬ ((i : Int) < (n : Int)) := by omega
      have hall : ys.take i = ys := List.take_of_length_le (by have := HN.out; omega)
      rw [hall]
      go_wp2_with fail
      go_ret
      exact ⟨rfl, rfl⟩

/-- A [][]string as it lies. -/
def Recs (w : World) (v : Value) (rs : List (List (List UInt8))) : Prop := ∃ ao cap, v = .slice ao rs.length cap ∧ (0 < rs.length → ∃ b o, ao = some ⟨b, o, none⟩ ∧ ∀ j ys, rs[j]? = some ys → ∃ vj, w.cell? ⟨b, o + j, none⟩ = some vj ∧ Rec w vj ys)
theorem Recs.at {w : World} {v : Value} {rs : List (List (List UInt8))} (h : Recs w v rs) {n : Nat} (hn : rs.length = n) : ∃ ao cap, v = .slice ao n cap ∧ (0 < n → ∃ b o, ao = some ⟨b, o, none⟩ ∧ ∀ j ys, rs[j]? = some ys → ∃ vj, w.cell? ⟨b, o + j, none⟩ = some vj ∧ Rec w vj ys) := by
  subst hn
  exact h
def sumL (ys : List (List UInt8)) : Nat := (ys.map List.length).sum
def szR (ys : List (List UInt8)) : Nat := ys.length + sumL ys
def szT (rs : List (List (List UInt8))) : Nat := (rs.map szR).sum
theorem sumL_take (ys : List (List UInt8)) (j : Nat) (y : List UInt8) (h : ys[j]? = some y) : sumL (ys.take (j + 1)) = sumL (ys.take j) + y.length := by
  obtain ⟨h1, h2⟩ := List.getElem?_eq_some_iff.1 h
  rw [List.take_succ_eq_append_getElem h1, h2]; simp [sumL]
theorem szT_take (rs : List (List (List UInt8))) (j : Nat) (y : List (List UInt8)) (h : rs[j]? = some y) : szT (rs.take (j + 1)) = szT (rs.take j) + szR y := by
  obtain ⟨h1, h2⟩ := List.getElem?_eq_some_iff.1 h
  rw [List.take_succ_eq_append_getElem h1, h2]; simp [szT]
def BytesPost (rs : List (List (List UInt8))) (w : World) (e : Ending) (w' : World) : Prop := ∃ bb, e = .returned (.bool bb) ∧ w' = w ∧ (bb = true → rs.length + szT rs ≤ 1048576)
set_option maxHeartbeats 3200000 in
set_option maxRecDepth 100000 in
theorem bytes_c (v : Value) (rs : List (List (List UInt8))) (w : World) (h : Recs w v rs) :
    Calls Tryf.prog 8 #[v] w (BytesPost rs w) := by
  obtain ⟨n, hn⟩ : ∃ n, rs.length = n := ⟨_, rfl⟩
  obtain ⟨ao, cap, rfl, hc⟩ := h.at hn
  have HN := hid hn
  clear hn h
  by_cases hbig : n ≤ 1048576
  · have hb9 : (n : Int) ≤ 1048576 := by omega
    go_enter Tryf.func8, Tryf.ntmps8
    go_wp2_with fail
    go_loopg [3, 4] n (fun gk s3 s4 wx => ∃ i tot : Nat, s4 = .int .i64 (i : Nat) ∧ i ≤ n ∧ gk = n - i ∧ s3 = .int .i64 (tot : Nat) ∧ tot = n + szT (rs.take i) ∧ tot ≤ 1048576 ∧ w = wx)
    case atStart => exact ⟨0, n, rfl, Nat.zero_le _, rfl, rfl, rfl, hbig, rfl⟩
    case round =>
      obtain ⟨i, tot, rfl, hi, hgk, rfl, htot, htl, rfl⟩ := hrel
      have HG := hid hgk
      have HT := hid htot
      clear hgk htot
      have ht9 : (tot : Int) ≤ 1048576 := by omega
      by_cases hlt : i < n
      · obtain ⟨ys, hys⟩ : ∃ ys, rs[i]? = some ys := ⟨_, List.getElem?_eq_getElem (by have := HN.out; omega)⟩
        obtain ⟨b1, o1, rfl, hx1⟩ := hc (by omega)
        obtain ⟨vj, e1, hrec⟩ := hx1 i ys hys
        obtain ⟨k, hk⟩ : ∃ k, ys.length = k := ⟨_, rfl⟩
        obtain ⟨ao2, cap2, rfl, hc2⟩ := hrec.at hk
        have hlt9 : (i : Int) < (n : Int) := by omega
        have HK := hid (And.intro hk hys)
        clear hk hys hrec hx1 hc
        by_cases hkb : k ≤ 1048576
        · have hk9 : (k : Int) ≤ 1048576 := by omega
          by_cases hs1 : tot + k ≤ 1048576
          · have hs19 : (tot : Int) + (k : Int) ≤ 1048576 := by omega
            go_wp2_with fail
            go_loopg [3, 5] k (fun gj s3 s5 wx => ∃ j t2 : Nat, s5 = .int .i64 (j : Nat) ∧ j ≤ k ∧ gj = k - j ∧ s3 = .int .i64 (t2 : Nat) ∧ t2 = tot + k + sumL (ys.take j) ∧ t2 ≤ 1048576 ∧ w = wx)
            case atStart => exact ⟨0, tot + k, rfl, Nat.zero_le _, rfl, by simp, rfl, hs1, rfl⟩
            case round =>
              obtain ⟨j, t2, rfl, hj, hgj, rfl, ht2, ht2l, rfl⟩ := hrel
              have HGJ := hid hgj
              have HT2 := hid ht2
              clear hgj ht2
              have ht29 : (t2 : Int) ≤ 1048576 := by omega
              by_cases hjl : j < k
              · obtain ⟨y, hy⟩ : ∃ y, ys[j]? = some y := ⟨_, List.getElem?_eq_getElem (by have := HK.out.1; omega)⟩
                obtain ⟨b2, o2, rfl, hx2⟩ := hc2 (by omega)
                have e2 := hx2 j y hy
                have hj9 : (j : Int) < (k : Int) := by omega
                have HY := hid hy
                clear hy hx2 hc2
                by_cases hyb : y.length ≤ 1048576
                · have hy9 : (y.length : Int) ≤ 1048576 := by omega
                  by_cases hs2 : t2 + y.length ≤ 1048576
                  · have hs29 : (t2 : Int) + (y.length : Int) ≤ 1048576 := by omega
                    go_wp2_with fail
                    go_roundg (k - (j + 1))
                    case measure => rw [HGJ.out]; omega
                    case rel => exact ⟨j + 1, t2 + y.length, rfl, hjl, rfl, by simp, by rw [sumL_take ys j y HY.out, HT2.out]; omega, hs2, rfl⟩
                  · have hs29 : ¬ ((t2 : Int) + (y.length : Int) ≤ 1048576) := by omega
                    go_wp2_with fail
                    go_ret
                    exact ⟨false, rfl, rfl, fun e => by cases e⟩
                · have hy9 : ¬ ((y.length : Int) ≤ 1048576) := by omega
                  go_wp2_with fail
                  go_ret
                  exact ⟨false, rfl, rfl, fun e => by cases e⟩
              · have hjg : ¬ ((j : Int) < (k : Int)) := by omega
                have hall : ys.take j = ys := List.take_of_length_le (by have := HK.out.1; omega)
                go_wp2_with fail
                go_roundg (n - (i + 1))
                case measure => rw [HG.out]; omega
                case rel =>
                  refine ⟨i + 1, t2, rfl, hlt, rfl, rfl, ?_, ht2l, rfl⟩
                  rw [szT_take rs i ys HK.out.2, HT2.out, hall, HT.out, szR, HK.out.1]
                  omega
          · have hs19 : ¬ ((tot : Int) + (k : Int) ≤ 1048576) := by omega
            go_wp2_with fail
            go_ret
            exact ⟨false, rfl, rfl, fun e => by cases e⟩
        · have hk9 : ¬ ((k : Int) ≤ 1048576) := by omega
          go_wp2_with fail
          go_ret
          exact ⟨false, rfl, rfl, fun e => by cases e⟩
      · have hge : ¬ ((i : Int) < (n : Int)) := by omega
        have hall : rs.take i = rs := List.take_of_length_le (by have := HN.out; omega)
        go_wp2_with fail
        go_ret
        exact ⟨true, rfl, rfl, fun _ => by have h9 := HT.out; rw [hall] at h9; have := HN.out; omega⟩
  · have hb9 : ¬ ((n : Int) ≤ 1048576) := by omega
    go_enter Tryf.func8, Tryf.ntmps8
    go_wp2_with fail
    go_ret
    exact ⟨false, rfl, rfl, fun e => by cases e⟩

def AnyBool (w : World) (e : Ending) (w' : World) : Prop := ∃ bb, e = .returned (.bool bb) ∧ w' = w
set_option maxHeartbeats 3200000 in
set_option maxRecDepth 100000 in
theorem tooBig_c (v : Value) (rs : List (List (List UInt8))) (w : World) (h : Recs w v rs) : Calls Tryf.prog 9 #[v] w (AnyBool w) := by
  obtain ⟨n, hn⟩ : ∃ n, rs.length = n := ⟨_, rfl⟩
  obtain ⟨ao, cap, rfl, hc⟩ := h.at hn
  have HN := hid hn
  clear hn h
  by_cases hbig : n ≤ 65536
  · have hb9 : (n : Int) ≤ 65536 := by omega
    go_enter Tryf.func9, Tryf.ntmps9
    go_wp2_with fail
    go_loopg [3, 4] n (fun gk s3 s4 wx => ∃ i tot : Nat, s4 = .int .i64 (i : Nat) ∧ i ≤ n ∧ gk = n - i ∧ s3 = .int .i64 (tot : Nat) ∧ tot ≤ 1572864 ∧ w = wx)
    case atStart => exact ⟨0, 24 * n, rfl, Nat.zero_le _, rfl, by simp, by omega, rfl⟩
    case round =>
      obtain ⟨i, tot, rfl, hi, hgk, rfl, htl, rfl⟩ := hrel
      have HG := hid hgk
      clear hgk
      have ht9 : (tot : Int) ≤ 1572864 := by omega
      by_cases hlt : i < n
      · obtain ⟨ys, hys⟩ : ∃ ys, rs[i]? = some ys := ⟨_, List.getElem?_eq_getElem (by have := HN.out; omega)⟩
        obtain ⟨b1, o1, rfl, hx1⟩ := hc (by omega)
        obtain ⟨vj, e1, hrec⟩ := hx1 i ys hys
        obtain ⟨k, hk⟩ : ∃ k, ys.length = k := ⟨_, rfl⟩
        obtain ⟨ao2, cap2, rfl, hc2⟩ := hrec.at hk
        have hlt9 : (i : Int) < (n : Int) := by omega
        have HK := hid (And.intro hk hys)
        clear hk hys hrec hx1 hc
        by_cases hkb : k ≤ 65536
        · have hk9 : (k : Int) ≤ 65536 := by omega
          by_cases hs1 : tot + 16 * k ≤ 1048576
          · have hs19 : (tot : Int) + 16 * (k : Int) ≤ 1048576 := by omega
            go_wp2_with fail
            go_loopg [3, 5] k (fun gj s3 s5 wx => ∃ j t2 : Nat, s5 = .int .i64 (j : Nat) ∧ j ≤ k ∧ gj = k - j ∧ s3 = .int .i64 (t2 : Nat) ∧ t2 ≤ 1048576 ∧ w = wx)
            case atStart => exact ⟨0, tot + 16 * k, rfl, Nat.zero_le _, rfl, by simp, hs1, rfl⟩
            case round =>
              obtain ⟨j, t2, rfl, hj, hgj, rfl, ht2l, rfl⟩ := hrel
              have HGJ := hid hgj
              clear hgj
              have ht29 : (t2 : Int) ≤ 1048576 := by omega
              by_cases hjl : j < k
              · obtain ⟨y, hy⟩ : ∃ y, ys[j]? = some y := ⟨_, List.getElem?_eq_getElem (by have := HK.out.1; omega)⟩
                obtain ⟨b2, o2, rfl, hx2⟩ := hc2 (by omega)
                have e2 := hx2 j y hy
                have hj9 : (j : Int) < (k : Int) := by omega
                clear hy hx2 hc2
                by_cases hyb : y.length ≤ 1048576
                · have hy9 : (y.length : Int) ≤ 1048576 := by omega
                  by_cases hs2 : t2 + y.length ≤ 1048576
                  · have hs29 : (t2 : Int) + (y.length : Int) ≤ 1048576 := by omega
                    go_wp2_with fail
                    go_roundg (k - (j + 1))
                    case measure => rw [HGJ.out]; omega
                    case rel => exact ⟨j + 1, t2 + y.length, rfl, hjl, rfl, by simp, hs2, rfl⟩
                  · have hs29 : ¬ ((t2 : Int) + (y.length : Int) ≤ 1048576) := by omega
                    go_wp2_with fail
                    go_ret
                    exact ⟨true, rfl, rfl⟩
                · have hy9 : ¬ ((y.length : Int) ≤ 1048576) := by omega
                  go_wp2_with fail
                  go_ret
                  exact ⟨true, rfl, rfl⟩
              · have hjg : ¬ ((j : Int) < (k : Int)) := by omega
                go_wp2_with fail
                go_roundg (n - (i + 1))
                case measure => rw [HG.out]; omega
                case rel => exact ⟨i + 1, t2, rfl, hlt, rfl, rfl, by omega, rfl⟩
          · have hs19 : ¬ ((tot : Int) + 16 * (k : Int) ≤ 1048576) := by omega
            go_wp2_with fail
            go_ret
            exact ⟨true, rfl, rfl⟩
        · have hk9 : ¬ ((k : Int) ≤ 65536) := by omega
          go_wp2_with fail
          go_ret
          exact ⟨true, rfl, rfl⟩
      · have hge : ¬ ((i : Int) < (n : Int)) := by omega
        go_wp2_with fail
        go_ret
        exact ⟨false, rfl, rfl⟩
  · have hb9 : ¬ ((n : Int) ≤ 65536) := by omega
    go_enter Tryf.func9, Tryf.ntmps9
    go_wp2_with fail
    go_ret
    exact ⟨true, rfl, rfl⟩
end Go.Proofs.Qxb6613956aFmt
