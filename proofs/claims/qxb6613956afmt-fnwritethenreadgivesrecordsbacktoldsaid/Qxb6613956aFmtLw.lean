/-
  The law (3).
-/
import Derived.Test.Qxb6613956aFmtLa
namespace Go.Proofs.Qxb6613956aFmt
open Go.RowKit Go.Shelf
set_option linter.unusedSimpArgs false

def enc (rs : List (List (List UInt8))) : List UInt8 := rs.flatMap encR
def nlT (rs : List (List (List UInt8))) : Nat := (rs.map (fun r => 1 + nlR r)).sum
theorem enc_take (rs : List (List (List UInt8))) (i : Nat) (ys : List (List UInt8)) (h : rs[i]? = some ys) : enc (rs.take (i + 1)) = enc (rs.take i) ++ encR ys := by
  obtain ⟨h1, h2⟩ := List.getElem?_eq_some_iff.1 h
  rw [List.take_succ_eq_append_getElem h1, h2]; simp [enc]
theorem enc_drop (rs : List (List (List UInt8))) (i : Nat) (ys : List (List UInt8)) (h : rs[i]? = some ys) : enc (rs.drop i) = encR ys ++ enc (rs.drop (i + 1)) := by
  obtain ⟨h1, h2⟩ := List.getElem?_eq_some_iff.1 h
  rw [List.drop_eq_getElem_cons h1, h2]; simp [enc]
theorem enc_split (rs : List (List (List UInt8))) (i : Nat) : enc (rs.take i) ++ enc (rs.drop i) = enc rs := by
  unfold enc
  rw [← List.flatMap_append, List.take_append_drop]
theorem nlT_take (rs : List (List (List UInt8))) (i : Nat) (ys : List (List UInt8)) (h : rs[i]? = some ys) : nlT (rs.take (i + 1)) = nlT (rs.take i) + (1 + nlR ys) := by
  obtain ⟨h1, h2⟩ := List.getElem?_eq_some_iff.1 h
  rw [List.take_succ_eq_append_getElem h1, h2]; simp [nlT]
theorem wide_eq (ys : List (List UInt8)) : wide ys = szR ys := by
  induction ys with
  | nil => rfl
  | cons f t ih => simp only [wide, szR, sumL, List.map_cons, List.sum_cons, List.length_cons] at ih ⊢; omega
theorem enc_len (rs : List (List (List UInt8))) : (enc rs).length ≤ 3 * szT rs + 2 * rs.length := by
  induction rs with
  | nil => simp [enc]
  | cons r t ih =>
    have h := encR_length r
    rw [wide_eq] at h
    simp only [enc, szT, List.flatMap_cons, List.length_append, List.map_cons, List.sum_cons, List.length_cons] at ih ⊢
    omega
theorem nls_le (f : List UInt8) : nls f ≤ f.length := List.count_le_length
theorem nlR_le (ys : List (List UInt8)) : nlR ys ≤ sumL ys := by
  induction ys with
  | nil => simp [nlR, sumL]
  | cons f t ih =>
    have := nls_le f
    simp only [nlR, sumL, List.map_cons, List.sum_cons] at ih ⊢
    omega
theorem nlT_le (rs : List (List (List UInt8))) : nlT rs ≤ rs.length + szT rs := by
  induction rs with
  | nil => simp [nlT]
  | cons r t ih =>
    have := nlR_le r
    simp only [nlT, szT, szR, List.map_cons, List.sum_cons, List.length_cons] at ih ⊢
    omega
theorem nlT_mono (rs : List (List (List UInt8))) (i : Nat) : nlT (rs.take i) ≤ nlT rs := by
  have h : nlT (rs.take i) + nlT (rs.drop i) = nlT rs := by
    unfold nlT
    rw [← List.sum_append, ← List.map_append, List.take_append_drop]
  omega
theorem szR_le (rs : List (List (List UInt8))) (ys : List (List UInt8)) (h : ys ∈ rs) : szR ys ≤ szT rs := by
  induction rs with
  | nil => simp at h
  | cons r t ih =>
    simp only [szT, List.map_cons, List.sum_cons]
    rcases List.mem_cons.1 h with rfl | h
    · omega
    · have := ih h
      simp only [szT] at this
      omega
theorem sumL_le (ys : List (List UInt8)) (y : List UInt8) (h : y ∈ ys) : y.length ≤ sumL ys := by
  induction ys with
  | nil => simp at h
  | cons r t ih =>
    simp only [sumL, List.map_cons, List.sum_cons]
    rcases List.mem_cons.1 h with rfl | h
    · omega
    · have := ih h
      simp only [sumL] at this
      omega
theorem flat_len (ys : List (List UInt8)) : ys.flatten.length = sumL ys := by
  induction ys with
  | nil => rfl
  | cons f t ih => simp only [List.flatten_cons, List.length_append, sumL, List.map_cons, List.sum_cons] at ih ⊢; omega
theorem Recs.below {B : Nat} {w w' : World} {v : Value} {rs : List (List (List UInt8))} (h : Recs w v rs) (hb : Below B w w') (hB : w.heap.size ≤ B) : Recs w' v rs := by
  obtain ⟨ao, cap, h1, h2⟩ := h
  refine ⟨ao, cap, h1, fun h0 => ?_⟩
  obtain ⟨b, o, h3, h4⟩ := h2 h0
  refine ⟨b, o, h3, fun j ys hj => ?_⟩
  obtain ⟨vj, h5, h6⟩ := h4 j ys hj
  exact ⟨vj, (World.cell?_of_block (a := ⟨b, o + j, none⟩) (hb.block b (Nat.lt_of_lt_of_le (World.block_lt_of_cell? w _ h5) hB))).trans h5, h6.below hb hB⟩
theorem Glob.below {w w' : World} {ae a2 : Addr} {m : Int} {B : Nat} (g : Glob w ae a2 m) (hb : Below B w w') (hB : w.heap.size ≤ B) : Glob w' ae a2 m := by
  have hb' : Below w.heap.size w w' := ⟨hb.os, hb.tape, hb.output, hb.size, fun k hk => hb.block k (by omega)⟩
  obtain ⟨c1, t1, h1⟩ := g.be
  obtain ⟨c2, t2, h2⟩ := g.b2
  exact ⟨g.c0 hb', g.c2 hb', g.c5 hb', by have := g.l5; have := hb.size; omega, g.ne, ⟨c1, t1, (hb'.block _ (lt_heap h1)).trans h1⟩, ⟨c2, t2, (hb'.block _ (lt_heap h2)).trans h2⟩⟩
theorem CSt.recOf {w0 w : World} {c k row s : Nat} {R : List UInt8} {x : Cv} (h : CSt w0 c k row s R x w) : Rec w x.rc x.Q := by
  rcases h.orc.2 with ⟨h1, h0⟩ | ⟨g, cap, cur, h1, hbg, hg, hnc, hcm, hcs, htk⟩
  · exact ⟨none, 0, by rw [h1, h0], fun h9 => by omega⟩
  · refine ⟨_, cap, h1, fun _ => ⟨g, 0, rfl, fun j y hj => ?_⟩⟩
    have h9 := h.orc.cells (g := g) (by rw [h1]; rfl) j (strV' y) (by rw [List.getElem?_map, hj]; rfl)
    rw [WideShapes.add_plain] at h9
    exact h9

set_option maxHeartbeats 6400000 in
set_option maxRecDepth 100000 in
theorem law_c (v : Value) (rs : List (List (List UInt8))) (ae a2 : Addr) (m : Int) (w : World) (h : Recs w v rs) (g : Glob w ae a2 m) :
    Calls Tryf.prog 3 #[v] w fun e w' => e = .returned (.bool true) ∧ Below w.heap.size w w' := by
  obtain ⟨n, hn⟩ : ∃ n, rs.length = n := ⟨_, rfl⟩
  have hv := h.at hn
  obtain ⟨ao, cap, rfl, hc⟩ := hv
  have HR := hid h
  have HN := hid hn
  clear h hn
  go_enter Tryf.func3, Tryf.ntmps3
  go_wp2_with fail
  refine (bytes_c _ rs w HR.out).mono ?_
  rintro e w1 ⟨bb, rfl, rfl, hbb⟩
  cases bb with
  | false =>
    go_wp2_with fail
    go_ret
    exact ⟨rfl, Below.refl _ _⟩
  | true =>
    have htot := hbb rfl
    clear hbb
    go_wp2_with fail
    refine (tooBig_c _ rs w1 HR.out).mono ?_
    rintro e w2 ⟨bb, rfl, rfl⟩
    cases bb with
    | true =>
      go_wp2_with fail
      go_ret
      exact ⟨rfl, Below.refl _ _⟩
    | false =>
      have hn9 : (n : Int) ≤ 1048576 := by have := HN.out; omega
      go_wp2_with fail
      go_loopg [3] n (fun gk s3 wx => ∃ i kd : Nat, s3 = .int .i64 (i : Nat) ∧ i ≤ n ∧ gk = n - i ∧ wx = w2.drewN kd ∧ ∀ ys ∈ rs.take i, ys ≠ [] ∧ ys.length = (rs.headD []).length)
      case atStart => exact ⟨0, 0, rfl, Nat.zero_le _, rfl, rfl, by simp⟩
      case round =>
        obtain ⟨i, kd, rfl, hi, hgk, hw, hok⟩ := hrel
        have HG := hid hgk
        have HOK := hid hok
        clear hgk hok
        subst hw
        by_cases hlt : i < n
        · obtain ⟨ys, hys⟩ : ∃ ys, rs[i]? = some ys := ⟨_, List.getElem?_eq_getElem (by have := HN.out; omega)⟩
          obtain ⟨y0, hy0⟩ : ∃ y0, rs[0]? = some y0 := ⟨_, List.getElem?_eq_getElem (by have := HN.out; omega)⟩
          obtain ⟨b1, o1, rfl, hx1⟩ := hc (by omega)
          obtain ⟨vj, e1, hrec⟩ := hx1 i ys hys
          obtain ⟨v0, e0, hrec0⟩ := hx1 0 y0 hy0
          rw [Nat.add_zero] at e0
          obtain ⟨k, hk⟩ : ∃ k, ys.length = k := ⟨_, rfl⟩
          obtain ⟨k0, hk0⟩ : ∃ k0, y0.length = k0 := ⟨_, rfl⟩
          obtain ⟨ao2, cap2, rfl, _⟩ := hrec.at hk
          obtain ⟨ao0, cap0, rfl, _⟩ := hrec0.at hk0
          have hlt9 : (i : Int) < (n : Int) := by omega
          have hn0 : (0 : Int) < (n : Int) := by omega
          have E1 : (w2.drewN kd).cell? ⟨b1, o1 + i, none⟩ = some (.slice ao2 k cap2) := e1
          have E0 : (w2.drewN kd).cell? ⟨b1, o1, none⟩ = some (.slice ao0 k0 cap0) := e0
          have HK := hid (And.intro hys (And.intro hk (And.intro hy0 hk0)))
          clear e1 e0 hys hk hy0 hk0 hrec hrec0 hx1 hc
          obtain ⟨w3, hw3⟩ : ∃ w3, w2.drewN kd = w3 := ⟨_, rfl⟩
          rw [hw3] at E1 E0 ⊢
          have HW := hid hw3
          clear hw3
          by_cases hk1 : k = 0
          · subst hk1
            go_wp2_with fail
            go_quiet (fail)
            go_wp2_with fail
            go_ret
            exact ⟨rfl, by rw [← HW.out]; exact ⟨rfl, rfl, rfl, Nat.le_refl _, fun _ _ => rfl⟩⟩
          · have hkb : ((k : Int) == 0) = false := beq_eq_false_iff_ne.2 (by omega)
            by_cases hk2 : k = k0
            · subst hk2
              have hnb : ((k : Int) != (k : Int)) = false := by simp
              go_wp2_with fail
              go_quiet (fail)
              go_wp2_with fail
              go_roundg (n - (i + 1))
              case measure => rw [HG.out]; omega
              case rel =>
                refine ⟨i + 1, kd + nq, rfl, hlt, rfl, by rw [← HW.out, World.drewN_drewN], fun z hz => ?_⟩
                obtain ⟨h1, h2, h3, h4⟩ := HK.out
                obtain ⟨h5, h6⟩ := List.getElem?_eq_some_iff.1 h1
                rw [List.take_succ_eq_append_getElem h5, h6, List.mem_append] at hz
                rcases hz with hz | hz
                · exact HOK.out z hz
                · rw [List.mem_singleton.1 hz]
                  refine ⟨fun e => hk1 (by rw [← h2, e]; rfl), ?_⟩
                  cases rs with
                  | nil => simp at h3
                  | cons a t => simp at h3; rw [List.headD_cons, h3, h2, h4]
            · have hnb : ((k : Int) != (k0 : Int)) = true := by simp; omega
              go_wp2_with fail
              go_quiet (fail)
              go_wp2_with fail
              go_ret
              exact ⟨rfl, by rw [← HW.out]; exact ⟨rfl, rfl, rfl, Nat.le_refl _, fun _ _ => rfl⟩⟩
        · have hge : ¬ ((i : Int) < (n : Int)) := by omega
          have hall : rs.take i = rs := List.take_of_length_le (by have := HN.out; omega)
          have hok2 := HOK.out
          rw [hall] at hok2
          have HOK2 := hid hok2
          have HR2 := hid (HR.out.below (B := w2.heap.size) (w' := w2.drewN kd) ⟨rfl, rfl, rfl, Nat.le_refl _, fun _ _ => rfl⟩ (Nat.le_refl _))
          have hg2 : Glob (w2.drewN kd) ae a2 m := g.below (B := w2.heap.size) ⟨rfl, rfl, rfl, Nat.le_refl _, fun _ _ => rfl⟩ (Nat.le_refl _)
          have HB2 := hid (show Below w2.heap.size w2 (w2.drewN kd) from ⟨rfl, rfl, rfl, Nat.le_refl _, fun _ _ => rfl⟩)
          obtain ⟨w3, hw3⟩ : ∃ w3, w2.drewN kd = w3 := ⟨_, rfl⟩
          rw [hw3] at HR2 hg2 HB2 ⊢
          have hsz3 : w3.heap.size = w2.heap.size := by rw [← hw3]; rfl
          clear hw3 hok2 HOK hall hc HR HG
          go_wp2_with fail
          refine (sink_c w3).mono ?_
          rintro e w4 ⟨d, q, r, b, rfl, hst4⟩
          have H4 := hid hst4
          clear hst4
          have hel := enc_len rs
          have hnl := nlT_le rs
          go_wp2_with fail
          go_loopg [6] n (fun gk s6 wx => ∃ i : Nat, s6 = .int .i64 (i : Nat) ∧ i ≤ n ∧ gk = n - i ∧ VSt w3 d q r b (enc (rs.take i)) wx)
          case atStart => exact ⟨0, rfl, Nat.zero_le _, rfl, H4.out⟩
          case round =>
            clear H4
            obtain ⟨i, rfl, hi, hgk, hst⟩ := hrel
            have HG := hid hgk
            have H5 := hid hst
            clear hgk hst
            obtain ⟨ao', cap', hv', hc'⟩ := HR2.out.at HN.out
            obtain ⟨rfl, rfl⟩ : ao = ao' ∧ cap = cap' := by simpa using hv'
            clear hv'
            by_cases hlt : i < n
            · obtain ⟨ys, hys⟩ : ∃ ys, rs[i]? = some ys := ⟨_, List.getElem?_eq_getElem (by have := HN.out; omega)⟩
              obtain ⟨b1, o1, rfl, hx1⟩ := hc' (by omega)
              obtain ⟨vj, e1, hrec⟩ := hx1 i ys hys
              have hlt9 : (i : Int) < (n : Int) := by omega
              have E1 : wr.cell? ⟨b1, o1 + i, none⟩ = some vj := (World.cell?_of_block (a := ⟨b1, o1 + i, none⟩) (H5.out.bel.block b1 (World.block_lt_of_cell? w3 _ e1))).trans e1
              have hmem : ys ∈ rs := List.mem_of_getElem? hys
              have hsz := szR_le rs ys hmem
              have hok := HOK2.out ys hmem
              have htk := enc_take rs i ys hys
              have hsp := congrArg List.length (enc_split rs (i + 1))
              rw [htk, List.length_append, List.length_append] at hsp
              have HK := hid htk
              have HREC := hid hrec
              clear e1 hrec hx1 hc' htk
              have hszR : szR ys = ys.length + sumL ys := rfl
              go_wp2_with fail
              refine (failed_c w3 d q r b _ ys vj m wr H5.out HREC.out hok.1 hg2.g5 (by omega) (fun y hy => by have := sumL_le ys y hy; omega) (by have := HN.out; omega)).mono ?_
              rintro e w5 ⟨rfl, h5⟩
              have H6 := hid h5
              clear h5 H5 E1
              go_wp2_with fail
              go_roundg (n - (i + 1))
              case measure => rw [HG.out]; omega
              case rel => exact ⟨i + 1, rfl, hlt, rfl, by rw [HK.out]; exact H6.out⟩
            · have hge : ¬ ((i : Int) < (n : Int)) := by omega
              have hall : rs.take i = rs := List.take_of_length_le (by have := HN.out; omega)
              rw [hall] at H5
              go_wp2_with fail
              refine (text_c w3 d q r b (enc rs) wr H5.out (by have := HN.out; omega)).mono ?_
              rintro e w6 ⟨rfl, hb6⟩
              have HB6 := hid hb6
              clear hb6 H5
              go_wp2_with fail
              refine (newReader_c (enc rs) w6 (by have := HN.out; omega)).mono ?_
              rintro e w7 ⟨c, k, row, s, x0, rfl, h7, hx0, hx1⟩
              have H7 := hid h7
              have HX := hid (And.intro hx0 hx1)
              clear h7 hx0 hx1
              have HR6 := hid (HR2.out.below HB6.out (Nat.le_refl _))
              have hg6 : Glob w6 ae a2 m := hg2.below HB6.out (Nat.le_refl _)
              have hge' := hge
              clear HG hge hall hi
              go_wp2_with fail
              go_loopg [8, 9] n (fun gk s8 s9 wx => ∃ (i : Nat) (x : Cv), s9 = .int .i64 (i : Nat) ∧ i ≤ n ∧ gk = n - i ∧ s8 = .int .i64 ((nlT (rs.take i) + 1 : Nat) : Int) ∧ CSt w6 c k row s (enc (rs.drop i)) x wx ∧ x.line = nlT (rs.take i) ∧ (x.fields = 0 ∨ x.fields = (rs.headD []).length))
              case atStart => exact ⟨0, x0, rfl, Nat.zero_le _, rfl, rfl, H7.out, HX.out.1, Or.inl HX.out.2⟩
              case round =>
                clear H7 HX
                obtain ⟨i, x, rfl, hi, hgk, rfl, hst, hxl, hxf⟩ := hrel
                have HG := hid hgk
                have H8 := hid hst
                have HXF := hid hxf
                clear hgk hst hxf
                obtain ⟨ao', cap', hv', hc'⟩ := HR6.out.at HN.out
                obtain ⟨rfl, rfl⟩ : ao = ao' ∧ cap = cap' := by simpa using hv'
                clear hv'
                by_cases hlt : i < n
                · obtain ⟨ys, hys⟩ : ∃ ys, rs[i]? = some ys := ⟨_, List.getElem?_eq_getElem (by have := HN.out; omega)⟩
                  obtain ⟨b1, o1, rfl, hx1⟩ := hc' (by omega)
                  obtain ⟨vj, e1, hrec⟩ := hx1 i ys hys
                  have hlt9 : (i : Int) < (n : Int) := by omega
                  have hmem : ys ∈ rs := List.mem_of_getElem? hys
                  have hsz := szR_le rs ys hmem
                  have hok := HOK2.out ys hmem
                  have hszR : szR ys = ys.length + sumL ys := rfl
                  have hsp := congrArg List.length (enc_split rs i)
                  have hdr := enc_drop rs i ys hys
                  have hnt := nlT_take rs i ys hys
                  have hnm := nlT_mono rs (i + 1)
                  rw [List.length_append] at hsp
                  have H9 := H8
                  rw [hdr] at H9 hsp
                  have hfl := flat_len ys
                  obtain ⟨f, t, rfl⟩ : ∃ f t, ys = f :: t := List.exists_cons_of_ne_nil hok.1
                  have hlen : (f :: t).length = t.length + 1 := rfl
                  have HREC := hid hrec
                  have HE1 := hid e1
                  have HNT := hid hnt
                  clear hrec hx1 hc' e1 hys hdr H8
                  go_wp2_with fail
                  refine (plain_c w6 c k row s f t (enc (rs.drop (i + 1))) x ae a2 m wr H9.out hg6 (by rw [hxl]; omega) (by have := HN.out; omega) (by rw [hfl]; omega) (by omega) (by rcases HXF.out with h1 | h1; exact Or.inl h1; exact Or.inr (by rw [h1, ← hok.2]; rfl))).mono ?_
                  rintro e w8 ⟨v8, x8, rfl, h8, hrc, hQ, hl8, hs8, hf8⟩
                  have H10 := hid h8
                  have hr1 : Rec w8 v8 (f :: t) := by have h9 := h8.recOf; rw [hrc, hQ] at h9; exact h9
                  have hr2 : Rec w8 vj (f :: t) := HREC.out.below h8.bel (Nat.le_refl _)
                  have E1 : w8.cell? ⟨b1, o1 + i, none⟩ = some vj := (World.cell?_of_block (a := ⟨b1, o1 + i, none⟩) (h8.bel.block b1 (World.block_lt_of_cell? w6 _ HE1.out))).trans HE1.out
                  have E2 : w8.cell? ⟨c, 2, none⟩ = some (.int .i64 ((nlT (rs.take i) + 1 : Nat) : Int)) := by
                    have h9 := h8.cell 2 _ rfl
                    rw [h9]
                    show some (Value.int .i64 ((x8.start : Nat) : Int)) = _
                    rw [hs8, hxl]
                  have cSame := same_c v8 vj (f :: t) w8 hr1 hr2 (by omega)
                  obtain ⟨lv, hlv⟩ : ∃ lv, nlT (rs.take i) + 1 = lv := ⟨_, rfl⟩
                  rw [hlv] at E2 ⊢
                  have hlvb : ((lv : Int) != (lv : Int)) = false := by simp
                  obtain ⟨b8, o8, hvf⟩ := hr2
                  obtain ⟨hvj, _⟩ := hvf
                  have hr2 : Rec w8 vj (f :: t) := HREC.out.below h8.bel (Nat.le_refl _)
                  have HLV := hid (And.intro hlv (And.intro hl8 (And.intro hf8 hxl)))
                  have HR2' := hid hr2
                  clear h8 hr1 hr2 hrc hQ hl8 hs8 hf8 hlv H9 hxl hvj
                  go_wp2_with fail
                  refine cSame.mono ?_
                  rintro e w9 ⟨rfl, kk, rfl⟩
                  have E1' : (w8.drewN kk).cell? ⟨b1, o1 + i, none⟩ = some vj := E1
                  have E2' : (w8.drewN kk).cell? ⟨c, 2, none⟩ = some (.int .i64 (lv : Nat)) := E2
                  have HR9 := hid (HR2'.out.below (B := w8.heap.size) (w' := w8.drewN kk) ⟨rfl, rfl, rfl, Nat.le_refl _, fun _ _ => rfl⟩ (Nat.le_refl _))
                  have H11 := hid (H10.out.below (w' := w8.drewN kk) ⟨rfl, rfl, rfl, Nat.le_refl _, fun _ _ => rfl⟩)
                  obtain ⟨w9, hw9⟩ : ∃ w9, w8.drewN kk = w9 := ⟨_, rfl⟩
                  rw [hw9] at E1' E2' HR9 H11 ⊢
                  clear hw9 E1 E2 H10 HR2' cSame
                  have cLine := line_c c lv w9 E2'
                  have cNl := newlines_c vj (f :: t) w9 HR9.out (by omega) (fun y hy => by have := sumL_le _ y hy; omega) (by have := nlR_le (f :: t); omega)
                  have hlv9 : (lv : Int) ≤ 2097153 := by have := HLV.out.1; have := HNT.out; omega
                  have hnl9 : ((nlR (f :: t) : Nat) : Int) ≤ 1048576 := by have := nlR_le (f :: t); omega
                  go_wp2_with (first
                    | (go_at_call 16; refine cLine.mono ?_; rintro e w' ⟨rfl, hw'⟩; rw [hw'])
                    | (go_at_call 17; refine cNl.mono ?_; rintro e w' ⟨rfl, hw'⟩; rw [hw']))
                  go_roundg (n - (i + 1))
                  case measure => rw [HG.out]; omega
                  case rel =>
                    obtain ⟨h1, h2, h3, h4⟩ := HLV.out
                    refine ⟨i + 1, x8, rfl, hlt, rfl, ?_, H11.out, ?_, Or.inr ?_⟩
                    · rw [HNT.out, ← h1]
                      simp
                      omega
                    · rw [h2, h4, HNT.out]; omega
                    · rw [h3, ← hok.2]; rfl
                · have hge : ¬ ((i : Int) < (n : Int)) := by omega
                  have hall : rs.drop i = [] := List.drop_eq_nil_of_le (by have := HN.out; omega)
                  rw [hall] at H8
                  have hnil := fun W => Lib.run_eql_slice_nil (P := Tryf.prog) W 24 9 none 0 0 0 0 Tryf.underlying24
                  go_wp2_with fail
                  refine (plain_end w6 c k row s x ae a2 m wr H8.out hg6).mono ?_
                  rintro e w8 ⟨rfl, h8⟩
                  have H10 := hid h8
                  clear h8 H8
                  go_wp2_with fail
                  go_ret
                  refine ⟨rfl, ?_⟩
                  have hbb := H10.out.bel
                  have h6 := HB6.out
                  have h2 := HB2.out
                  have h36 : Below w2.heap.size w2 w6 := h2.trans ⟨h6.os, h6.tape, h6.output, h6.size, fun j hj => h6.block j (by omega)⟩
                  exact h36.trans ⟨hbb.os, hbb.tape, hbb.output, hbb.size, fun j hj => hbb.block j (by have := h6.size; omega)⟩
end Go.Proofs.Qxb6613956aFmt
