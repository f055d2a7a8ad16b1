/-
  csv: Write (27), ZZWriteFailed (11), ZZNewWriterSink (10), ZZSinkText (13).
-/
import Derived.Test.Qxb6613956aFmtWs
import Derived.Test.Qxb6613956aFmtIxAny
import Derived.Test.Qxb6613956aFmtPl2
import Derived.Shelf.Strings.BuilderX
namespace Go.Proofs.Qxb6613956aFmt
open Go.RowKit Go.Shelf
set_option linter.unusedSimpArgs false

/-- Fields with commas between them. -/
def join (one : Bool) : List (List UInt8) → List UInt8
  | [] => []
  | f :: t => encF one f ++ t.flatMap (fun g => 44 :: encF one g)
theorem join_snoc (one : Bool) (fs : List (List UInt8)) (f : List UInt8) : join one (fs ++ [f]) = join one fs ++ (if fs.length = 0 then [] else [44]) ++ encF one f := by
  cases fs with
  | nil => simp [join]
  | cons a t => simp [join]
theorem encT_join (one : Bool) (t : List (List UInt8)) : encT one t = t.flatMap (fun g => 44 :: encF one g) ++ [13, 10] := by
  induction t with
  | nil => rfl
  | cons f t ih => rw [encT, ih]; simp
theorem encR_join (r : List (List UInt8)) (h : r ≠ []) : encR r = join (decide (r.length = 1)) r ++ [13, 10] := by
  cases r with
  | nil => exact absurd rfl h
  | cons f t =>
    have e : t.isEmpty = decide ((f :: t).length = 1) := by cases t <;> simp
    rw [encR, e, encT_join, join, List.append_assoc]
/-- A []string as it lies. -/
def Rec (w : World) (v : Value) (ys : List (List UInt8)) : Prop := ∃ ao cap, v = .slice ao ys.length cap ∧ (0 < ys.length → ∃ b o, ao = some ⟨b, o, none⟩ ∧ ∀ j y, ys[j]? = some y → w.cell? ⟨b, o + j, none⟩ = some (strV y))
/-- csv.Writer in block d, over the bufio.Writer in block q. -/
structure VSt (w0 : World) (d q r b : Nat) (T : List UInt8) (w : World) : Prop where
  hd : w.heap[d]? = some (.cells #[.pointer (some ⟨q, 0, none⟩)] 62 (0, 0))
  inv : WInv w0 q r b T w
theorem VSt.bel {w0 w : World} {d q r b : Nat} {T : List UInt8} (h : VSt w0 d q r b T w) : Below w0.heap.size w0 w := by obtain ⟨_, _, _, _, _, h⟩ := h.inv; exact h.bel
theorem VSt.below {w0 w w' : World} {d q r b : Nat} {T : List UInt8} (h : VSt w0 d q r b T w) (hb : Below w.heap.size w w') : VSt w0 d q r b T w' := by
  obtain ⟨A, B, v, cur, hT, hw⟩ := h.inv
  exact ⟨(hb.block d (lt_heap h.hd)).trans h.hd, ⟨A, B, v, cur, hT, hw.below hb⟩⟩
theorem VSt.ptr {w0 w : World} {d q r b : Nat} {T : List UInt8} (h : VSt w0 d q r b T w) : w.cell? ⟨d, 0, none⟩ = some (.pointer (some ⟨q, 0, none⟩)) := by rw [Lib.cell_of_heap h.hd]; rfl
theorem vbyte_c (w0 : World) (d q r b : Nat) (T : List UInt8) (c : UInt8) (cv : Int) (hc : cv = (c.toNat : Int)) (w : World) (h : VSt w0 d q r b T w) (hlim : T.length ≤ 100000000) :
    Calls Tryf.prog 36 #[.pointer (some ⟨q, 0, none⟩), .int .u8 cv] w fun e w' => e = .returned .nilIface ∧ VSt w0 d q r b (T ++ [c]) w' := by
  subst hc
  exact (writeByte_c w0 q r b T c w h.inv hlim).mono fun _ _ ⟨h1, h2, h3⟩ => ⟨h1, h3 d _ h.hd, h2⟩
theorem vstr_c (w0 : World) (d q r b : Nat) (T s : List UInt8) (w : World) (h : VSt w0 d q r b T w) (hlim : T.length + s.length ≤ 100000000) :
    Calls Tryf.prog 38 #[.pointer (some ⟨q, 0, none⟩), strV s] w fun e w' => e = .returned (.tuple #[.int .i64 s.length, .nilIface]) ∧ VSt w0 d q r b (T ++ s) w' :=
  (writeString_c w0 q r b T s w h.inv hlim).mono fun _ _ ⟨h1, h2, h3⟩ => ⟨h1, h3 d _ h.hd, h2⟩

theorem asc4 : Asc ⟨#[44, 34, 13, 10]⟩ := fun j b h => by
  rcases j with _ | _ | _ | _ | j <;> simp at h <;> subst h <;> decide
set_option maxHeartbeats 1000000 in
theorem cany_c (y : List UInt8) (w : World) (hy : y.length ≤ 1000000000) :
    Calls Tryf.prog 37 #[strV y, .string ⟨#[44, 34, 13, 10]⟩] w fun e w' => e = .returned (.bool (y.any (fun c => c == 44 || c == 34 || c == 13 || c == 10))) ∧ Below w.heap.size w w' := by
  go_enter Tryf.func37, Tryf.ntmps37
  go_wp2_with fail
  refine (ia_c ⟨y.toArray⟩ ⟨#[44, 34, 13, 10]⟩ w (by rw [Lib.size_eq]; exact hy) (by decide) (by decide) asc4).mono ?_
  rintro e w1 ⟨rfl, hb⟩
  have HB := hid hb
  clear hb
  go_wp2_with fail
  go_ret
  refine ⟨?_, HB.out⟩
  rw [← any_quo]
  rfl
theorem Tryf.bx : Builder.Extra Tryf.prog Tryf.lays155_ren where
  sizeBuilder := by kernel_rfl
  liesBuilder := by kernel_rfl
  t5 := Tryf.underlying5
  a5 := Tryf.isAgg5
  z5 := Tryf.sizeOf5
  v5 := Tryf.zeroValue5
  infoByte := by kernel_rfl
  cellsByte := by kernel_rfl
  sizeByte := by kernel_rfl
  neB5 := by decide
theorem repl_c (y : List UInt8) (m : Int) (w : World) (hy : y.length ≤ 100000000) (hm : w.cell? ⟨5, 0, none⟩ = some (.int .i64 m)) :
    Calls Tryf.prog 39 #[strV y, .string ⟨#[34]⟩, .string ⟨#[34, 34]⟩] w fun e w' => e = .returned (strV (dbl y)) ∧ Below w.heap.size w w' := by
  have h := Any.strings_ReplaceAll Tryf.lays155 Tryf.bx ⟨y.toArray⟩ ⟨#[34]⟩ ⟨#[34, 34]⟩ m w (by rw [Lib.size_eq]; simp only; omega) hm (by decide) (by
    have h9 := count_le y
    show _ + Lib.count y [34] * 2 ≤ _
    rw [Lib.size_eq]; simp only; omega)
  refine h.mono fun _ _ ⟨h1, h2⟩ => ⟨h1.trans ?_, h2⟩
  show Ending.returned (.string ⟨(Lib.replaceAll y [34] [34, 34]).toArray⟩) = _
  rw [replace_dbl]

theorem join_le (one : Bool) (ys : List (List UInt8)) (i : Nat) : (join one (ys.take i)).length ≤ (join one ys).length := by
  cases ys with
  | nil => simp
  | cons f t =>
    cases i with
    | zero => simp [join]
    | succ i =>
      have h : (t.take i).flatMap (fun g => 44 :: encF one g) ++ (t.drop i).flatMap (fun g => 44 :: encF one g) = t.flatMap (fun g => 44 :: encF one g) := by rw [← List.flatMap_append, List.take_append_drop]
      have h2 := congrArg List.length h
      rw [List.length_append] at h2
      simp only [List.take_succ_cons, join, List.length_append]
      omega
set_option maxHeartbeats 3200000 in
set_option maxRecDepth 100000 in
theorem write_c (w0 : World) (d q r b : Nat) (T : List UInt8) (ys : List (List UInt8)) (v : Value) (m : Int) (w : World) (h : VSt w0 d q r b T w) (hv : Rec w0 v ys) (hne : ys ≠ []) (hm : w0.cell? ⟨5, 0, none⟩ = some (.int .i64 m)) (hlen : ys.length ≤ 10000000)
    (hys : ∀ y ∈ ys, y.length ≤ 10000000) (hlim : T.length + (encR ys).length ≤ 100000000) :
    Calls Tryf.prog 27 #[.pointer (some ⟨d, 0, none⟩), v] w fun e w' => e = .returned .nilIface ∧ VSt w0 d q r b (T ++ encR ys) w' := by
  obtain ⟨ao, cap, rfl, hcells⟩ := hv
  obtain ⟨n, hn⟩ : ∃ n, ys.length = n := ⟨_, rfl⟩
  have hn1 : 0 < n := by rw [← hn]; exact List.length_pos_iff.2 hne
  obtain ⟨rb, ro, rfl, hcell⟩ := hcells (by omega)
  obtain ⟨one, hone⟩ : ∃ one, decide (ys.length = 1) = one := ⟨_, rfl⟩
  have henc : encR ys = join one ys ++ [13, 10] := by rw [encR_join ys hne, hone]
  have HE := hid (And.intro henc (And.intro hone hn))
  have HC := hid hcell
  have H := hid h
  have hjl : T.length + (join one ys).length + 2 ≤ 100000000 := by rw [henc] at hlim; simp at hlim; omega
  rw [hn] at hlen ⊢
  have hn9 : (n : Int) ≤ 10000000 := by omega
  clear h hcell hcells henc hone hn hlim
  go_enter Tryf.func27, Tryf.ntmps27
  go_wp2_with fail
  go_loopg [12] n (fun gk s12 wx => ∃ i, s12 = .int .i64 (i : Nat) ∧ i ≤ n ∧ gk = n - i ∧ VSt w0 d q r b (T ++ join one (ys.take i)) wx)
  case atStart => exact ⟨0, rfl, Nat.zero_le _, rfl, by simpa [join] using H.out⟩
  case round =>
    obtain ⟨i, rfl, hi, hgk, hst⟩ := hrel
    have H1 := hid hst
    have HG := hid hgk
    clear hst hgk H
    have hji := join_le one ys i
    by_cases hlt : i < n
    · obtain ⟨y, hy⟩ : ∃ y, ys[i]? = some y := ⟨_, List.getElem?_eq_getElem (by have := HE.out.2.2; omega)⟩
      have hc : wr.cell? ⟨rb, ro + i, none⟩ = some (strV y) := by
        have h9 := HC.out i y hy
        exact (World.cell?_of_block (a := ⟨rb, ro + i, none⟩) (H1.out.bel.block rb (World.block_lt_of_cell? w0 _ h9))).trans h9
      have hyl : y.length ≤ 10000000 := hys y (List.mem_of_getElem? hy)
      have htk : ys.take (i + 1) = ys.take i ++ [y] := by
        obtain ⟨h1, h2⟩ := List.getElem?_eq_some_iff.1 hy
        rw [List.take_succ_eq_append_getElem h1, h2]
      have hsn : join one (ys.take (i + 1)) = join one (ys.take i) ++ (if i = 0 then [] else [44]) ++ encF one y := by
        rw [htk, join_snoc]
        have : (ys.take i).length = i := by rw [List.length_take]; have := HE.out.2.2; omega
        rw [this]
      have hji2 := join_le one ys (i + 1)
      have HY := hid (And.intro hsn hy)
      have hs3 : (join one (ys.take i)).length + (if i = 0 then ([] : List UInt8) else [44]).length + (encF one y).length = (join one (ys.take (i + 1))).length := by rw [hsn, List.length_append, List.length_append]
      clear hsn htk hy
      have hlt9 : (i : Int) < (n : Int) := by omega
      have dp : wr.cell? ⟨d, 0, none⟩ = some (.pointer (some ⟨q, 0, none⟩)) := H1.out.ptr
      obtain ⟨P, hP⟩ : ∃ P, T ++ join one (ys.take i) ++ (if i = 0 then ([] : List UInt8) else [44]) = P := ⟨_, rfl⟩
      have hPl : P.length + (encF one y).length ≤ 100000000 := by rw [← hP, List.length_append, List.length_append]; omega
      have HP := hid hP
      go_upto_if 18 with fail
      go_cut [] (fun wx => VSt w0 d q r b P wx)
      case first =>
        by_cases hi0 : i = 0
        · subst hi0
          go_wp2_with fail
          go_meet
          case rel => rw [← hP]; simpa using H1.out
        · have hi1 : (0 : Int) < (i : Int) := by omega
          go_wp2_with fail
          refine (vbyte_c w0 d q r b _ 44 44 rfl wr H1.out (by rw [List.length_append]; omega)).mono ?_
          rintro e w1 ⟨rfl, h1⟩
          rw [if_neg hi0] at hP
          rw [hP] at h1
          have H2 := hid h1
          clear h1
          go_wp2_with fail
          go_meet
          case rel => exact H2.out
      case rest =>
        have H2 := hid hcut
        clear hcut H1 dp hP hs3 hc
        go_upto_region 6 with fail
        go_cut [7] (fun s7 wx => s7 = .bool (quo one y) ∧ VSt w0 d q r b P wx)
        case first =>
          have hone : one = decide (n = 1) := by rw [← HE.out.2.1, HE.out.2.2]
          go_wp2_with fail
          refine (cany_c y wc (by omega)).mono ?_
          rintro e w1 ⟨rfl, hb1⟩
          have H3 := hid (H2.out.below hb1)
          clear hb1 H2
          have hq : quo one y = (y.any (fun c => c == 44 || c == 34 || c == 13 || c == 10) || (one && y.isEmpty)) := rfl
          obtain ⟨cb, hcb⟩ : ∃ cb, y.any (fun c => c == 44 || c == 34 || c == 13 || c == 10) = cb := ⟨_, rfl⟩
          rw [hcb] at hq ⊢
          have HQ := hid hq
          clear hq hcb
          cases cb with
          | true =>
            go_wp2_with fail
            go_meet
            case rel => exact ⟨by rw [HQ.out]; rfl, H3.out⟩
          | false =>
            by_cases hn1' : n = 1
            · subst hn1'
              go_wp2_with fail
              go_meet
              case rel => exact ⟨by rw [HQ.out, hone]; simp, H3.out⟩
            · have hnb : ((n : Int) == 1) = false := beq_eq_false_iff_ne.2 (by omega)
              go_wp2_with fail
              go_meet
              case rel => exact ⟨by rw [HQ.out, hone, decide_eq_false hn1']; rfl, H3.out⟩
        case rest =>
          obtain ⟨rfl, hst3⟩ := hcut
          have H3 := hid hst3
          clear hst3 H2
          have dp := H3.out.ptr
          have hT : T ++ join one (ys.take (i + 1)) = P ++ encF one y := by rw [HY.out.1, ← List.append_assoc, ← List.append_assoc, HP.out]
          have HT := hid hT
          clear hT
          obtain ⟨qb, hqb⟩ : ∃ qb, quo one y = qb := ⟨_, rfl⟩
          rw [hqb]
          have HQ := hid hqb
          clear hqb
          cases qb with
          | false =>
            have he : encF one y = y := by unfold encF; rw [HQ.out]; rfl
            rw [he] at hPl HT
            have HT2 := HT
            clear he
            go_wp2_with fail
            refine (vstr_c w0 d q r b P y _ H3.out hPl).mono ?_
            rintro e w4 ⟨rfl, h4⟩
            have H4 := hid h4
            clear h4 H3 dp
            go_wp2_with fail
            go_roundg (n - (i + 1))
            case measure => rw [HG.out]; omega
            case rel => exact ⟨i + 1, rfl, hlt, rfl, by rw [HT2.out]; exact H4.out⟩
          | true =>
            have he : encF one y = 34 :: (dbl y ++ [34]) := by unfold encF; rw [HQ.out]; rfl
            rw [he] at hPl HT
            have HT2 := HT
            clear he
            have hdl : (dbl y).length ≤ 20000000 := by have := dbl_length y; omega
            simp only [List.length_cons, List.length_append, List.length_nil] at hPl
            go_wp2_with fail
            refine (vbyte_c w0 d q r b P 34 34 rfl _ H3.out (by omega)).mono ?_
            rintro e w4 ⟨rfl, h4⟩
            have H4 := hid h4
            clear h4 H3 dp
            have dp4 := H4.out.ptr
            have H4d := hid (H4.out.below (w' := w4.drew) ⟨rfl, rfl, rfl, Nat.le_refl _, fun _ _ => rfl⟩)
            go_upto_region 10 with fail
            go_cut [] (fun wx => VSt w0 d q r b (P ++ [34] ++ dbl y) wx)
            case first =>
              go_region_with (first
                | (go_at_call 39
                   refine (repl_c y m _ (by omega) ?_).mono ?_
                   exact (World.cell?_of_block (a := ⟨5, 0, none⟩) (H4d.out.bel.block 5 (World.block_lt_of_cell? w0 _ hm))).trans hm
                   rintro e w5 ⟨rfl, hb5⟩
                   have H5 := hid (H4d.out.below hb5)
                   have dp5 := H5.out.ptr
                   clear hb5)
                | (go_at_call 38
                   refine (vstr_c w0 d q r b (P ++ [34]) (dbl y) _ ?_ (by simp only [List.length_append, List.length_cons, List.length_nil]; omega)).mono ?_
                   exact H5.out
                   rintro e w6 ⟨rfl, h6⟩
                   have H6 := hid h6
                   clear h6))
              all_goals
                go_wp2
                go_meet
                case rel => exact H6.out
            case rest =>
              have H7 := hid hcut
              clear hcut H4 H4d dp4
              have dp7 := H7.out.ptr
              go_wp2_with fail
              refine (vbyte_c w0 d q r b _ 34 34 rfl _ H7.out (by simp only [List.length_append, List.length_cons, List.length_nil]; omega)).mono ?_
              rintro e w8 ⟨rfl, h8⟩
              have H8 := hid h8
              clear h8 H7 dp7
              go_wp2_with fail
              go_roundg (n - (i + 1))
              case measure => rw [HG.out]; omega
              case rel => exact ⟨i + 1, rfl, hlt, rfl, by rw [HT2.out]; simpa using H8.out⟩
    · obtain rfl : i = n := by omega
      have hall : ys.take i = ys := List.take_of_length_le (by have := HE.out.2.2; omega)
      rw [hall] at H1 hji
      have dp := H1.out.ptr
      have hTl : (T ++ join one ys).length + 2 ≤ 100000000 := by rw [List.length_append]; omega
      go_wp2_with fail
      refine (vstr_c w0 d q r b _ [13, 10] wr H1.out hTl).mono ?_
      rintro e w4 ⟨rfl, h4⟩
      have H4 := hid h4
      clear h4 H1 dp
      go_wp2_with fail
      go_ret
      refine ⟨rfl, ?_⟩
      rw [HE.out.1, ← List.append_assoc]
      exact H4.out
end Go.Proofs.Qxb6613956aFmt
