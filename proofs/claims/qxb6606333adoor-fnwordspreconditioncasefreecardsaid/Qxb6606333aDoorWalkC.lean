/-
  THE WALKS of internal/sdp.isPlaceholder (18) and internal/sdp.fmtpWords (20): that they return; what they write lies in new memory.
-/
import Derived.Test.Qxb6606333aDoorLib
import Derived.Test.Qxb6606333aDoorIxAny
import Derived.Test.Qxb6606333aDoorSteps
import Derived.Deep.DeepCutAuto
namespace Go.Proofs.Qxb6606333aDoor
open Go.RowKit
set_option linter.unusedSimpArgs false

theorem asc_two (a b : UInt8) (ha : a.toNat < 128) (hb : b.toNat < 128) : Asc ⟨#[a, b]⟩ := fun j x hx => by
  match j, hx with
  | 0, hx => simp at hx; rw [← hx]; exact ha
  | 1, hx => simp at hx; rw [← hx]; exact hb
  | _ + 2, hx => simp at hx

/-- It returns some bool; nothing that was there has turned. -/
def SomeBool (w : World) (e : Ending) (w' : World) : Prop := ∃ b : Bool, e = .returned (.bool b) ∧ Below w.heap.size w w'

set_option maxHeartbeats 1000000 in
set_option maxRecDepth 100000 in
theorem placeholder_c (s : ByteArray) (w : World) (hs : s.size ≤ 1000000000) : Calls Tryd.prog 18 #[.string s] w (SomeBool w) := by
  go_enter Tryd.func18, Tryd.ntmps18
  go_wp2_with (first
    | (go_at_call 35; refine (ia_c _ _ _ (by rw [ByteArray.size_extract]; omega) (by decide) (by decide) (asc_two _ _ (by decide) (by decide))).mono ?_; rintro e w' ⟨rfl, hb⟩)
    | go_in)
  all_goals
    go_ret
    exact ⟨_, rfl, by first | assumption | exact Below.refl _ _⟩

/-! ### fmtpWords -/
theorem ixlt (cs : List UInt8) : ∀ l : List UInt8, Lib.indexAny l cs < l.length ∨ Lib.indexAny l cs = -1
  | [] => Or.inr rfl
  | b :: l => by
    have ih := ixlt cs l
    have hg := Lib.indexAny_ge cs l
    unfold Lib.indexAny
    split
    · left; simp only [List.length_cons]; omega
    · split
      · right; rfl
      · rename_i h
        left
        have : Lib.indexAny l cs ≠ -1 := fun e => h (beq_iff_eq.2 e)
        simp only [List.length_cons]
        omega
abbrev strW (l : List UInt8) : Value := .string ⟨l.toArray⟩
/-- The loop's world: the words gathered so far, the parameters' row apart. -/
def FInv (w wx : World) (ge : Nat) (es : List (List UInt8)) (v : Value) (ys : List (List UInt8)) : Prop :=
  wx.ownsRow w.heap.size 9 1 v ys.length (ys.map strW) ∧ (∀ b, v.ownBlock = some b → b ≠ ge) ∧ ge < wx.heap.size ∧ (∀ (j : Nat) x, es[j]? = some x → wx.cell? ⟨ge, j, none⟩ = some (strW x)) ∧ Below w.heap.size w wx
theorem grown_bel {w w' : World} (h : Below w.heap.size w w') (row : Option Nat) : w.grownBy w' row := ⟨h.os, h.tape, h.output, h.size, fun k hk _ => h.block k hk⟩
theorem FInv.below {w wx wy : World} {ge : Nat} {es ys : List (List UInt8)} {v : Value} (h : FInv w wx ge es v ys) (hb : Below wx.heap.size wx wy) : FInv w wy ge es v ys :=
  ⟨h.1.kept (grown_bel hb none) (by cases h' : v.ownBlock with | none => exact Or.inl rfl | some k => exact Or.inr (by simp)), h.2.1, Nat.lt_of_lt_of_le h.2.2.1 hb.size, fun j x hx => (hb.cell (p := ⟨ge, j, none⟩) h.2.2.1).trans (h.2.2.2.1 j x hx), h.2.2.2.2.trans (hb.mono h.2.2.2.2.size)⟩
theorem FInv.drewN {w wx : World} {ge : Nat} {es ys : List (List UInt8)} {v : Value} (h : FInv w wx ge es v ys) (n : Nat) : FInv w (wx.drewN n) ge es v ys := h.below ⟨rfl, rfl, rfl, Nat.le_refl _, fun _ _ => rfl⟩
theorem FInv.alloc {w wx : World} {ge : Nat} {es ys : List (List UInt8)} {v : Value} (h : FInv w wx ge es v ys) (o : Obj) : FInv w (wx.alloc o) ge es v ys := h.below ((Below.refl _ _).alloc (Nat.le_refl _) _)
theorem FInv.append {w wx wy : World} {ge : Nat} {es ys : List (List UInt8)} {v v' : Value} {x : ByteArray} (h : FInv w wx ge es v ys) (ho : wy.ownsRow w.heap.size 9 1 v' (ys.length + 1) (ys.map strW ++ [.string x])) (hg : wx.grownBy wy v.ownBlock) (hk : ∀ k, v'.ownBlock = some k → v.ownBlock = some k ∨ wx.heap.size ≤ k) :
    FInv w wy ge es v' (ys ++ [x.data.toList]) := by
  refine ⟨?_, fun b hb => ?_, Nat.lt_of_lt_of_le h.2.2.1 hg.size, fun j y hy => hg.cell (h.2.2.2.1 j y hy) (fun e => h.2.1 ge e.symm rfl), h.2.2.2.2.grown hg h.2.2.2.2.size (fun k e => (h.1.lt k e).1)⟩
  · have e1 : (ys ++ [x.data.toList]).map strW = ys.map strW ++ [.string x] := by simp [strW]
    rw [e1, List.length_append]
    exact ho
  · rcases hk b hb with h1 | h1
    · exact h.2.1 b h1
    · have := h.2.2.1; omega
theorem FInv.tabs {w wx : World} {ge : Nat} {es ys : List (List UInt8)} {v : Value} (h : FInv w wx ge es v ys) (hT : Tabs w) : Tabs wx := tabs_below hT h.2.2.2.2

/-- What fmtpWords leaves. -/
def FmtpPost (n : Nat) (w : World) (e : Ending) (w' : World) : Prop :=
  ∃ g cap, ∃ ys : List (List UInt8), e = .returned (.slice (some ⟨g, 0, none⟩) ys.length cap) ∧ w.heap.size ≤ g ∧ ys.length ≤ n + 2 ∧
      w'.ownsRow w.heap.size 9 1 (.slice (some ⟨g, 0, none⟩) ys.length cap) ys.length (ys.map fun x => Value.string ⟨x.toArray⟩) ∧ Below w.heap.size w w'

theorem fmtp_end {n : Nat} {w wx : World} {ge : Nat} {es ys : List (List UInt8)} {v : Value} (h : FInv w wx ge es v ys) (h1 : 1 ≤ ys.length) (h2 : ys.length ≤ n + 2) : FmtpPost n w (.returned v) wx := by
  rcases h.1.2 with ⟨_, h0⟩ | ⟨g, cap, cur, rfl, hb, _⟩
  · omega
  · exact ⟨g, cap, ys, rfl, hb, h2, h.1, h.2.2.2.2⟩

set_option maxHeartbeats 4000000 in
set_option maxRecDepth 100000 in
theorem fmtp_c (s : ByteArray) (w : World) (hs : s.size ≤ 100000000) (hT : Tabs w) : Calls Tryd.prog 20 #[.string s] w (FmtpPost s.size w) := by
  have HT := hid hT
  clear hT
  obtain ⟨i0, hi, hz0, hz1, hz2⟩ := info_parts (show (Tryd.prog.info? 9).map (fun i => (i.zero, i.size, i.bytes)) = some (some (.string ByteArray.empty), 1, 16) by kernel_rfl)
  go_enter Tryd.func20, Tryd.ntmps20
  go_wp2_with fail
  refine (trim_c _ _ (by omega) HT.out).mono ?_
  rintro e w1 ⟨rfl, hb1⟩
  obtain ⟨tv, htv⟩ : ∃ tv : List UInt8, Lib.trimSpaceD s.data.toList = tv := ⟨_, rfl⟩
  have htl : tv.length ≤ s.size := by have := trim_len s.data.toList; rw [htv, ← Lib.size_eq] at this; exact this
  rw [htv]
  clear htv
  have HB1 := hid hb1
  clear hb1
  go_wp2_with fail
  refine (ia_c _ _ _ (by rw [Lib.size_eq]; simp only; omega) (by decide) (by decide) (asc_two _ _ (by decide) (by decide))).mono ?_
  rintro e w2 ⟨rfl, hb2⟩
  obtain ⟨ix, hix⟩ : ∃ ix : Int, Lib.indexAny (ByteArray.mk tv.toArray).data.toList (ByteArray.mk #[32, 9]).data.toList = ix := ⟨_, rfl⟩
  have hx1 : -1 ≤ ix := by rw [← hix]; exact Lib.indexAny_ge _ _
  have hx2 : ix < tv.length ∨ ix = -1 := by rw [← hix]; exact ixlt _ _
  rw [hix]
  clear hix
  have HB2 : Hid (Below w.heap.size w w2) := HB1.out.trans (hb2.mono HB1.out.size)
  clear hb2
  go_upto_if 18 with fail
  go_cut [3, 4] (fun s3 s4 wx => ∃ f p : ByteArray, s3 = .string f ∧ s4 = .string p ∧ p.size ≤ s.size ∧ Below w.heap.size w wx)
  case first =>
    by_cases h0 : 0 ≤ ix
    · have hx3 : ix ≤ ((ByteArray.mk tv.toArray).size : Int) := by rw [Lib.size_eq]; simp only; omega
      go_wp2
      go_quiet (fail)
      go_wp2
      go_meet
      case rel => exact ⟨_, _, rfl, rfl, by rw [ByteArray.size_extract, Lib.size_eq]; simp only; omega, HB2.out.trans ⟨rfl, rfl, rfl, Nat.le_refl _, fun _ _ => rfl⟩⟩
    · go_wp2
      go_meet
      case rel => exact ⟨_, _, rfl, rfl, Nat.zero_le _, HB2.out⟩
  case rest =>
    obtain ⟨f, p, rfl, rfl, hpl, hb3⟩ := hcut
    have HB3 := hid hb3
    clear hb3 HB2 HB1
    go_wp2_with fail
    refine (split_c _ _ _ (by omega) (by decide) (tabs_below HT.out (HB3.out.alloc HB3.out.size _))).mono ?_
    rintro e w4 ⟨es, he1, he2, he3, rfl, ho4, hb4⟩
    simp only [World.size_alloc] at ho4 hb4
    have hF : FInv w w4 (wc.heap.size + 1) es (.slice (some ⟨wc.heap.size, 0, none⟩) 1 1) [f.data.toList] := by
      refine ⟨?_, fun b hb => by have := (Option.some.inj hb).symm; simp only at this; omega, ?_, fun j x hx => ?_, ?_⟩
      · have e1 : [f.data.toList].map strW = [.string f] := by simp [strW]
        rw [e1]
        exact (World.ownsRow_lit (size := 1) wc #[.string f] 1 HB3.out.size (by decide) rfl).kept (grown_bel (by simpa using hb4) none) (Or.inr (by simp [Value.ownBlock]))
      · exact (ho4.lt _ rfl).2
      · have hj : j < es.length := (List.getElem?_eq_some_iff.1 hx).1
        rw [ho4.cellAt j (by omega), List.getElem?_map, hx]; rfl
      · exact (HB3.out.alloc HB3.out.size _).trans (hb4.mono (by have := HB3.out.size; omega))
    have HF := hid hF
    have HE3 := hid he3
    clear hF he3 ho4 hb4
    go_wp2_with fail
    go_loopg [6, 30] es.length (fun gk v6 v30 wx => ∃ (k : Nat) (ys : List (List UInt8)), k + gk = es.length ∧ v30 = .int .i64 k ∧ 1 ≤ ys.length ∧ ys.length ≤ k + 1 ∧ FInv w wx (wc.heap.size + 1) es v6 ys)
    case atStart => exact ⟨0, _, by omega, rfl, by simp, by simp, HF.out⟩
    case round =>
      obtain ⟨k, ys, hk, rfl, hy1, hy2, hf⟩ := hrel
      have HF := hid hf
      clear hf
      cases gk with
      | zero =>
        have hkn : ¬ ((k : Int) < (es.length : Int)) := by omega
        go_wp2
        go_ret
        exact fmtp_end HF.out hy1 (by omega)
      | succ gk =>
        have hkn : (k : Int) < (es.length : Int) := by omega
        obtain ⟨x, hx⟩ : ∃ x, es[k]? = some x := ⟨_, List.getElem?_eq_getElem (by omega)⟩
        have hxl : x.length ≤ s.size := by have := HE3.out x (List.mem_of_getElem? hx); omega
        have hcx := HF.out.2.2.2.1 k x hx
        have HX := hid hx
        clear hx
        go_wp2_with fail
        refine (cut_c _ _ _ (by rw [Lib.size_eq]; simp only; omega) (HF.out.tabs HT.out)).mono ?_
        rintro e w5 ⟨rfl, n5, rfl⟩
        have hcl := cut_len x (ByteArray.mk #[61]).data.toList
        obtain ⟨nm, hnm⟩ : ∃ nm : List UInt8, (Lib.cut x (ByteArray.mk #[61]).data.toList).1 = nm := ⟨_, rfl⟩
        obtain ⟨vl, hvl⟩ : ∃ vl : List UInt8, (Lib.cut x (ByteArray.mk #[61]).data.toList).2.1 = vl := ⟨_, rfl⟩
        obtain ⟨fb, hfb⟩ : ∃ fb : Bool, (Lib.cut x (ByteArray.mk #[61]).data.toList).2.2 = fb := ⟨_, rfl⟩
        simp only [hnm, hvl, hfb] at hcl ⊢
        obtain ⟨hcl1, hcl2⟩ := hcl
        have HF5 := hid (HF.out.drewN n5)
        clear hnm hvl hfb HX
        go_wp2_with fail
        refine (trim_c ⟨nm.toArray⟩ _ (by rw [Lib.size_eq]; simp only; omega) (HF5.out.tabs HT.out)).mono ?_
        rintro e w6 ⟨rfl, hb6⟩
        obtain ⟨tn, htn⟩ : ∃ tn : List UInt8, Lib.trimSpaceD (ByteArray.mk nm.toArray).data.toList = tn := ⟨_, rfl⟩
        have htnl : tn.length ≤ nm.length := by have := trim_len nm; rw [← htn]; exact this
        rw [htn]
        clear htn
        have HF6 := hid (HF5.out.below hb6)
        clear hb6 HF5 hcx HF
        cases fb with
        | false =>
          cases hte : (tn == []) with
          | true =>
            go_wp2
            go_roundg gk
            case measure => omega
            case rel => exact ⟨k + 1, ys, by omega, by go_num, hy1, by omega, HF6.out⟩
          | false =>
            go_wp2_with (at_builtin; refine wpList_append_own2 _ rfl _ _ 23 rfl w.heap.size 9 i0 (.string ByteArray.empty) 1 16 Tryd.underlying23 hi hz0 hz1 hz2 rfl (by decide) u6 ys.length (ys.map strW) rfl (HF6.out.alloc _).1 ⟨w6.heap.size, 0, none⟩ 1 1 [.string _] rfl (by simp) (cell_one_new _ _ _) (fun u hu => by rw [List.mem_singleton.1 hu]; rfl) (by unfold maxLen; omega) (by omega) (HF6.out.alloc _).2.2.2.2.size ?_; intro v9 w9 hown9 hgrow9 hk9; have HF9 := hid ((HF6.out.alloc _).append hown9 hgrow9 hk9); clear hown9 hgrow9 hk9)
            go_roundg gk
            case measure => omega
            case rel => exact ⟨k + 1, _, by omega, by go_num, by simp, by simp; omega, HF9.out⟩
        | true =>
          go_wp2_with fail
          refine (lower_c ⟨tn.toArray⟩ _ (by rw [Lib.size_eq]; simp only; omega) (HF6.out.tabs HT.out)).mono ?_
          rintro e w7 ⟨rfl, hb7⟩
          obtain ⟨lo, hlo⟩ : ∃ lo : List UInt8, Lib.toLowerD (ByteArray.mk tn.toArray).data.toList = lo := ⟨_, rfl⟩
          have hlol : lo.length ≤ 4 * tn.length := by have := lower_len tn; rw [← hlo]; exact this
          rw [hlo]
          clear hlo
          have HF7 := hid (HF6.out.below hb7)
          clear hb7 HF6
          go_wp2_with fail
          refine (trim_c ⟨vl.toArray⟩ _ (by rw [Lib.size_eq]; simp only; omega) (HF7.out.tabs HT.out)).mono ?_
          rintro e w8 ⟨rfl, hb8⟩
          obtain ⟨tl, htl⟩ : ∃ tl : List UInt8, Lib.trimSpaceD (ByteArray.mk vl.toArray).data.toList = tl := ⟨_, rfl⟩
          have htll : tl.length ≤ vl.length := by have := trim_len vl; rw [← htl]; exact this
          rw [htl]
          clear htl
          have HF8 := hid (HF7.out.below hb8)
          clear hb8 HF7
          go_wp2_with (at_builtin; refine wpList_append_own2 _ rfl _ _ 23 rfl w.heap.size 9 i0 (.string ByteArray.empty) 1 16 Tryd.underlying23 hi hz0 hz1 hz2 rfl (by decide) u6 ys.length (ys.map strW) rfl (HF8.out.alloc _).1 ⟨w8.heap.size, 0, none⟩ 1 1 [.string _] rfl (by simp) (cell_one_new _ _ _) (fun u hu => by rw [List.mem_singleton.1 hu]; rfl) (by unfold maxLen; omega) (by omega) (HF8.out.alloc _).2.2.2.2.size ?_; intro v9 w9 hown9 hgrow9 hk9; have HF9 := hid ((HF8.out.alloc _).append hown9 hgrow9 hk9); clear hown9 hgrow9 hk9)
          go_roundg gk
          case measure => omega
          case rel => exact ⟨k + 1, _, by omega, by go_num, by simp, by simp; omega, HF9.out⟩

end Go.Proofs.Qxb6606333aDoor
