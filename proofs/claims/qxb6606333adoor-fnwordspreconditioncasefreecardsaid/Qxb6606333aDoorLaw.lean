/-
  THE WALK of the law FnWordsPreconditionCaseFree (4): out of its callees' contracts and the plain law.
-/
import Derived.Test.Qxb6606333aDoorWalkB
namespace Go.Proofs.Qxb6606333aDoor
open Go.RowKit

set_option maxHeartbeats 1000000 in
theorem zzwords_c (s m : ByteArray) (w : World) (hs : s.size ≤ 1000000) (hT : Tabs w) : Calls Tryd.prog 7 #[.int .u8 97, .string s, .string m] w (WordsPost s.data.toList w) := by
  have c := words_c s m w hs hT
  go_enter Tryd.func7, Tryd.ntmps7
  go_wp2_with (go_at_call 12; refine c.mono ?_; rintro e w1 ⟨g, cap, ys, rfl, h⟩)
  go_ret
  exact ⟨g, cap, ys, rfl, h⟩

theorem cell0_of {v : List UInt8} {w1 : World} {B g cap : Nat} {ys : List (List UInt8)} (h0 : ys[0]? = some (nameW v)) (ho : w1.ownsRow B 9 1 (.slice (some ⟨g, 0, none⟩) ys.length cap) ys.length (ys.map strV)) : w1.cell? ⟨g, 0, none⟩ = some (strV (nameW v)) := by
  have hl : 0 < ys.length := (List.getElem?_eq_some_iff.1 h0).1
  rw [ho.cellAt 0 (by omega), List.getElem?_map, h0]; rfl

theorem strsAt_of {w : World} {B g cap : Nat} {ys : List (List UInt8)} (ho : w.ownsRow B 9 1 (.slice (some ⟨g, 0, none⟩) ys.length cap) ys.length (ys.map strV)) : StrsAt w g 0 (ys.map ba) := fun j y hy => by
  rw [List.getElem?_map] at hy
  obtain ⟨l, hl, rfl⟩ := Option.map_eq_some_iff.1 hy
  have hj : j < ys.length := (List.getElem?_eq_some_iff.1 hl).1
  rw [Nat.zero_add, ho.cellAt j (by omega), List.getElem?_map, hl]; rfl
theorem StrsAt.below {w w' : World} {g o : Nat} {ys : List ByteArray} (h : StrsAt w g o ys) (hc : ∀ a : Addr, a.block = g → w'.cell? a = w.cell? a) : StrsAt w' g o ys := fun j y hy => (hc ⟨g, o + j, none⟩ rfl).trans (h j y hy)

set_option maxHeartbeats 2000000 in
set_option maxRecDepth 100000 in
theorem law (s m : ByteArray) (w : World) (hs : s.size ≤ maxLen) (hm : m.size ≤ maxLen) (hT : Tabs w) :
    Calls Tryd.prog 4 #[.string s, .string m] w fun e w' => e = .returned (.bool true) ∧ Below w.heap.size w w' := by
  by_cases hfit : s.size + m.size ≤ 1048576
  · have cB := bytes_yes s m w hfit
    by_cases h1 : (524288 : Int) < (s.size : Int)
    · go_enter Tryd.func4, Tryd.ntmps4
      go_wp2_with (go_at_call 9; refine cB.mono ?_; rintro e w1 ⟨rfl, hw⟩; rw [hw])
      go_ret
      exact ⟨rfl, Below.refl _ _⟩
    · by_cases h2 : (524288 : Int) < (m.size : Int)
      · go_enter Tryd.func4, Tryd.ntmps4
        go_wp2_with (go_at_call 9; refine cB.mono ?_; rintro e w1 ⟨rfl, hw⟩; rw [hw])
        go_ret
        exact ⟨rfl, Below.refl _ _⟩
      · have cW := zzwords_c s m w (by omega) hT
        have HT := hid hT
        clear hT
        go_enter Tryd.func4, Tryd.ntmps4
        go_wp2_with (go_at_call 9; refine cB.mono ?_; rintro e w1 ⟨rfl, hw⟩; rw [hw])
        refine cW.mono ?_
        rintro e w1 ⟨g, cap, ys, rfl, h0, hp, hl, hg, ho, hb⟩
        have hc0 := cell0_of h0 ho
        obtain ⟨n, hn⟩ : ∃ n, nameW s.data.toList = n := ⟨_, rfl⟩
        rw [hn] at hc0 hp
        have hlen : (0 : Int) < (ys.length : Int) := by have := (List.getElem?_eq_some_iff.1 h0).1; omega
        have HP := hid hp
        have HO := hid ho
        have HB := hid hb
        have HN := hid hn
        clear hp ho hb hn h0 cB cW
        cases hpre : isPre n with
        | false =>
          simp only [isPre, sCurr, sDes, sConf, Bool.or_eq_false_iff] at hpre
          obtain ⟨⟨c1, c2⟩, c3⟩ := hpre
          go_wp2_with fail
          go_ret
          exact ⟨rfl, HB.out⟩
        | true =>
          have hys := HP.out hpre
          have HPR := hid hpre
          have c3 : ((n == [99, 117, 114, 114]) = true) ∨ ((n == [99, 117, 114, 114]) = false ∧ (n == [100, 101, 115]) = true) ∨ ((n == [99, 117, 114, 114]) = false ∧ (n == [100, 101, 115]) = false ∧ (n == [99, 111, 110, 102]) = true) := by
            simp only [isPre, sCurr, sDes, sConf] at hpre
            revert hpre
            cases (n == [99, 117, 114, 114]) <;> cases (n == [100, 101, 115]) <;> cases (n == [99, 111, 110, 102]) <;> simp
          clear hpre HP
          obtain ⟨P, hP⟩ : ∃ P, preW s.data.toList = P := ⟨_, rfl⟩
          rw [hP] at hys
          subst hys
          have cF := flip_case s w1 (by omega)
          have cZ : ∀ w2, Below w1.heap.size w1 w2 → Calls Tryd.prog 7 #[.int .u8 97, .string ⟨(flipL s.data.toList).toArray⟩, .string m] w2 fun e w3 => ∃ g2 cap2, e = .returned (.slice (some ⟨g2, 0, none⟩) ys.length cap2) ∧ StrsAt w3 g2 0 (ys.map ba) ∧ StrsAt w3 g 0 (ys.map ba) ∧ Below w.heap.size w w3 := fun w2 hb2 => by
            have hT2 : Tabs w2 := tabs_below (tabs_below HT.out HB.out) hb2
            refine (zzwords_c ⟨(flipL s.data.toList).toArray⟩ m w2 (by rw [Lib.size_eq]; simp only [flipL_length]; rw [← Lib.size_eq]; omega) hT2).mono fun e w3 ⟨g2, cap2, ys2, he, _, hp2, _, _, ho2, hb3⟩ => ?_
            have e1 : (ByteArray.mk (flipL s.data.toList).toArray).data.toList = flipL s.data.toList := by simp
            rw [e1, nameW_flip, HN.out, preW_flip, hP] at hp2
            have hy2 := hp2 HPR.out
            subst hy2
            refine ⟨g2, cap2, he, strsAt_of ho2, ?_, HB.out.trans ((hb2.mono HB.out.size).trans (hb3.mono (by have := HB.out.size; have := hb2.size; omega)))⟩
            have hgl := (HO.out.lt g rfl).2
            exact (strsAt_of HO.out).below (fun a ha => ((hb3.cell (p := a) (by have := hb2.size; omega)).trans (hb2.cell (p := a) (by omega)))) 
          have HCZ := hid cZ
          have HF := hid cF
          clear cZ cF hP
          rcases c3 with c3 | ⟨c3, c4⟩ | ⟨c3, c4, c5⟩
          all_goals
            go_wp2_with fail
            refine HF.out.mono ?_
            rintro e w2 ⟨rfl, hb2⟩
            go_wp2_with fail
            refine (HCZ.out w2 hb2).mono ?_
            rintro e w3 ⟨g2, cap2, rfl, hs2, hs1, hb3⟩
            go_wp2_with fail
            have cE := eq_words g 0 cap g2 0 cap2 (ys.map ba) w3 (by rw [List.length_map]; omega) hs1 hs2
            rw [List.length_map] at cE
            refine cE.mono ?_
            rintro e w4 ⟨rfl, k, rfl⟩
            go_wp2
            go_ret
            exact ⟨rfl, bel_drewN hb3 k⟩
  · have cB := bytes_no s m w hs hm hfit
    go_enter Tryd.func4, Tryd.ntmps4
    go_wp2_with (go_at_call 9; refine cB.mono ?_; rintro e w1 ⟨rfl, hw⟩; rw [hw])
    go_ret
    exact ⟨rfl, Below.refl _ _⟩

end Go.Proofs.Qxb6606333aDoor
