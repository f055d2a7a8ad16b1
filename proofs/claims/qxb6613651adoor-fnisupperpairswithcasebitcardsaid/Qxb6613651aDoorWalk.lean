/-
  THE WALKS: isUpper (22) by its door (17), notDigit (26), strings.ContainsFunc (25) at one ASCII byte, IsHostname (18) at one byte.
-/
import Derived.Test.Qxb6613651aDoorShelf
import Derived.WalkKit
import Derived.WalkMore
import Derived.WalkSpells
import Derived.WalkLawsBesides
import Derived.Below
import Derived.Deep.LoopGhost
import Derived.Deep.QuietTactic
import Derived.BigQuiet
import Derived.Lib.SlBytesRow
import Derived.Lib.ConvBytes
import Derived.Lib.CountLaws
import Derived.Lib.OthersKept
namespace Go.Proofs.Qxb6613651aDoor
open Go.RowKit Go.Shelf
set_option linter.unusedSimpArgs false

theorem hid {p : Prop} (h : p) : Hid p := h

set_option maxHeartbeats 1000000 in
theorem upper_c (k : Int) (w : World) : Calls Tryd.prog 17 #[.int .u8 k] w fun e w' => e = .returned (.bool (decide (65 ≤ k ∧ k ≤ 90))) ∧ w' = w := by
  by_cases h1 : (65 : Int) ≤ k
  · by_cases h2 : k ≤ 90
    · rw [decide_eq_true ⟨h1, h2⟩]
      go_enter Tryd.func17, Tryd.ntmps17
      go_wp2_with go_in
      go_ret
      exact ⟨rfl, rfl⟩
    · rw [decide_eq_false (fun h => h2 h.2)]
      go_enter Tryd.func17, Tryd.ntmps17
      go_wp2_with go_in
      go_ret
      exact ⟨rfl, rfl⟩
  · rw [decide_eq_false (fun h => h1 h.1)]
    go_enter Tryd.func17, Tryd.ntmps17
    go_wp2_with go_in
    go_ret
    exact ⟨rfl, rfl⟩

set_option maxHeartbeats 1000000 in
theorem digit_c (k : Int) (w : World) : Calls Tryd.prog 26 #[.int .i32 k] w fun e w' => e = .returned (.bool (decide (k < 48 ∨ 57 < k))) ∧ w' = w := by
  by_cases h1 : k < 48
  · rw [decide_eq_true (Or.inl h1)]
    go_enter Tryd.func26, Tryd.ntmps26
    go_wp2
    go_ret
    exact ⟨rfl, rfl⟩
  · by_cases h2 : 57 < k
    · rw [decide_eq_true (Or.inr h2)]
      go_enter Tryd.func26, Tryd.ntmps26
      go_wp2
      go_ret
      exact ⟨rfl, rfl⟩
    · rw [decide_eq_false (fun h => by rcases h with h | h; exact h1 h; exact h2 h)]
      go_enter Tryd.func26, Tryd.ntmps26
      go_wp2
      go_ret
      exact ⟨rfl, rfl⟩

theorem suffix_dot : Lib.trimSuffix [46] [46] = [] := by decide
theorem suffix_other (c : UInt8) (h : c ≠ 46) : Lib.trimSuffix [c] [46] = [c] := by
  unfold Lib.trimSuffix Lib.hasSuffix
  rw [if_neg]
  intro e
  have := List.isSuffixOf_iff_suffix.1 e
  have h2 : [46] = [c] := List.IsSuffix.eq_of_length this (by simp)
  exact h (List.cons.inj h2).1.symm
theorem index_other (c : UInt8) (h : c ≠ 46) : Lib.indexB ⟨#[c]⟩ ⟨#[46]⟩ = -1 := by
  have h1 : (46 == c) = false := beq_eq_false_iff_ne.2 (fun e => h e.symm)
  show Lib.index [c] [46] = -1
  simp [Lib.index, List.isPrefixOf, h1]
theorem split_c (c : UInt8) (h : c ≠ 46) (m : Int) (w : World) (hm : w.cell? ⟨1, 0, none⟩ = some (.int .i64 m)) :
    Calls Tryd.prog 24 #[.string ⟨#[c]⟩, .string ⟨#[46]⟩] w fun e w' => e = .returned (.slice (some ⟨w.heap.size, 0, none⟩) 1 1) ∧ w' = w.alloc (.cells #[.string ⟨#[c]⟩] 9) := by
  refine (Any.strings_Split Tryd.lays146 (by kernel_rfl) ⟨#[c]⟩ ⟨#[46]⟩ m w (by show 1 < _; omega) hm (by decide)).mono fun e w' ⟨h1, h2⟩ => ?_
  have hc : Lib.countB ⟨#[c]⟩ ⟨#[46]⟩ = 0 := Lib.countB_miss _ _ (index_other c h)
  rw [hc] at h1 h2
  exact ⟨h1, h2⟩
theorem suf_c (c : UInt8) (w : World) : Calls Tryd.prog 23 #[.string ⟨#[c]⟩, .string ⟨#[46]⟩] w fun e w' => e = .returned (.string ⟨(Lib.trimSuffix [c] [46]).toArray⟩) ∧ w' = w :=
  Any.strings_TrimSuffix Tryd.lays102 ⟨#[c]⟩ ⟨#[46]⟩ w (by show 1 ≤ _; omega)


/-! ### strings.ContainsFunc(s, notDigit) at one ASCII byte -/
set_option maxHeartbeats 1000000 in
set_option maxRecDepth 100000 in
theorem func_c (S : ByteArray) (x : UInt8) (w : World) (hs : S.size = 1) (hx : ∀ h : 0 < S.size, S[0]'h = x) (h128 : x.toNat < 128) :
    Calls Tryd.prog 41 #[.string S, .func (.func 26) #[] #[], .bool true] w fun e w' => e = .returned (.int .i64 (if ((x.toNat : Int) < 48 ∨ 57 < (x.toNat : Int)) then 0 else -1)) ∧ Below w.heap.size w w' := by
  have h0 : 0 < S.size := by omega
  have hx0 := hx h0
  clear hx
  obtain ⟨b, hb⟩ : ∃ b, decide ((x.toNat : Int) < 48 ∨ 57 < (x.toNat : Int)) = b := ⟨_, rfl⟩
  have hif : (if ((x.toNat : Int) < 48 ∨ 57 < (x.toNat : Int)) then (0 : Int) else -1) = if b = true then 0 else -1 := by rw [← hb]; simp
  rw [hif]
  clear hif
  have hnx := fun ty => run_next_ascii (P := Tryd.prog) w S 0 ty h0 (by rw [hx0]; exact h128)
  rw [hx0] at hnx
  have hne := run_next_end (P := Tryd.prog) w S S.size
  rw [hs] at hne
  have cD : ∀ w', Calls Tryd.prog 26 #[.int .i32 (x.toNat : Int)] w' fun e w'' => e = .returned (.bool b) ∧ w'' = w' := fun w' => by rw [← hb]; exact digit_c _ w'
  clear hb
  go_enter Tryd.func41, Tryd.ntmps41
  go_wp2
  refine wp_loop_rounds 2 ?_
  rw [rounds_succ]
  go_wp2_with fail
  refine (cD _).mono ?_
  rintro e w1 ⟨rfl, hw⟩
  rw [hw]
  cases b with
  | true =>
    go_wp2_with fail
    go_ret
    exact ⟨rfl, (Below.refl _ _).alloc (Nat.le_refl _) _⟩
  | false =>
    go_wp2_with fail
    rw [rounds_succ]
    go_wp2_with fail
    go_ret
    exact ⟨rfl, (Below.refl _ _).alloc (Nat.le_refl _) _⟩

set_option maxHeartbeats 1000000 in
set_option maxRecDepth 100000 in
theorem contains_c (S : ByteArray) (x : UInt8) (w : World) (hs : S.size = 1) (hx : ∀ h : 0 < S.size, S[0]'h = x) (h128 : x.toNat < 128) :
    Calls Tryd.prog 25 #[.string S, .func (.func 26) #[] #[]] w fun e w' => e = .returned (.bool (decide ((x.toNat : Int) < 48 ∨ 57 < (x.toNat : Int)))) ∧ Below w.heap.size w w' := by
  have cF := func_c S x w hs hx h128
  clear hx
  by_cases hd : (x.toNat : Int) < 48 ∨ 57 < (x.toNat : Int)
  · rw [if_pos hd] at cF
    rw [decide_eq_true hd]
    clear hd
    go_enter Tryd.func25, Tryd.ntmps25
    go_wp2_with (first | (go_at_call 41; refine cF.mono ?_; rintro e w1 ⟨rfl, hb⟩) | go_in)
    go_ret
    exact ⟨rfl, hb⟩
  · rw [if_neg hd] at cF
    rw [decide_eq_false hd]
    clear hd
    go_enter Tryd.func25, Tryd.ntmps25
    go_wp2_with (first | (go_at_call 41; refine cF.mono ?_; rintro e w1 ⟨rfl, hb⟩) | go_in)
    go_ret
    exact ⟨rfl, hb⟩

/-! ### IsHostname at one byte -/
def letter (c : UInt8) : Bool := decide ((97 ≤ (c.toNat : Int) ∧ (c.toNat : Int) ≤ 122) ∨ (65 ≤ (c.toNat : Int) ∧ (c.toNat : Int) ≤ 90))

set_option maxHeartbeats 1000000 in
set_option maxRecDepth 100000 in
theorem host_dot (w : World) : Calls Tryd.prog 18 #[.string ⟨#[46]⟩] w fun e w' => e = .returned (.bool false) ∧ Below w.heap.size w w' := by
  have cS := suf_c 46 w
  rw [suffix_dot] at cS
  go_enter Tryd.func18, Tryd.ntmps18
  go_wp2_with fail
  refine cS.mono ?_
  rintro e w1 ⟨rfl, hw⟩
  rw [hw]
  go_wp2_with fail
  go_ret
  exact ⟨rfl, Below.refl _ _⟩

set_option maxHeartbeats 2000000 in
set_option maxRecDepth 100000 in
theorem host_other (c : UInt8) (h : c ≠ 46) (m : Int) (w : World) (hm : w.cell? ⟨1, 0, none⟩ = some (.int .i64 m)) : Calls Tryd.prog 18 #[.string ⟨#[c]⟩] w fun e w' => e = .returned (.bool (letter c)) ∧ Below w.heap.size w w' := by
  obtain ⟨S, hS⟩ : ∃ S : ByteArray, S = ⟨#[c]⟩ := ⟨_, rfl⟩
  have cS : Calls Tryd.prog 23 #[.string S, .string ⟨#[46]⟩] w fun e w' => e = .returned (.string S) ∧ w' = w := by
    have cS := suf_c c w
    rw [suffix_other c h] at cS
    rw [hS]; exact cS
  have cP : Calls Tryd.prog 24 #[.string S, .string ⟨#[46]⟩] w fun e w' => e = .returned (.slice (some ⟨w.heap.size, 0, none⟩) 1 1) ∧ w' = w.alloc (.cells #[.string S] 9) := by
    rw [hS]; exact split_c c h m w hm
  clear h hm
  have hs : S.size = 1 := by rw [hS]; rfl
  have h0 : 0 < S.size := by omega
  have hx : S[0]'h0 = c := by subst hS; rfl
  have hSe : S.toList.isEmpty = false := by rw [hS, Lib.toList_data]; rfl
  have hc0 : (S.data.toList.getD 0 0) = c := by rw [hS]; rfl
  rw [← hS]
  have HCF : Hid (c.toNat < 128 → ∀ w', Calls Tryd.prog 25 #[.string S, .func (.func 26) #[] #[]] w' fun e w'' => e = .returned (.bool (decide ((c.toNat : Int) < 48 ∨ 57 < (c.toNat : Int)))) ∧ Below w'.heap.size w' w'') := fun h w' => contains_c S c w' hs (fun _ => hx) h
  clear hS
  go_enter Tryd.func18, Tryd.ntmps18
  go_wp2_with fail
  refine cS.mono ?_
  rintro e w0 ⟨rfl, hw⟩
  rw [hw]
  clear hw cS
  go_wp2_with fail
  refine cP.mono ?_
  rintro e w1 ⟨rfl, hw1⟩
  clear cP
  have hl1 : w1.cell? ⟨w.heap.size, 0, none⟩ = some (.string S) := by rw [hw1]; simp
  have hz1 : w1.heap.size = w.heap.size + 1 := by rw [hw1]; simp
  have HB1 := hid (show Below w.heap.size w w1 by rw [hw1]; exact (Below.refl _ _).alloc (Nat.le_refl _) _)
  clear hw1
  have hcv := Lib.run_convert_string_bytes (P := Tryd.prog) w1 9 37 5 S Tryd.underlying9 Tryd.underlying37 Tryd.underlying5
  have hl2 := Lib.bytesWorld_cell w1 5 S 0 h0
  rw [hc0] at hl2
  have hl3 : (Lib.bytesWorld w1 5 S).cell? ⟨w.heap.size, 0, none⟩ = some (.string S) := by
    rw [← hl1]
    unfold World.cell?
    rw [Lib.bytesWorld_at_old w1 5 S w.heap.size (by omega)]
  have HB2 : Hid (Below w.heap.size w (Lib.bytesWorld w1 5 S)) := HB1.out.trans ⟨rfl, rfl, rfl, by rw [Lib.bytesWorld_size]; omega, fun k hk => Lib.bytesWorld_at_old w1 5 S k (by omega)⟩
  obtain ⟨w2, hw2⟩ : ∃ w2, Lib.bytesWorld w1 5 S = w2 := ⟨_, rfl⟩
  rw [hw2] at hl2 hl3 HB2 hcv
  obtain ⟨G, hG⟩ : ∃ G, grownCap w1 S.size 0 5 = G := ⟨_, rfl⟩
  rw [hG] at hcv
  rw [hs] at hcv
  clear hw2 hG hc0
  rw [hz1] at hl2 hcv
  clear hz1
  go_wp2_with fail
  refine wp_loop_rounds 2 ?_
  rw [rounds_succ]
  have e45 : ((c.toNat : Int) == 45) = decide ((c.toNat : Int) = 45) := by
    cases h : ((c.toNat : Int) == 45) with
    | true => rw [beq_iff_eq] at h; exact (decide_eq_true h).symm
    | false => rw [beq_eq_false_iff_ne] at h; exact (decide_eq_false h).symm
  have hc8 : (c.toNat : Int) < 256 := by have := c.toNat_lt; omega
  rcases (show (c.toNat : Int) = 45 ∨ (c.toNat : Int) ≠ 45 by omega) with h45 | h45
  · have HLT := hid (show letter c = false by unfold letter; rw [decide_eq_false]; omega)
    rw [decide_eq_true h45] at e45
    clear h45
    go_wp2_with fail
    go_ret
    exact ⟨by rw [HLT.out]; rfl, HB1.out⟩
  rw [decide_eq_false h45] at e45
  rcases (show (97 ≤ (c.toNat : Int) ∧ (c.toNat : Int) ≤ 122) ∨ (65 ≤ (c.toNat : Int) ∧ (c.toNat : Int) ≤ 90) ∨ (48 ≤ (c.toNat : Int) ∧ (c.toNat : Int) ≤ 57) ∨ ((c.toNat : Int) < 48) ∨ (57 < (c.toNat : Int) ∧ (c.toNat : Int) < 65) ∨ (90 < (c.toNat : Int) ∧ (c.toNat : Int) < 97) ∨ (122 < (c.toNat : Int)) by omega) with ⟨k1, k2⟩ | ⟨k1, k2⟩ | ⟨k1, k2⟩ | k1 | ⟨k1, k2⟩ | ⟨k1, k2⟩ | k1
  · have HLT := hid (show letter c = true by unfold letter; rw [decide_eq_true]; omega)
    have HD := hid (show decide ((c.toNat : Int) < 48 ∨ 57 < (c.toNat : Int)) = true by rw [decide_eq_true]; omega)
    go_wp2_with fail
    refine wp_loop_rounds 2 ?_
    rw [rounds_succ]
    go_wp2_with fail
    rw [rounds_succ]
    go_wp2_with fail
    rw [rounds_succ]
    go_wp2_with fail
    refine (HCF.out (by omega) _).mono ?_
    rintro e w3 ⟨rfl, hb3⟩
    have HB3 := hid (HB2.out.trans (hb3.mono HB2.out.size))
    clear hb3
    rw [HD.out]
    go_wp2_with fail
    go_ret
    exact ⟨by rw [HLT.out]; rfl, HB3.out⟩
  · have HLT := hid (show letter c = true by unfold letter; rw [decide_eq_true]; omega)
    have HD := hid (show decide ((c.toNat : Int) < 48 ∨ 57 < (c.toNat : Int)) = true by rw [decide_eq_true]; omega)
    go_wp2_with fail
    refine wp_loop_rounds 2 ?_
    rw [rounds_succ]
    go_wp2_with fail
    rw [rounds_succ]
    go_wp2_with fail
    rw [rounds_succ]
    go_wp2_with fail
    refine (HCF.out (by omega) _).mono ?_
    rintro e w3 ⟨rfl, hb3⟩
    have HB3 := hid (HB2.out.trans (hb3.mono HB2.out.size))
    clear hb3
    rw [HD.out]
    go_wp2_with fail
    go_ret
    exact ⟨by rw [HLT.out]; rfl, HB3.out⟩
  · have HLT := hid (show letter c = false by unfold letter; rw [decide_eq_false]; omega)
    have HD := hid (show decide ((c.toNat : Int) < 48 ∨ 57 < (c.toNat : Int)) = false by rw [decide_eq_false]; omega)
    go_wp2_with fail
    refine wp_loop_rounds 2 ?_
    rw [rounds_succ]
    go_wp2_with fail
    rw [rounds_succ]
    go_wp2_with fail
    rw [rounds_succ]
    go_wp2_with fail
    refine (HCF.out (by omega) _).mono ?_
    rintro e w3 ⟨rfl, hb3⟩
    have HB3 := hid (HB2.out.trans (hb3.mono HB2.out.size))
    clear hb3
    rw [HD.out]
    go_wp2_with fail
    go_ret
    exact ⟨by rw [HLT.out]; rfl, HB3.out⟩
  all_goals
    have HLT := hid (show letter c = false by unfold letter; rw [decide_eq_false]; omega)
    clear h45
    go_wp2_with fail
    refine wp_loop_rounds 2 ?_
    rw [rounds_succ]
    go_wp2_with fail
    all_goals first
      | (go_ret; exact ⟨by rw [HLT.out]; rfl, HB2.out⟩)
      | (exfalso; rename_i g1 g2 g3 g4; (try simp at g1); (try simp at g2); (try simp at g3); (try simp at g4); omega)

theorem host_c (c : UInt8) (m : Int) (w : World) (hm : w.cell? ⟨1, 0, none⟩ = some (.int .i64 m)) : Calls Tryd.prog 18 #[.string ⟨#[c]⟩] w fun e w' => e = .returned (.bool (letter c)) ∧ Below w.heap.size w w' := by
  by_cases h : c = 46
  · subst h; exact host_dot w
  · exact host_other c h m w hm
end Go.Proofs.Qxb6613651aDoor
