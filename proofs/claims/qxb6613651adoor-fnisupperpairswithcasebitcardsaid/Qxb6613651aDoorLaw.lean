/-
  THE WALK of the law FnIsUpperPairsWithCaseBit (6).
-/
import Derived.Test.Qxb6613651aDoorWalk
namespace Go.Proofs.Qxb6613651aDoor
open Go.RowKit Go.Shelf
set_option linter.unusedSimpArgs false

/-- The case bit: of every byte. -/
theorem bit_facts : ∀ n : Nat, n < 256 → (65 ≤ n ∧ n ≤ 90 → bits .xor .u8 (n : Int) 32 = (n : Int) + 32 ∧ bits .or .u8 (n : Int) 32 = (n : Int) + 32) ∧ (97 ≤ n ∧ n ≤ 122 → bits .xor .u8 (n : Int) 32 = (n : Int) - 32 ∧ bits .or .u8 (n : Int) 32 = (n : Int)) ∧
    (¬ (65 ≤ n ∧ n ≤ 90) ∧ ¬ (97 ≤ n ∧ n ≤ 122) → ¬ (65 ≤ bits .xor .u8 (n : Int) 32 ∧ bits .xor .u8 (n : Int) 32 ≤ 90) ∧ ¬ (97 ≤ bits .or .u8 (n : Int) 32 ∧ bits .or .u8 (n : Int) 32 ≤ 122)) := by decide +kernel

set_option maxHeartbeats 2000000 in
set_option maxRecDepth 100000 in
theorem law (c : UInt8) (m : Int) (w : World) (hm : w.cell? ⟨1, 0, none⟩ = some (.int .i64 m)) : Calls Tryd.prog 6 #[.int .u8 (c.toNat : Int)] w fun e w' => e = .returned (.bool true) ∧ Below w.heap.size w w' := by
  have hb := bit_facts c.toNat c.toNat_lt
  have hc8 : (c.toNat : Int) < 256 := by have := c.toNat_lt; omega
  obtain ⟨D, hD⟩ : ∃ D, bits .xor .u8 (c.toNat : Int) 32 = D := ⟨_, rfl⟩
  obtain ⟨L, hL⟩ : ∃ L, bits .or .u8 (c.toNat : Int) 32 = L := ⟨_, rfl⟩
  rw [hD, hL] at hb
  obtain ⟨hb1, hb2, hb3⟩ := hb
  -- the string of the one byte
  have hcv : (convert 37 9 (.slice (some ⟨w.heap.size, 0, none⟩) 1 1)).run Tryd.prog (w.alloc (.cells #[.int .u8 (c.toNat : Int)] 5)) = .ok (.string ⟨#[c]⟩) (w.alloc (.cells #[.int .u8 (c.toNat : Int)] 5)) := by
    have h := Lib.run_convert_whole (P := Tryd.prog) (w.alloc (.cells #[.int .u8 (c.toNat : Int)] 5)) 37 5 9 Tryd.underlying37 Tryd.underlying5 Tryd.underlying9 w.heap.size 0 ⟨#[c]⟩ (fun i hi => by
      have : i = 0 := by have h1 : (⟨#[c]⟩ : ByteArray).size = 1 := rfl; omega
      subst this
      simp
      rfl) 1
    exact h
  have hb0 : Below w.heap.size w (w.alloc (.cells #[.int .u8 (c.toNat : Int)] 5)) := (Below.refl _ _).alloc (Nat.le_refl _) _
  have cH := host_c c m (w.alloc (.cells #[.int .u8 (c.toNat : Int)] 5)) (by rw [← hm]; exact hb0.cell (p := ⟨1, 0, none⟩) (World.block_lt_of_cell? w _ hm))
  have HB0 := hid hb0
  clear hb0 hm
  have cA := upper_c (c.toNat : Int) w
  have cB := upper_c D w
  by_cases k1 : 65 ≤ c.toNat ∧ c.toNat ≤ 90
  · obtain ⟨d1, d2⟩ := hb1 k1
    rw [decide_eq_true (by omega)] at cA
    rw [decide_eq_false (by omega)] at cB
    have hlt : letter c = true := by unfold letter; rw [decide_eq_true]; omega
    rw [hlt] at cH
    have l1 : (97 : Int) ≤ L := by omega
    have l2 : L ≤ 122 := by omega
    have l3 : (c.toNat : Int) < D := by omega
    clear hb1 hb2 hb3 hlt d1 d2 k1
    go_enter Tryd.func6, Tryd.ntmps6
    go_wp2_with fail
    refine cA.mono ?_
    rintro e w1 ⟨rfl, hw⟩
    rw [hw]
    go_wp2_with fail
    refine cB.mono ?_
    rintro e w2 ⟨rfl, hw2⟩
    rw [hw2]
    clear hw hw2 cA cB
    go_wp2_with fail
    refine cH.mono ?_
    rintro e w3 ⟨rfl, hb3⟩
    have HB3 := hid (HB0.out.trans (hb3.mono HB0.out.size))
    clear hb3 cH
    go_wp2_with fail
    go_ret
    exact ⟨rfl, HB3.out⟩
  · by_cases k2 : 97 ≤ c.toNat ∧ c.toNat ≤ 122
    · obtain ⟨d1, d2⟩ := hb2 k2
      rw [decide_eq_false (by omega)] at cA
      rw [decide_eq_true (by omega)] at cB
      have hlt : letter c = true := by unfold letter; rw [decide_eq_true]; omega
      rw [hlt] at cH
      have l1 : (97 : Int) ≤ L := by omega
      have l2 : L ≤ 122 := by omega
      have l3 : D < (c.toNat : Int) := by omega
      clear hb1 hb2 hb3 hlt d1 d2 k1 k2
      go_enter Tryd.func6, Tryd.ntmps6
      go_wp2_with fail
      refine cA.mono ?_
      rintro e w1 ⟨rfl, hw⟩
      rw [hw]
      go_wp2_with fail
      refine cB.mono ?_
      rintro e w2 ⟨rfl, hw2⟩
      rw [hw2]
      clear hw hw2 cA cB
      go_wp2_with fail
      refine cH.mono ?_
      rintro e w3 ⟨rfl, hb3⟩
      have HB3 := hid (HB0.out.trans (hb3.mono HB0.out.size))
      clear hb3 cH
      go_wp2_with fail
      go_ret
      exact ⟨rfl, HB3.out⟩
    · obtain ⟨d1, d2⟩ := hb3 ⟨k1, k2⟩
      rw [decide_eq_false (by omega)] at cA
      rw [decide_eq_false (by omega)] at cB
      have hlt : letter c = false := by unfold letter; rw [decide_eq_false]; omega
      rw [hlt] at cH
      by_cases l1 : (97 : Int) ≤ L
      · have l2 : ¬ (L ≤ 122) := by omega
        clear hb1 hb2 hb3 hlt d1 d2 k1 k2
        go_enter Tryd.func6, Tryd.ntmps6
        go_wp2_with fail
        refine cA.mono ?_
        rintro e w1 ⟨rfl, hw⟩
        rw [hw]
        go_wp2_with fail
        refine cB.mono ?_
        rintro e w2 ⟨rfl, hw2⟩
        rw [hw2]
        clear hw hw2 cA cB
        go_wp2_with fail
        refine cH.mono ?_
        rintro e w3 ⟨rfl, hb3⟩
        have HB3 := hid (HB0.out.trans (hb3.mono HB0.out.size))
        clear hb3 cH
        go_wp2_with fail
        go_ret
        refine ⟨?_, HB3.out⟩
        show Ending.returned (Value.bool (!decide (L ≤ 122))) = _
        rw [decide_eq_false (by omega)]
        rfl
      · clear hb1 hb2 hb3 hlt d1 d2 k1 k2
        go_enter Tryd.func6, Tryd.ntmps6
        go_wp2_with fail
        refine cA.mono ?_
        rintro e w1 ⟨rfl, hw⟩
        rw [hw]
        go_wp2_with fail
        refine cB.mono ?_
        rintro e w2 ⟨rfl, hw2⟩
        rw [hw2]
        clear hw hw2 cA cB
        go_wp2_with fail
        refine cH.mono ?_
        rintro e w3 ⟨rfl, hb3⟩
        have HB3 := hid (HB0.out.trans (hb3.mono HB0.out.size))
        clear hb3 cH
        go_wp2_with fail
        go_ret
        exact ⟨rfl, HB3.out⟩
end Go.Proofs.Qxb6613651aDoor
