/-
  WALKS of the project's small functions on the road of FnWordsPreconditionCaseFree: zzBytes (9), zzEqWords (8), zzFlipCase (10).
-/
import Derived.Test.Qxb6606333aDoorProg
import Derived.Test.Qxb6606333aDoorPlain
import Derived.WalkKit
import Derived.WalkSpells
import Derived.WalkLawsBesides
import Derived.Below
import Derived.Deep.LoopGhost
import Derived.Deep.QuietTactic
import Derived.BigQuiet
import Derived.Lib.SlBytesRow
namespace Go.Proofs.Qxb6606333aDoor
open Go.RowKit

theorem hid {p : Prop} (h : p) : Hid p := h
/-- zzBytes: do the two lengths sum to at most 1<<20? -/
def fitsB (a b : Nat) : Bool := decide (a + b ≤ 1048576)

set_option maxHeartbeats 400000 in
theorem bytes_yes (s m : ByteArray) (w : World) (h : s.size + m.size ≤ 1048576) :
    Calls Tryd.prog 9 #[.string s, .string m] w fun e w' => e = .returned (.bool true) ∧ w' = w := by
  have h1 : ¬ ((1048576 : Int) < (s.size : Int)) := by omega
  have h2 : ¬ ((1048576 : Int) < (m.size : Int)) := by omega
  have h3 : ¬ ((1048576 : Int) < (s.size : Int) + (m.size : Int)) := by omega
  go_enter Tryd.func9, Tryd.ntmps9
  go_wp2
  go_ret
  exact ⟨rfl, rfl⟩
set_option maxHeartbeats 400000 in
theorem bytes_no (s m : ByteArray) (w : World) (hs : s.size ≤ maxLen) (hm : m.size ≤ maxLen) (h : ¬ s.size + m.size ≤ 1048576) :
    Calls Tryd.prog 9 #[.string s, .string m] w fun e w' => e = .returned (.bool false) ∧ w' = w := by
  unfold maxLen at hs hm
  by_cases h1 : (1048576 : Int) < (s.size : Int)
  · go_enter Tryd.func9, Tryd.ntmps9
    go_wp2
    go_ret
    exact ⟨rfl, rfl⟩
  · by_cases h2 : (1048576 : Int) < (m.size : Int)
    · go_enter Tryd.func9, Tryd.ntmps9
      go_wp2
      go_ret
      exact ⟨rfl, rfl⟩
    · have h3 : (1048576 : Int) < (s.size : Int) + (m.size : Int) := by omega
      go_enter Tryd.func9, Tryd.ntmps9
      go_wp2
      go_ret
      exact ⟨rfl, rfl⟩


/-- The n cells from (g, o) on hold these strings. -/
def StrsAt (w : World) (g o : Nat) (ys : List ByteArray) : Prop := ∀ (j : Nat) y, ys[j]? = some y → w.cell? ⟨g, o + j, none⟩ = some (.string y)

set_option maxHeartbeats 1000000 in
theorem eq_words (g1 o1 c1 g2 o2 c2 : Nat) (ys : List ByteArray) (w : World) (hl : ys.length ≤ 1000000000) (h1 : StrsAt w g1 o1 ys) (h2 : StrsAt w g2 o2 ys) :
    Calls Tryd.prog 8 #[.slice (some ⟨g1, o1, none⟩) ys.length c1, .slice (some ⟨g2, o2, none⟩) ys.length c2] w fun e w' => e = .returned (.bool true) ∧ ∃ k, w' = w.drewN k := by
  have H1 : Hid (StrsAt w g1 o1 ys) := h1
  have H2 : Hid (StrsAt w g2 o2 ys) := h2
  clear h1 h2
  obtain ⟨n, hn⟩ : ∃ n, ys.length = n := ⟨_, rfl⟩
  have HN : Hid (ys.length = n) := hn
  rw [hn] at hl ⊢
  clear hn
  go_enter Tryd.func8, Tryd.ntmps8
  go_wp2
  go_loopg [5] n (fun gk i wx => ∃ k : Nat, k + gk = n ∧ i = .int .i64 k ∧ ∃ q, wx = w.drewN q)
  case atStart => exact ⟨0, by omega, rfl, 0, rfl⟩
  case round =>
    obtain ⟨k, hk, rfl, q, rfl⟩ := hrel
    cases gk with
    | zero =>
      have hkn : ¬ ((k : Int) < (n : Int)) := by omega
      go_wp2
      go_ret
      exact ⟨rfl, q, rfl⟩
    | succ gk =>
      have hkn : (k : Int) < (n : Int) := by omega
      obtain ⟨y, hy⟩ : ∃ y, ys[k]? = some y := ⟨_, List.getElem?_eq_getElem (by have := HN.out; omega)⟩
      have hc1 : w.cell? ⟨g1, o1 + k, none⟩ = some (.string y) := H1.out k y hy
      have hc2 : w.cell? ⟨g2, o2 + k, none⟩ = some (.string y) := H2.out k y hy
      clear hy
      go_wp2
      go_quiet (fail)
      go_wp2
      go_roundg gk
      case measure => omega
      case rel => exact ⟨k + 1, by omega, by go_num, _, rfl⟩

/-! ### zzFlipCase (10), all = true -/
theorem Tryd.info5 : (Tryd.prog.info? 5).map (fun i => (i.zero, i.size, i.bytes)) = some (some (.int .u8 0), 1, 1) := by kernel_rfl
abbrev byteV (b : UInt8) : Value := .int .u8 (b.toNat : Int)

theorem take_set_succ {α : Type} (bs ts : List α) (k : Nat) (c : α) (hk : k < bs.length) (hc : ts[k]? = some c) (h : bs.take k = ts.take k) : (bs.set k c).take (k + 1) = ts.take (k + 1) := by
  have h1 : k < ts.length := (List.getElem?_eq_some_iff.1 hc).1
  have h2 : ts[k] = c := (List.getElem?_eq_some_iff.1 hc).2
  rw [List.take_succ_eq_append_getElem (by simpa using hk), List.take_succ_eq_append_getElem h1, List.take_set_of_le (Nat.le_refl _), h, List.getElem_set_self, h2]

theorem stored_bytes {w : World} {B g n cap : Nat} {bs : List UInt8} (h : w.ownsRow B 5 1 (.slice (some ⟨g, 0, none⟩) n cap) n (bs.map byteV)) (k : Nat) (c : UInt8) :
    (w.setCell ⟨g, k, none⟩ (byteV c)).ownsRow B 5 1 (.slice (some ⟨g, 0, none⟩) n cap) n ((bs.set k c).map byteV) := by
  have := (h.stored k (byteV c)).1
  rwa [← List.map_set] at this

theorem flip_low (x : UInt8) (h1 : (97 : Int) ≤ (x.toNat : Int)) (h2 : (x.toNat : Int) ≤ 122) : Value.int .u8 ((x.toNat : Int) - 32) = byteV (flipB x) := by
  unfold flipB
  rw [if_pos (by omega)]
  congr 1
  simp
  omega
theorem flip_up (x : UInt8) (h1 : (65 : Int) ≤ (x.toNat : Int)) (h2 : (x.toNat : Int) ≤ 90) : Value.int .u8 ((x.toNat : Int) + 32) = byteV (flipB x) := by
  unfold flipB
  rw [if_neg (by omega), if_pos (by omega)]
  congr 1
  simp
  omega
theorem flip_other (x : UInt8) (h1 : ¬ (97 ≤ (x.toNat : Int) ∧ (x.toNat : Int) ≤ 122)) (h2 : ¬ (65 ≤ (x.toNat : Int) ∧ (x.toNat : Int) ≤ 90)) : byteV x = byteV (flipB x) := by
  unfold flipB
  rw [if_neg (by omega), if_neg (by omega)]

set_option maxHeartbeats 1000000 in
set_option maxRecDepth 100000 in
theorem flip_case (s : ByteArray) (w : World) (hs : s.size ≤ 1000000000) :
    Calls Tryd.prog 10 #[.string s, .bool true] w fun e w' => e = .returned (.string ⟨(flipL s.data.toList).toArray⟩) ∧ Below w.heap.size w w' := by
  obtain ⟨i0, hi, hz0, hz1, hz2⟩ := info_parts Tryd.info5
  go_enter Tryd.func10, Tryd.ntmps10
  go_wp2_with (first
    | (at_make; refine wpList_make_full _ rfl _ _ 28 rfl w.heap.size 5 i0 (.int .u8 0) 1 Tryd.underlying28 hi hz0 hz1 .i64 .i64 _ _ s.size rfl rfl rfl rfl (by rw [hz2]; omega) (by unfold maxLen; omega) (Nat.le_refl _) ?_; intro w1 hown hgrow))
  have hown0 : w1.ownsRow w.heap.size 5 1 (.slice (some ⟨w.heap.size, 0, none⟩) s.size s.size) s.size ((List.replicate s.size (0 : UInt8)).map byteV) := by
    have e : (madeCells (Value.int .u8 0).cells (s.size * 1)).toList = (List.replicate s.size (0 : UInt8)).map byteV := by
      rw [Nat.mul_one, show (Value.int .u8 0).cells = #[Value.int .u8 0] from rfl, toList_madeCells_one, List.map_replicate]; rfl
    rw [e] at hown; exact hown
  have hb0 : Below w.heap.size w w1 := (Below.refl _ _).grown hgrow (Nat.le_refl _) (fun _ h => by cases h)
  clear hown hgrow
  go_loopg [6, 7] s.size (fun gk fl i wx => ∃ (k : Nat) (bs : List UInt8), k + gk = s.size ∧ fl = .bool true ∧ i = .int .i64 k ∧ bs.length = s.size ∧ bs.take k = (flipL s.data.toList).take k ∧
      wx.ownsRow w.heap.size 5 1 (.slice (some ⟨w.heap.size, 0, none⟩) s.size s.size) s.size (bs.map byteV) ∧ Below w.heap.size w wx)
  case atStart => exact ⟨0, _, by omega, rfl, rfl, by simp, by simp, hown0, hb0⟩
  case round =>
    obtain ⟨k, bs, hk, rfl, rfl, hlen, htk, hown, hb⟩ := hrel
    have HL : Hid (bs.length = s.size) := hlen
    have HT : Hid (bs.take k = (flipL s.data.toList).take k) := htk
    have HO : Hid (wr.ownsRow w.heap.size 5 1 (.slice (some ⟨w.heap.size, 0, none⟩) s.size s.size) s.size (bs.map byteV)) := hown
    have HB : Hid (Below w.heap.size w wr) := hb
    clear hlen htk hown hb hown0 hb0
    cases gk with
    | zero =>
      have hkn : ¬ ((k : Int) < (s.size : Int)) := by omega
      have hfin : bs = flipL s.data.toList := by
        have h1 := HT.out
        have h2 : k = s.size := by omega
        have h3 := HL.out
        have h4 : (flipL s.data.toList).length = s.size := by rw [flipL_length]; simp
        rwa [List.take_of_length_le (by omega), List.take_of_length_le (by omega)] at h1
      have hcv : (convert 28 9 (.slice (some ⟨w.heap.size, 0, none⟩) s.size s.size)).run Tryd.prog wr = .ok (.string ⟨(flipL s.data.toList).toArray⟩) wr := by
        have hsz : (⟨(flipL s.data.toList).toArray⟩ : ByteArray).size = s.size := by
          show (flipL s.data.toList).toArray.size = s.size
          rw [List.size_toArray, flipL_length]; simp
        have hby : Lib.Bytes wr w.heap.size 0 ⟨(flipL s.data.toList).toArray⟩ := fun i hi => by
          rw [Nat.zero_add, HO.out.cellAt i (by rw [hsz] at hi; omega), hfin, List.getElem?_map]
          have hi' : i < (flipL s.data.toList).length := by rw [hsz] at hi; rw [flipL_length, ← Lib.size_eq]; exact hi
          rw [List.getElem?_eq_getElem hi']
          rfl
        have h := Lib.run_convert_whole (P := Tryd.prog) wr 28 5 9 Tryd.underlying28 Tryd.underlying5 Tryd.underlying9 w.heap.size 0 _ hby s.size
        rw [hsz] at h
        exact h
      clear hfin
      go_wp2
      go_ret
      exact ⟨rfl, HB.out⟩
    | succ gk =>
      have hkn : (k : Int) < (s.size : Int) := by omega
      have hkn' : k < s.size := by omega
      obtain ⟨x, hx⟩ : ∃ x : UInt8, s[k]'hkn' = x := ⟨_, rfl⟩
      have hfx : (flipL s.data.toList)[k]? = some (flipB x) := by
        unfold flipL
        rw [List.getElem?_map, Lib.data_getElem? s k hkn', hx]; rfl
      have HF : Hid ((flipL s.data.toList)[k]? = some (flipB x)) := hfx
      clear hfx
      have hfz := HO.out.frozenAt k
      have hcl : ∃ v, wr.cell? ⟨w.heap.size, k, none⟩ = some v := ⟨_, by rw [HO.out.cellAt k (by omega), List.getElem?_map, List.getElem?_eq_getElem (by have := HL.out; omega)]; rfl⟩
      obtain ⟨v, hcl⟩ := hcl
      have hx8 : (x.toNat : Int) < 256 := by have := x.toNat_lt; omega
      have hend : ∀ u, u = byteV (flipB x) → ∃ bs' : List UInt8, bs'.length = s.size ∧ bs'.take (k + 1) = (flipL s.data.toList).take (k + 1) ∧ (wr.setCell ⟨w.heap.size, k, none⟩ u).ownsRow w.heap.size 5 1 (.slice (some ⟨w.heap.size, 0, none⟩) s.size s.size) s.size (bs'.map byteV) ∧ Below w.heap.size w (wr.setCell ⟨w.heap.size, k, none⟩ u) := fun u hu => by
        subst hu
        exact ⟨bs.set k (flipB x), by rw [List.length_set]; exact HL.out, take_set_succ _ _ _ _ (by have := HL.out; omega) HF.out HT.out, stored_bytes HO.out k _, HB.out.setCell (Nat.le_refl _) _⟩
      have HE := hid hend
      clear hend
      by_cases c1 : (97 : Int) ≤ (x.toNat : Int) ∧ (x.toNat : Int) ≤ 122
      · obtain ⟨c1, c2⟩ := c1
        obtain ⟨bs', e1, e2, e3, e4⟩ := HE.out _ (flip_low x c1 c2)
        have X := hid (And.intro e1 (And.intro e2 (And.intro e3 e4)))
        clear e1 e2 e3 e4
        go_wp2
        go_roundg gk
        case measure => omega
        case rel => exact ⟨k + 1, bs', by omega, rfl, by go_num, X.out.1, X.out.2.1, X.out.2.2.1, X.out.2.2.2⟩
      · by_cases c2 : (65 : Int) ≤ (x.toNat : Int) ∧ (x.toNat : Int) ≤ 90
        · obtain ⟨c2, c3⟩ := c2
          obtain ⟨bs', e1, e2, e3, e4⟩ := HE.out _ (flip_up x c2 c3)
          have X := hid (And.intro e1 (And.intro e2 (And.intro e3 e4)))
          clear e1 e2 e3 e4
          have c1' : ¬ ((97 : Int) ≤ (x.toNat : Int)) := by omega
          clear c1
          go_wp2
          go_roundg gk
          case measure => omega
          case rel => exact ⟨k + 1, bs', by omega, rfl, by go_num, X.out.1, X.out.2.1, X.out.2.2.1, X.out.2.2.2⟩
        · obtain ⟨bs', e1, e2, e3, e4⟩ := HE.out _ (flip_other x c1 c2)
          have X := hid (And.intro e1 (And.intro e2 (And.intro e3 e4)))
          clear e1 e2 e3 e4
          rcases (show (x.toNat : Int) < 58 ∨ (((x.toNat : Int) == 58) = true ∧ (x.toNat : Int) < 65) ∨ (58 < (x.toNat : Int) ∧ (x.toNat : Int) < 65) ∨ (90 < (x.toNat : Int) ∧ (x.toNat : Int) < 97) ∨ 122 < (x.toNat : Int) by rw [beq_iff_eq]; omega) with c3 | ⟨c3, c4⟩ | ⟨c3, c4⟩ | ⟨c3, c4⟩ | c3
          all_goals
            clear c1 c2
            go_wp2
            go_roundg gk
            case measure => omega
            case rel => exact ⟨k + 1, bs', by omega, rfl, by go_num, X.out.1, X.out.2.1, X.out.2.2.1, X.out.2.2.2⟩

end Go.Proofs.Qxb6606333aDoor
