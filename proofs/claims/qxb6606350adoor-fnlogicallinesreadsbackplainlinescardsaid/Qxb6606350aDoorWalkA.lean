/-
  WALKS of the laws' small functions: zzBytes (10, 13), zzHasLineEnd (14), zzTrailingBackslashes (15), zzTrimBlanks (16), zzPlainLine (11), zzCloneStrings (12), zzSameStrings (9).
-/
import Derived.Test.Qxb6606350aDoorProg
import Derived.Test.Qxb6606350aDoorPlain
import Derived.WalkKit
import Derived.WalkMore
import Derived.WalkSpells
import Derived.WalkLawsBesides
import Derived.Below
import Derived.Deep.LoopGhost
import Derived.Deep.QuietTactic
import Derived.BigQuiet
import Derived.Lib.SlBytesRow
import Derived.Lib.SliceRun
namespace Go.Proofs.Qxb6606350aDoor
open Go.RowKit
set_option linter.unusedSimpArgs false

theorem hid {p : Prop} (h : p) : Hid p := h
abbrev strV (l : List UInt8) : Value := .string ⟨l.toArray⟩
theorem beq_c (x c : UInt8) : ((x.toNat : Int) == (c.toNat : Int)) = (x == c) := by
  cases h : (x == c) with
  | true => rw [beq_iff_eq] at h; subst h; simp
  | false =>
    rw [beq_eq_false_iff_ne] at h ⊢
    intro e
    exact h (UInt8.toNat_inj.1 (by omega))

/-- The strings of a slice: where it holds any, it lies at an address; and there they lie. -/
structure Strs (w : World) (a0 : Option Addr) (g o : Nat) (ys : List (List UInt8)) : Prop where
  at' : 0 < ys.length → a0 = some ⟨g, o, none⟩
  cell : ∀ (j : Nat) y, ys[j]? = some y → w.cell? ⟨g, o + j, none⟩ = some (strV y)

/-- It returns some bool; true at bounded strings alone; the world as it was. -/
def SomeB (ys : List (List UInt8)) (w : World) (e : Ending) (w' : World) : Prop := (∃ b : Bool, e = .returned (.bool b) ∧ (b = true → ys.length ≤ 1048576 ∧ ∀ y ∈ ys, y.length ≤ 1048576)) ∧ w' = w
theorem someB_no (ys : List (List UInt8)) (w : World) : SomeB ys w (.returned (.bool false)) w := ⟨⟨_, rfl, fun h => by cases h⟩, rfl⟩
theorem all_take_succ {p : List UInt8 → Prop} (l : List (List UInt8)) (k : Nat) (x : List UInt8) (hx : l[k]? = some x) (h : ∀ y ∈ l.take k, p y) (h1 : p x) : ∀ y ∈ l.take (k + 1), p y := by
  have hk : k < l.length := (List.getElem?_eq_some_iff.1 hx).1
  have hv : l[k] = x := (List.getElem?_eq_some_iff.1 hx).2
  rw [List.take_succ_eq_append_getElem hk]
  intro y hy
  rcases List.mem_append.1 hy with hy | hy
  · exact h y hy
  · rw [List.mem_singleton.1 hy, hv]; exact h1

set_option maxHeartbeats 1000000 in
set_option maxRecDepth 100000 in
theorem bytes10 (a0 : Option Addr) (g o c : Nat) (ys : List (List UInt8)) (w : World) (h : Strs w a0 g o ys) (hn : ys.length ≤ maxLen) (hy : ∀ y ∈ ys, y.length ≤ maxLen) :
    Calls Tryd.prog 10 #[.slice a0 ys.length c] w (SomeB ys w) := by
  have H := hid h
  have HY := hid hy
  clear h hy
  obtain ⟨n, hn'⟩ : ∃ n, ys.length = n := ⟨_, rfl⟩
  have HN := hid hn'
  rw [hn'] at hn ⊢
  clear hn'
  unfold maxLen at hn
  by_cases h1 : (1048576 : Int) < (n : Int)
  · go_enter Tryd.func10, Tryd.ntmps10
    go_wp2
    go_ret
    exact someB_no _ _
  · have h2 : ¬ ((1048576 : Int) < 0 + (n : Int)) := by omega
    go_enter Tryd.func10, Tryd.ntmps10
    go_wp2
    go_loopg [3, 4] n (fun gk z i wx => ∃ (k : Nat) (t : Nat), k + gk = n ∧ i = .int .i64 k ∧ z = .int .i64 t ∧ t ≤ 1048576 ∧ wx = w ∧ ∀ y ∈ ys.take k, y.length ≤ 1048576)
    case atStart => exact ⟨0, n, by omega, rfl, by go_num, by omega, rfl, by simp⟩
    case round =>
      obtain ⟨k, t, hk, rfl, rfl, ht, rfl, hall⟩ := hrel
      have HALL := hid hall
      clear hall
      cases gk with
      | zero =>
        have hkn : ¬ ((k : Int) < (n : Int)) := by omega
        go_wp2
        go_ret
        refine ⟨⟨true, rfl, fun _ => ⟨by have := HN.out; omega, fun y hy => HALL.out y ?_⟩⟩, rfl⟩
        rw [List.take_of_length_le (by have := HN.out; omega)]
        exact hy
      | succ gk =>
        have hkn : (k : Int) < (n : Int) := by omega
        obtain ⟨y, hy⟩ : ∃ y, ys[k]? = some y := ⟨_, List.getElem?_eq_getElem (by have := HN.out; omega)⟩
        have hc1 := H.out.cell k y hy
        have ha := H.out.at' (by have := HN.out; omega)
        have hyl := HY.out y (List.mem_of_getElem? hy)
        unfold maxLen at hyl
        subst ha
        have HYK := hid hy
        clear hy
        by_cases c1 : (1048576 : Int) < (y.length : Int)
        · go_wp2
          go_ret
          exact someB_no _ _
        · by_cases c2 : (1048576 : Int) < (t : Int) + (y.length : Int)
          · go_wp2
            go_ret
            exact someB_no _ _
          · go_wp2
            go_roundg gk
            case measure => omega
            case rel => exact ⟨k + 1, t + y.length, by omega, by go_num, by go_num, by omega, rfl, all_take_succ ys k y HYK.out HALL.out (by omega)⟩

set_option maxHeartbeats 1000000 in
set_option maxRecDepth 100000 in
theorem bytes13 (a0 : Option Addr) (g o c : Nat) (ys : List (List UInt8)) (w : World) (h : Strs w a0 g o ys) (hn : ys.length ≤ maxLen) (hy : ∀ y ∈ ys, y.length ≤ maxLen) :
    Calls Tryd.prog 13 #[.slice a0 ys.length c] w (SomeB ys w) := by
  have H := hid h
  have HY := hid hy
  clear h hy
  obtain ⟨n, hn'⟩ : ∃ n, ys.length = n := ⟨_, rfl⟩
  have HN := hid hn'
  rw [hn'] at hn ⊢
  clear hn'
  unfold maxLen at hn
  by_cases h1 : (1048576 : Int) < (n : Int)
  · go_enter Tryd.func13, Tryd.ntmps13
    go_wp2
    go_ret
    exact someB_no _ _
  · have h2 : ¬ ((1048576 : Int) < 0 + (n : Int)) := by omega
    go_enter Tryd.func13, Tryd.ntmps13
    go_wp2
    go_loopg [3, 4] n (fun gk z i wx => ∃ (k : Nat) (t : Nat), k + gk = n ∧ i = .int .i64 k ∧ z = .int .i64 t ∧ t ≤ 1048576 ∧ wx = w ∧ ∀ y ∈ ys.take k, y.length ≤ 1048576)
    case atStart => exact ⟨0, n, by omega, rfl, by go_num, by omega, rfl, by simp⟩
    case round =>
      obtain ⟨k, t, hk, rfl, rfl, ht, rfl, hall⟩ := hrel
      have HALL := hid hall
      clear hall
      cases gk with
      | zero =>
        have hkn : ¬ ((k : Int) < (n : Int)) := by omega
        go_wp2
        go_ret
        refine ⟨⟨true, rfl, fun _ => ⟨by have := HN.out; omega, fun y hy => HALL.out y ?_⟩⟩, rfl⟩
        rw [List.take_of_length_le (by have := HN.out; omega)]
        exact hy
      | succ gk =>
        have hkn : (k : Int) < (n : Int) := by omega
        obtain ⟨y, hy⟩ : ∃ y, ys[k]? = some y := ⟨_, List.getElem?_eq_getElem (by have := HN.out; omega)⟩
        have hc1 := H.out.cell k y hy
        have ha := H.out.at' (by have := HN.out; omega)
        have hyl := HY.out y (List.mem_of_getElem? hy)
        unfold maxLen at hyl
        subst ha
        have HYK := hid hy
        clear hy
        by_cases c1 : (1048576 : Int) < (y.length : Int)
        · go_wp2
          go_ret
          exact someB_no _ _
        · by_cases c2 : (1048576 : Int) < (t : Int) + (y.length : Int)
          · go_wp2
            go_ret
            exact someB_no _ _
          · go_wp2
            go_roundg gk
            case measure => omega
            case rel => exact ⟨k + 1, t + y.length, by omega, by go_num, by go_num, by omega, rfl, all_take_succ ys k y HYK.out HALL.out (by omega)⟩

def hasEnd (l : List UInt8) : Bool := l.any fun b => b == 10 || b == 13
theorem any_take_succ (p : UInt8 → Bool) (l : List UInt8) (k : Nat) (x : UInt8) (hx : l[k]? = some x) (h : (l.take k).any p = false) (h1 : p x = false) : (l.take (k + 1)).any p = false := by
  have hk : k < l.length := (List.getElem?_eq_some_iff.1 hx).1
  rw [List.take_succ_eq_append_getElem hk, List.any_append, h]
  have : l[k] = x := (List.getElem?_eq_some_iff.1 hx).2
  simp [this, h1]

set_option maxHeartbeats 1000000 in
set_option maxRecDepth 100000 in
theorem hasEnd_c (s : ByteArray) (w : World) (hs : s.size ≤ 1000000000) :
    Calls Tryd.prog 14 #[.string s] w fun e w' => e = .returned (.bool (hasEnd s.data.toList)) ∧ w' = w := by
  go_enter Tryd.func14, Tryd.ntmps14
  go_wp2
  go_loopg [3] s.size (fun gk i wx => ∃ k : Nat, k + gk = s.size ∧ i = .int .i64 k ∧ wx = w ∧ hasEnd (s.data.toList.take k) = false)
  case atStart => exact ⟨0, by omega, rfl, rfl, rfl⟩
  case round =>
    obtain ⟨k, hk, rfl, rfl, hno⟩ := hrel
    have HN := hid hno
    clear hno
    cases gk with
    | zero =>
      have hkn : ¬ ((k : Int) < (s.size : Int)) := by omega
      go_wp2
      go_ret
      refine ⟨?_, rfl⟩
      have := HN.out
      rw [List.take_of_length_le (by rw [← Lib.size_eq]; omega)] at this
      rw [this]; rfl
    | succ gk =>
      have hkn : (k : Int) < (s.size : Int) := by omega
      have hkn' : k < s.size := by omega
      obtain ⟨x, hx⟩ : ∃ x : UInt8, s[k]'hkn' = x := ⟨_, rfl⟩
      have HX := hid (show s.data.toList[k]? = some x by rw [← hx]; exact Lib.data_getElem? s k hkn')
      have e1 : ((x.toNat : Int) == 10) = (x == 10) := beq_c x 10
      have e2 : ((x.toNat : Int) == 13) = (x == 13) := beq_c x 13
      have hit : (x == 10 || x == 13) = true → hasEnd s.data.toList = true := fun h => List.any_eq_true.2 ⟨x, List.mem_of_getElem? HX.out, h⟩
      have HIT := hid hit
      clear hit
      cases c1 : (x == 10)
      · rw [c1] at e1
        cases c2 : (x == 13)
        · rw [c2] at e2
          have HC := hid (any_take_succ (fun b => b == 10 || b == 13) s.data.toList k x HX.out HN.out (by simp [c1, c2]))
          clear c1 c2
          go_wp2
          go_roundg gk
          case measure => omega
          case rel => exact ⟨k + 1, by omega, by go_num, rfl, HC.out⟩
        · rw [c2] at e2
          have h := HIT.out (by simp [c2])
          clear c1 c2
          go_wp2
          go_ret
          exact ⟨by rw [h]; rfl, rfl⟩
      · rw [c1] at e1
        have h := HIT.out (by simp [c1])
        clear c1 e2
        go_wp2
        go_ret
        exact ⟨by rw [h]; rfl, rfl⟩

/-! ### trailing backslashes -/
theorem tbs_of (l : List UInt8) (k : Nat) (hk : k ≤ l.length) (h1 : ∀ j, j < k → l[l.length - 1 - j]? = some 92) (h2 : k < l.length → ∃ x, l[l.length - 1 - k]? = some x ∧ x ≠ 92) : tbs l = k := by
  have e := Lib.trimRightB_take l 92 (l.length - k) (by omega) (fun j b h3 h4 => by
    have h5 : j < l.length := (List.getElem?_eq_some_iff.1 h4).1
    have := h1 (l.length - 1 - j) (by omega)
    rw [show l.length - 1 - (l.length - 1 - j) = j by omega, h4] at this
    exact Option.some.inj this) (fun b h3 h4 => by
    obtain ⟨x, hx, hne⟩ := h2 (by omega)
    rw [show l.length - k - 1 = l.length - 1 - k by omega, hx] at h4
    exact (Option.some.inj h4) ▸ hne)
  unfold tbs
  rw [e, List.length_take]
  omega

set_option maxHeartbeats 1000000 in
set_option maxRecDepth 100000 in
theorem tbs_c (s : ByteArray) (w : World) (hs : s.size ≤ 1000000000) :
    Calls Tryd.prog 15 #[.string s] w fun e w' => e = .returned (.int .i64 (tbs s.data.toList)) ∧ w' = w := by
  go_enter Tryd.func15, Tryd.ntmps15
  go_wp2
  go_loopg [3] s.size (fun gk i wx => ∃ k : Nat, k + gk = s.size ∧ i = .int .i64 k ∧ wx = w ∧ ∀ j, j < k → s.data.toList[s.size - 1 - j]? = some 92)
  case atStart => exact ⟨0, by omega, rfl, rfl, fun j h => by omega⟩
  case round =>
    obtain ⟨k, hk, rfl, rfl, hno⟩ := hrel
    have HN := hid hno
    clear hno
    cases gk with
    | zero =>
      have hkn : ¬ ((k : Int) < (s.size : Int)) := by omega
      go_wp2
      go_ret
      refine ⟨?_, rfl⟩
      rw [tbs_of s.data.toList k (by rw [← Lib.size_eq]; omega) (fun j hj => by rw [← Lib.size_eq]; exact HN.out j hj) (fun h => by rw [← Lib.size_eq] at h; omega)]
      rfl
    | succ gk =>
      have hkn : (k : Int) < (s.size : Int) := by omega
      have hkn' : s.size - 1 - k < s.size := by omega
      obtain ⟨x, hx⟩ : ∃ x : UInt8, s[s.size - 1 - k]'hkn' = x := ⟨_, rfl⟩
      have HX := hid (show s.data.toList[s.size - 1 - k]? = some x by rw [← hx]; exact Lib.data_getElem? s _ hkn')
      have hw1 : (s.size : Int) - 1 - (k : Int) = ((s.size - 1 - k : Nat) : Int) := by omega
      have e1 : ((x.toNat : Int) == 92) = (x == 92) := beq_c x 92
      cases c1 : (x == 92)
      · rw [c1] at e1
        rw [beq_eq_false_iff_ne] at c1
        have HC := hid c1
        clear c1
        go_wp2
        go_ret
        refine ⟨?_, rfl⟩
        rw [tbs_of s.data.toList k (by rw [← Lib.size_eq]; omega) (fun j hj => by rw [← Lib.size_eq]; exact HN.out j hj) (fun h => ⟨x, by rw [← Lib.size_eq]; exact HX.out, HC.out⟩)]
        rfl
      · rw [c1] at e1
        rw [beq_iff_eq] at c1
        have HC := hid c1
        clear c1
        go_wp2
        go_roundg gk
        case measure => omega
        case rel => exact ⟨k + 1, by omega, by go_num, rfl, fun j hj => by
            rcases Nat.lt_or_ge j k with h | h
            · exact HN.out j h
            · rw [show j = k by omega, HX.out, HC.out]⟩

/-! ### leading blanks -/
theorem ext_drop (s : ByteArray) (k : Nat) : s.extract k s.size = ⟨(s.data.toList.drop k).toArray⟩ := by
  apply ByteArray.ext
  apply Array.ext'
  rw [Lib.extract_data]
  simp only [List.toList_toArray]
  rw [List.take_of_length_le]
  rw [List.length_drop, ← Lib.size_eq]
  exact Nat.le_refl _

set_option maxHeartbeats 1000000 in
set_option maxRecDepth 100000 in
theorem trim_c (s : ByteArray) (w : World) (hs : s.size ≤ 1000000000) :
    Calls Tryd.prog 16 #[.string s] w fun e w' => e = .returned (.string ⟨(trimL s.data.toList).toArray⟩) ∧ w' = w := by
  go_enter Tryd.func16, Tryd.ntmps16
  go_wp2
  go_loopg [3] s.size (fun gk i wx => ∃ k : Nat, k + gk = s.size ∧ i = .int .i64 k ∧ wx = w ∧ ∀ (j : Nat) b, j < k → s.data.toList[j]? = some b → ([32, 9, 12] : List UInt8).contains b = true)
  case atStart => exact ⟨0, by omega, rfl, rfl, fun j b h => by omega⟩
  case round =>
    obtain ⟨k, hk, rfl, rfl, hno⟩ := hrel
    have HN := hid hno
    clear hno
    have HE : Hid ((∀ b, s.data.toList[k]? = some b → ([32, 9, 12] : List UInt8).contains b = false) → Value.string (s.extract k s.size) = .string ⟨(trimL s.data.toList).toArray⟩) := fun h => by
      rw [ext_drop]
      unfold trimL
      rw [Lib.trimLeftS_drop s.data.toList [32, 9, 12] k (by rw [← Lib.size_eq]; omega) HN.out h]
    cases gk with
    | zero =>
      have hkn : ¬ ((k : Int) < (s.size : Int)) := by omega
      have hk2 : (k : Int) ≤ (s.size : Int) := by omega
      go_wp2
      go_ret
      exact ⟨congrArg Ending.returned (HE.out (fun b hb => by have := (List.getElem?_eq_some_iff.1 hb).1; rw [← Lib.size_eq] at this; omega)), rfl⟩
    | succ gk =>
      have hkn : (k : Int) < (s.size : Int) := by omega
      have hk2 : (k : Int) ≤ (s.size : Int) := by omega
      have hkn' : k < s.size := by omega
      obtain ⟨x, hx⟩ : ∃ x : UInt8, s[k]'hkn' = x := ⟨_, rfl⟩
      have HX := hid (show s.data.toList[k]? = some x by rw [← hx]; exact Lib.data_getElem? s k hkn')
      have e1 : ((x.toNat : Int) == 32) = (x == 32) := beq_c x 32
      have e2 : ((x.toNat : Int) == 9) = (x == 9) := beq_c x 9
      have e3 : ((x.toNat : Int) == 12) = (x == 12) := beq_c x 12
      have HG : Hid (([32, 9, 12] : List UInt8).contains x = true → ∀ (j : Nat) b, j < k + 1 → s.data.toList[j]? = some b → ([32, 9, 12] : List UInt8).contains b = true) := fun h j b hj hb => by
        rcases Nat.lt_or_ge j k with h' | h'
        · exact HN.out j b h' hb
        · rw [show j = k by omega, HX.out] at hb
          exact (Option.some.inj hb) ▸ h
      cases c1 : (x == 32)
      · cases c2 : (x == 9)
        · cases c3 : (x == 12)
          · have HF := HE.out (fun b hb => by rw [HX.out] at hb; rw [← Option.some.inj hb]; simp only [beq_eq_false_iff_ne] at c1 c2 c3; simp [c1, c2, c3])
            have HF' := hid HF
            clear HF
            rw [c1] at e1; rw [c2] at e2; rw [c3] at e3
            clear c1 c2 c3
            go_wp2
            go_ret
            exact ⟨congrArg Ending.returned HF'.out, rfl⟩
          · have HF := hid (HG.out (by simp only [beq_iff_eq] at c3; simp [c3]))
            rw [c1] at e1; rw [c2] at e2; rw [c3] at e3
            clear c1 c2 c3
            go_wp2
            go_roundg gk
            case measure => omega
            case rel => exact ⟨k + 1, by omega, by go_num, rfl, HF.out⟩
        · have HF := hid (HG.out (by simp only [beq_iff_eq] at c2; simp [c2]))
          rw [c1] at e1; rw [c2] at e2
          clear c1 c2 e3
          go_wp2
          go_roundg gk
          case measure => omega
          case rel => exact ⟨k + 1, by omega, by go_num, rfl, HF.out⟩
      · have HF := hid (HG.out (by simp only [beq_iff_eq] at c1; simp [c1]))
        rw [c1] at e1
        clear c1 e2 e3
        go_wp2
        go_roundg gk
        case measure => omega
        case rel => exact ⟨k + 1, by omega, by go_num, rfl, HF.out⟩

/-! ### a plain line -/
set_option maxHeartbeats 1000000 in
set_option maxRecDepth 100000 in
theorem plain_c (s : ByteArray) (w : World) (hs : s.size ≤ 1000000000) :
    Calls Tryd.prog 11 #[.string s] w fun e w' => e = .returned (.bool (plainL s.data.toList)) ∧ w' = w := by
  have cE := hasEnd_c s w hs
  have cT := tbs_c s w hs
  cases hl : s.data.toList with
  | nil =>
    have hz : s.size = 0 := by rw [Lib.size_eq, hl]; rfl
    have hz2 : s.toList.isEmpty = true := by rw [Lib.toList_data, hl]; rfl
    go_enter Tryd.func11, Tryd.ntmps11
    go_wp2
    go_ret
    exact ⟨rfl, rfl⟩
  | cons x r =>
    have hz : (0 : Int) < (s.size : Int) := by rw [Lib.size_eq, hl]; simp
    have hz1 : 0 < s.size := by omega
    have hz2 : s.toList.isEmpty = false := by rw [Lib.toList_data, hl]; rfl
    have hx : s[0]'hz1 = x := by
      have := Lib.data_getElem? s 0 hz1
      rw [hl] at this
      exact (Option.some.inj this).symm
    have e1 : ((x.toNat : Int) == 32) = (x == 32) := beq_c x 32
    have e2 : ((x.toNat : Int) == 9) = (x == 9) := beq_c x 9
    have e3 : ((x.toNat : Int) == 12) = (x == 12) := beq_c x 12
    have e4 : ((x.toNat : Int) == 35) = (x == 35) := beq_c x 35
    have e5 : ((x.toNat : Int) == 33) = (x == 33) := beq_c x 33
    rw [hl] at cE cT
    obtain ⟨E, hE⟩ : ∃ E, hasEnd (x :: r) = E := ⟨_, rfl⟩
    obtain ⟨T, hT⟩ : ∃ T, tbs (x :: r) = T := ⟨_, rfl⟩
    have hTl : T ≤ s.size := by rw [← hT, Lib.size_eq, hl]; exact tbs_le _
    have hpl : plainL (x :: r) = (!(x == 32 || x == 9 || x == 12 || x == 35 || x == 33) && !E && T % 2 == 0) := by rw [← hE, ← hT]; rfl
    rw [hE] at cE
    rw [hT] at cT
    rw [hpl]
    clear hl hpl hE hT
    cases c1 : (x == 32)
    · cases c2 : (x == 9)
      · cases c3 : (x == 12)
        · cases c4 : (x == 35)
          · cases c5 : (x == 33)
            · rw [c1] at e1; rw [c2] at e2; rw [c3] at e3; rw [c4] at e4; rw [c5] at e5
              clear c1 c2 c3 c4 c5
              cases E with
              | true =>
                go_enter Tryd.func11, Tryd.ntmps11
                go_wp2_with (go_at_call 14; refine cE.mono ?_; rintro e w' ⟨rfl, hw⟩; rw [hw])
                go_ret
                exact ⟨rfl, rfl⟩
              | false =>
                go_enter Tryd.func11, Tryd.ntmps11
                go_wp2_with (first | (go_at_call 14; refine cE.mono ?_; rintro e w' ⟨rfl, hw⟩; rw [hw]) | (go_at_call 15; refine cT.mono ?_; rintro e w' ⟨rfl, hw⟩; rw [hw]))
                go_ret
                refine ⟨congrArg Ending.returned (congrArg Value.bool ?_), rfl⟩
                have h2 : ((T : Int) % 2 == 0) = (T % 2 == 0) := by
                  cases h : (T % 2 == 0) with
                  | true => rw [beq_iff_eq] at h ⊢; omega
                  | false => rw [beq_eq_false_iff_ne] at h ⊢; omega
                rw [h2]; rfl
            · rw [c1] at e1; rw [c2] at e2; rw [c3] at e3; rw [c4] at e4; rw [c5] at e5
              clear c1 c2 c3 c4 c5 cE cT
              go_enter Tryd.func11, Tryd.ntmps11
              go_wp2
              go_ret
              exact ⟨rfl, rfl⟩
          · rw [c1] at e1; rw [c2] at e2; rw [c3] at e3; rw [c4] at e4
            clear c1 c2 c3 c4 cE cT e5
            go_enter Tryd.func11, Tryd.ntmps11
            go_wp2
            go_ret
            exact ⟨rfl, rfl⟩
        · rw [c1] at e1; rw [c2] at e2; rw [c3] at e3
          clear c1 c2 c3 cE cT e5 e4
          go_enter Tryd.func11, Tryd.ntmps11
          go_wp2
          go_ret
          exact ⟨rfl, rfl⟩
      · rw [c1] at e1; rw [c2] at e2
        clear c1 c2 cE cT e5 e4 e3
        go_enter Tryd.func11, Tryd.ntmps11
        go_wp2
        go_ret
        exact ⟨rfl, rfl⟩
    · rw [c1] at e1
      clear c1 cE cT e5 e4 e3 e2
      go_enter Tryd.func11, Tryd.ntmps11
      go_wp2
      go_ret
      exact ⟨rfl, rfl⟩

/-! ### two slices of the same strings -/
set_option maxHeartbeats 1000000 in
set_option maxRecDepth 100000 in
theorem same_c (a1 a2 : Option Addr) (g1 o1 c1 g2 o2 c2 : Nat) (ys : List (List UInt8)) (w : World) (hl : ys.length ≤ 1000000000) (h1 : Strs w a1 g1 o1 ys) (h2 : Strs w a2 g2 o2 ys) :
    Calls Tryd.prog 9 #[.slice a1 ys.length c1, .slice a2 ys.length c2] w fun e w' => e = .returned (.bool true) ∧ ∃ k, w' = w.drewN k := by
  have H1 := hid h1
  have H2 := hid h2
  clear h1 h2
  obtain ⟨n, hn⟩ : ∃ n, ys.length = n := ⟨_, rfl⟩
  have HN := hid hn
  rw [hn] at hl ⊢
  clear hn
  go_enter Tryd.func9, Tryd.ntmps9
  go_wp2
  go_loopg [5] n (fun gk i wx => ∃ k : Nat, k + gk = n ∧ i = .int .i64 k ∧ ∃ q, wx = w.drewN q)
  case atStart => exact ⟨0, by omega, rfl, 0, rfl⟩
  case round =>
    obtain ⟨k, hk, rfl, q, rfl⟩ := hrel
    cases gk with
    | zero =>
      have hkn : ¬ ((k : Int) < (n : Int)) := by omega
      go_wp2
      go_ret
      exact ⟨rfl, q, rfl⟩
    | succ gk =>
      have hkn : (k : Int) < (n : Int) := by omega
      obtain ⟨y, hy⟩ : ∃ y, ys[k]? = some y := ⟨_, List.getElem?_eq_getElem (by have := HN.out; omega)⟩
      have hc1 : w.cell? ⟨g1, o1 + k, none⟩ = some (strV y) := H1.out.cell k y hy
      have hc2 : w.cell? ⟨g2, o2 + k, none⟩ = some (strV y) := H2.out.cell k y hy
      have ha1 := H1.out.at' (by have := HN.out; omega)
      have ha2 := H2.out.at' (by have := HN.out; omega)
      subst ha1
      subst ha2
      clear hy
      go_wp2
      go_quiet (fail)
      go_wp2
      go_roundg gk
      case measure => omega
      case rel => exact ⟨k + 1, by omega, by go_num, _, rfl⟩

/-! ### the copy -/
theorem Tryd.info9 : (Tryd.prog.info? 9).map (fun i => (i.zero, i.size, i.bytes)) = some (some (.string ByteArray.empty), 1, 16) := by kernel_rfl
theorem Tryd.info5 : (Tryd.prog.info? 5).map (fun i => (i.zero, i.size, i.bytes)) = some (some (.int .u8 0), 1, 1) := by kernel_rfl
theorem take_set_succ {α : Type} (bs ts : List α) (k : Nat) (c : α) (hk : k < bs.length) (hc : ts[k]? = some c) (h : bs.take k = ts.take k) : (bs.set k c).take (k + 1) = ts.take (k + 1) := by
  have h1 : k < ts.length := (List.getElem?_eq_some_iff.1 hc).1
  have h2 : ts[k] = c := (List.getElem?_eq_some_iff.1 hc).2
  rw [List.take_succ_eq_append_getElem (by simpa using hk), List.take_succ_eq_append_getElem h1, List.take_set_of_le (Nat.le_refl _), h, List.getElem_set_self, h2]
theorem stored_strs {w : World} {B g n cap : Nat} {ys : List (List UInt8)} (h : w.ownsRow B 9 1 (.slice (some ⟨g, 0, none⟩) n cap) n (ys.map strV)) (k : Nat) (c : List UInt8) :
    (w.setCell ⟨g, k, none⟩ (strV c)).ownsRow B 9 1 (.slice (some ⟨g, 0, none⟩) n cap) n ((ys.set k c).map strV) := by
  have := (h.stored k (strV c)).1
  rwa [← List.map_set] at this
/-- What the copy leaves. -/
def ClonePost (ys : List (List UInt8)) (w : World) (e : Ending) (w' : World) : Prop :=
  ∃ v, e = .returned v ∧ w'.ownsRow w.heap.size 9 1 v ys.length (ys.map strV) ∧ Below w.heap.size w w'

set_option maxHeartbeats 1000000 in
set_option maxRecDepth 100000 in
theorem clone_nil (w : World) : Calls Tryd.prog 12 #[.slice none 0 0] w (ClonePost [] w) := by
  have hnil := fun w : World => Lib.run_eql_slice_nil (P := Tryd.prog) w 23 9 none 0 0 0 0 Tryd.underlying23
  go_enter Tryd.func12, Tryd.ntmps12
  go_wp2
  go_ret
  exact ⟨_, rfl, World.ownsRow_nil _ _ _ _, Below.refl _ _⟩

set_option maxHeartbeats 2000000 in
set_option maxRecDepth 100000 in
theorem clone_some (a : Addr) (g o c : Nat) (ys : List (List UInt8)) (w : World) (hl : ys.length ≤ 1000000000) (hg : 0 < ys.length → g < w.heap.size) (h : Strs w (some a) g o ys) : Calls Tryd.prog 12 #[.slice (some a) ys.length c] w (ClonePost ys w) := by
  have H := hid h
  have HG := hid hg
  clear h hg
  obtain ⟨n, hn⟩ : ∃ n, ys.length = n := ⟨_, rfl⟩
  have HN := hid hn
  rw [hn] at hl ⊢
  clear hn
  obtain ⟨i0, hi, hz0, hz1, hz2⟩ := info_parts Tryd.info9
  have hnil := fun w : World => Lib.run_eql_slice_nil (P := Tryd.prog) w 23 9 (some a) n c 0 0 Tryd.underlying23
  go_enter Tryd.func12, Tryd.ntmps12
  go_wp2_with (at_make; refine wpList_make_full _ rfl _ _ 23 rfl w.heap.size 9 i0 (.string ByteArray.empty) 1 Tryd.underlying23 hi hz0 hz1 .i64 .i64 _ _ n rfl rfl rfl rfl (by rw [hz2]; omega) (by unfold maxLen; omega) (Nat.le_refl _) ?_; intro w1 hown hgrow)
  have hown0 : w1.ownsRow w.heap.size 9 1 (.slice (some ⟨w.heap.size, 0, none⟩) n n) n ((List.replicate n ([] : List UInt8)).map strV) := by
    have e : (madeCells (Value.string ByteArray.empty).cells (n * 1)).toList = (List.replicate n ([] : List UInt8)).map strV := by
      rw [Nat.mul_one, show (Value.string ByteArray.empty).cells = #[Value.string ByteArray.empty] from rfl, toList_madeCells_one, List.map_replicate]; rfl
    rw [e] at hown; exact hown
  have hb0 : Below w.heap.size w w1 := (Below.refl _ _).grown hgrow (Nat.le_refl _) (fun _ h => by cases h)
  clear hown hgrow
  go_loopg [4] n (fun gk i wx => ∃ (k : Nat) (bs : List (List UInt8)), k + gk = n ∧ i = .int .i64 k ∧ bs.length = n ∧ bs.take k = ys.take k ∧
      wx.ownsRow w.heap.size 9 1 (.slice (some ⟨w.heap.size, 0, none⟩) n n) n (bs.map strV) ∧ Below w.heap.size w wx)
  case atStart => exact ⟨0, _, by omega, rfl, by simp, by simp, hown0, hb0⟩
  case round =>
    obtain ⟨k, bs, hk, rfl, hlen, htk, hown, hb⟩ := hrel
    have HL := hid hlen
    have HT := hid htk
    have HO := hid hown
    have HB := hid hb
    clear hlen htk hown hb hown0 hb0
    cases gk with
    | zero =>
      have hkn : ¬ ((k : Int) < (n : Int)) := by omega
      have hfin : bs = ys := by
        have h1 := HT.out
        have h2 := HN.out
        have h3 := HL.out
        rwa [List.take_of_length_le (by omega), List.take_of_length_le (by omega)] at h1
      have HFIN := hid hfin
      clear hfin
      go_wp2
      go_ret
      refine ⟨_, rfl, ?_, HB.out⟩
      rw [← HFIN.out, HL.out]
      exact HO.out
    | succ gk =>
      have hkn : (k : Int) < (n : Int) := by omega
      obtain ⟨y, hy⟩ : ∃ y, ys[k]? = some y := ⟨_, List.getElem?_eq_getElem (by have := HN.out; omega)⟩
      have hc1 : wr.cell? ⟨g, o + k, none⟩ = some (strV y) := (HB.out.cell (p := ⟨g, o + k, none⟩) (HG.out (by have := HN.out; omega))).trans (H.out.cell k y hy)
      have ha := Option.some.inj (H.out.at' (by have := HN.out; omega))
      subst ha
      have hfz := HO.out.frozenAt k
      obtain ⟨v, hcl⟩ : ∃ v, wr.cell? ⟨w.heap.size, k, none⟩ = some v := ⟨_, by rw [HO.out.cellAt k (by omega), List.getElem?_map, List.getElem?_eq_getElem (by have := HL.out; omega)]; rfl⟩
      have HE := hid (show (bs.set k y).length = n ∧ (bs.set k y).take (k + 1) = ys.take (k + 1) ∧ (wr.setCell ⟨w.heap.size, k, none⟩ (strV y)).ownsRow w.heap.size 9 1 (.slice (some ⟨w.heap.size, 0, none⟩) n n) n ((bs.set k y).map strV) ∧ Below w.heap.size w (wr.setCell ⟨w.heap.size, k, none⟩ (strV y)) from
        ⟨by rw [List.length_set]; exact HL.out, take_set_succ _ _ _ _ (by have := HL.out; omega) hy HT.out, stored_strs HO.out k _, HB.out.setCell (Nat.le_refl _) _⟩)
      clear hy
      go_wp2
      go_roundg gk
      case measure => omega
      case rel => exact ⟨k + 1, bs.set k y, by omega, by go_num, HE.out.1, HE.out.2.1, HE.out.2.2.1, HE.out.2.2.2⟩

/-- A row of the call's own, as a slice of strings. -/
theorem strs_of {w : World} {B : Nat} {v : Value} {ys : List (List UInt8)} (h : w.ownsRow B 9 1 v ys.length (ys.map strV)) : ∃ a g c, v = .slice a ys.length c ∧ Strs w a g 0 ys ∧ (0 < ys.length → B ≤ g ∧ g < w.heap.size) := by
  rcases h.2 with ⟨h1, h2⟩ | ⟨g, cap, cur, hv, hb, hg, h1, h2, _⟩
  · refine ⟨none, 0, 0, by rw [h1, h2], ⟨fun h => by omega, fun j y hy => ?_⟩, fun h => by omega⟩
    have := (List.getElem?_eq_some_iff.1 hy).1
    omega
  · subst hv
    refine ⟨_, g, cap, rfl, ⟨fun _ => rfl, fun j y hy => ?_⟩, fun _ => h.lt g rfl⟩
    have hj : j < ys.length := (List.getElem?_eq_some_iff.1 hy).1
    rw [Nat.zero_add, h.cellAt j (by omega), List.getElem?_map, hy]; rfl
end Go.Proofs.Qxb6606350aDoor
