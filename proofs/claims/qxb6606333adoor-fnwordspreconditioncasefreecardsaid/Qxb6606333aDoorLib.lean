/-
  The library's functions on the road, by the shelf's contracts, in this dump's numbers.
-/
import Derived.Test.Qxb6606333aDoorWalkA
import Derived.Test.Qxb6606333aDoorShelf
import Derived.Lib.LaidTab
import Derived.Lib.MapU
import Derived.Lib.SplitLaws
namespace Go.Proofs.Qxb6606333aDoor
open Go.RowKit Go.Shelf

theorem Tryd.extra159 : Builder.Extra Tryd.prog Tryd.lays159_ren := {
  sizeBuilder := by kernel_rfl
  liesBuilder := by kernel_rfl
  t5 := Tryd.lays159.t5
  a5 := Tryd.lays159.a5
  z5 := Tryd.lays159.z5
  v5 := Tryd.lays159.v5
  infoByte := by kernel_rfl
  cellsByte := by kernel_rfl
  sizeByte := by kernel_rfl
  neB5 := by decide }
theorem Tryd.extra158 : Builder.Extra Tryd.prog Tryd.lays158_ren := {
  sizeBuilder := by kernel_rfl
  liesBuilder := by kernel_rfl
  t5 := Tryd.lays158.t5
  a5 := Tryd.lays158.a5
  z5 := Tryd.lays158.z5
  v5 := Tryd.lays158.v5
  infoByte := by kernel_rfl
  cellsByte := by kernel_rfl
  sizeByte := by kernel_rfl
  neB5 := by decide }

/-- THE VARIABLES OF THE LIBRARY's AS THEIR INITIALISERS LAY THEM (MaxLen: some int). -/
def Tabs (w : World) : Prop :=
  Lib.TabIs Tryd.prog w "strings.asciiSpace" .u8 Lib.asciiSpaceTab ∧ Lib.Utf8Tabs 4 5 w ∧ Lib.WhiteTab 1 w ∧ Lib.CaseVar 3 Lib.caseA w ∧ ∃ m, w.cell? ⟨2, 0, none⟩ = some (.int .i64 m)

theorem trim_c (s : ByteArray) (w : World) (hs : s.size ≤ 1000000000) (hT : Tabs w) :
    Calls Tryd.prog 15 #[.string s] w fun e w' => e = .returned (.string ⟨(Lib.trimSpaceD s.data.toList).toArray⟩) ∧ Below w.heap.size w w' :=
  Any.strings_TrimSpace_any Tryd.lays163 ⟨by kernel_rfl⟩ s w (by omega) hT.1 hT.2.1 hT.2.2.1
theorem lower_c (s : ByteArray) (w : World) (hs : s.size ≤ 4000000000) (hT : Tabs w) :
    Calls Tryd.prog 16 #[.string s] w fun e w' => e = .returned (.string ⟨(Lib.toLowerD s.data.toList).toArray⟩) ∧ Below w.heap.size w w' :=
  Any.strings_ToLower_any Tryd.lays159 Tryd.extra159 s w (by omega) hT.2.2.2.1 hT.2.1
theorem upper_c (s : ByteArray) (w : World) (hs : s.size ≤ 4000000000) (hT : Tabs w) :
    Calls Tryd.prog 19 #[.string s] w fun e w' => e = .returned (.string ⟨(Lib.toUpperD s.data.toList).toArray⟩) ∧ Below w.heap.size w w' :=
  Any.strings_ToUpper_any Tryd.lays158 Tryd.extra158 s w (by omega) hT.2.2.2.1 hT.2.1
theorem cut_c (s sep : ByteArray) (w : World) (hs : s.size ≤ 1000000000) (hT : Tabs w) :
    Calls Tryd.prog 14 #[.string s, .string sep] w fun e w' => e = .returned (.tuple #[.string ⟨(Lib.cut s.data.toList sep.data.toList).1.toArray⟩, .string ⟨(Lib.cut s.data.toList sep.data.toList).2.1.toArray⟩, .bool (Lib.cut s.data.toList sep.data.toList).2.2]) ∧ ∃ n, w' = w.drewN n := by
  obtain ⟨m, hm⟩ := hT.2.2.2.2
  exact Any.strings_Cut Tryd.lays145 s sep m w (by omega) hm
theorem fields_c (s : ByteArray) (w : World) (hs : s.size ≤ 1000000000) (hT : Tabs w) :
    Calls Tryd.prog 13 #[.string s] w fun e w' => ∃ A, e = .returned (.slice (some ⟨A, 0, none⟩) (Lib.fieldsD s.data.toList).length (Lib.fieldsD s.data.toList).length) ∧ w.heap.size ≤ A ∧
      w'.ownsRow w.heap.size 9 1 (.slice (some ⟨A, 0, none⟩) (Lib.fieldsD s.data.toList).length (Lib.fieldsD s.data.toList).length) (Lib.fieldsD s.data.toList).length ((Lib.fieldsD s.data.toList).map fun x => Value.string ⟨x.toArray⟩) ∧ Below w.heap.size w w' :=
  Any.strings_Fields_any Tryd.lays157 (by kernel_rfl) (by kernel_rfl) (by kernel_rfl) s w (by omega) hT.1 hT.2.2.1

theorem cell_lt {w : World} {a : Addr} {v : Value} (h : w.cell? a = some v) : a.block < w.heap.size := World.block_lt_of_cell? w a h
theorem tab_below {w w' : World} {zs : List Int} (h : Lib.TabIs Tryd.prog w "strings.asciiSpace" .u8 zs) (hb : Below w.heap.size w w') : Lib.TabIs Tryd.prog w' "strings.asciiSpace" .u8 zs := by
  have hgn : Tryd.prog.globalNamed "strings.asciiSpace" = some 0 := by kernel_rfl
  unfold Lib.TabIs World.var? at h ⊢
  rw [hgn] at h ⊢
  simp only [Option.bind_some] at h ⊢
  have hlt : 0 < w.heap.size := by
    rcases Nat.lt_or_ge 0 w.heap.size with h' | h'
    · exact h'
    · rw [Array.getElem?_eq_none h'] at h; cases h
  rw [hb.block 0 hlt]
  exact h
theorem tabs_below {w w' : World} (h : Tabs w) (hb : Below w.heap.size w w') : Tabs w' :=
  ⟨tab_below h.1 hb, Utf8Tabs_below h.2.1 hb, WhiteTab_below h.2.2.1 hb, Lib.CaseVar_below h.2.2.2.1 hb, by
    obtain ⟨m, hm⟩ := h.2.2.2.2
    exact ⟨m, (hb.cell (p := ⟨2, 0, none⟩) (cell_lt hm)).trans hm⟩⟩
theorem tabs_drewN {w : World} (h : Tabs w) (n : Nat) : Tabs (w.drewN n) := h

theorem splitB_sizes (sep : ByteArray) (save : Nat) : ∀ (k : Nat) (s : ByteArray), ∀ x ∈ Lib.splitB sep save k s, x.size ≤ s.size
  | 0, s, x, hx => by simp only [Lib.splitB, List.mem_singleton] at hx; rw [hx]; exact Nat.le_refl _
  | k + 1, s, x, hx => by
    simp only [Lib.splitB] at hx
    split at hx
    · simp only [List.mem_singleton] at hx; rw [hx]; exact Nat.le_refl _
    · rcases List.mem_cons.1 hx with rfl | hx
      · rw [ByteArray.size_extract]; omega
      · have := splitB_sizes sep save k _ x hx
        rw [ByteArray.size_extract] at this
        omega
theorem ba_back (l : List ByteArray) : (l.map (·.data.toList)).map (fun x => Value.string ⟨x.toArray⟩) = l.map Value.string := by
  rw [List.map_map]
  apply List.map_congr_left
  intro x _
  simp
theorem split_c (s sep : ByteArray) (w : World) (hs : s.size ≤ 100000000) (h1 : 1 ≤ sep.size) (hT : Tabs w) :
    Calls Tryd.prog 17 #[.string s, .string sep] w fun e w' => ∃ es : List (List UInt8), 1 ≤ es.length ∧ es.length ≤ s.size + 1 ∧ (∀ x ∈ es, x.length ≤ s.size) ∧
      e = .returned (.slice (some ⟨w.heap.size, 0, none⟩) es.length es.length) ∧ w'.ownsRow w.heap.size 9 1 (.slice (some ⟨w.heap.size, 0, none⟩) es.length es.length) es.length (es.map fun x => Value.string ⟨x.toArray⟩) ∧ Below w.heap.size w w' := by
  obtain ⟨m, hm⟩ := hT.2.2.2.2
  refine (Any.strings_Split Tryd.lays146 (by kernel_rfl) s sep m w (by omega) hm h1).mono fun e w' ⟨he, hw⟩ => ?_
  have hlen := Lib.splitB_all sep h1 0 _ s rfl
  have hle := Lib.countB_le sep h1 s.size s (Nat.le_refl _)
  refine ⟨(Lib.splitB sep 0 (Lib.countB s sep) s).map (·.data.toList), by rw [List.length_map, hlen]; omega, by rw [List.length_map, hlen]; omega, ?_, ?_, ?_, ?_⟩
  · intro x hx
    obtain ⟨y, hy, rfl⟩ := List.mem_map.1 hx
    rw [← Lib.size_eq]
    exact splitB_sizes sep 0 _ s y hy
  · rw [List.length_map, hlen]; exact he
  · rw [ba_back, List.length_map, hlen, hw]
    have := World.ownsRow_lit (e := 9) (size := 1) w ((Lib.splitB sep 0 (Lib.countB s sep) s).map Value.string).toArray (Lib.countB s sep + 1) (Nat.le_refl _) (by unfold maxLen; omega) (by simp [hlen])
    exact this
  · rw [hw]; exact (Below.refl _ _).alloc (Nat.le_refl _) _

end Go.Proofs.Qxb6606333aDoor
