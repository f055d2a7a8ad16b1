/-
  The kit's plain functions (index, replaceAll, indexAny) at what this program asks of them.
-/
import Derived.Test.Qxb6613956aFmtPlain
import Derived.Lib.Replace
import Derived.Lib.IndexAny
import Derived.Lib.Bytes
namespace Go.Proofs.Qxb6613956aFmt

theorem ib_not {l : List UInt8} {c : UInt8} (h : c ∉ l) : Lib.indexByte l c = -1 := by
  induction l with
  | nil => rfl
  | cons b t ih =>
    rw [List.mem_cons, not_or] at h
    have hb : (b == c) = false := by simpa using Ne.symm h.1
    simp [Lib.indexByte, hb, ih h.2]
theorem ib_at (p t : List UInt8) {c : UInt8} (h : c ∉ p) : Lib.indexByte (p ++ c :: t) c = p.length := by
  induction p with
  | nil => simp [Lib.indexByte]
  | cons b p ih =>
    rw [List.mem_cons, not_or] at h
    have hb : (b == c) = false := by simpa using Ne.symm h.1
    rw [List.cons_append, Lib.indexByte, hb, ih h.2]
    have : ((p.length : Int) == -1) = false := by rw [beq_eq_false_iff_ne]; omega
    simp [this]
/-- A list that holds c, cut at its first. -/
theorem cut_at {l : List UInt8} {c : UInt8} (h : c ∈ l) : ∃ p t, l = p ++ c :: t ∧ c ∉ p := by
  induction l with
  | nil => simp at h
  | cons b t ih =>
    by_cases hb : b = c
    · exact ⟨[], t, by rw [hb]; rfl, by simp⟩
    · obtain ⟨p, t', h1, h2⟩ := ih (by simpa [Ne.symm hb] using h)
      exact ⟨b :: p, t', by rw [h1]; rfl, by simp [Ne.symm hb, h2]⟩
theorem dbl_go (n : Nat) : ∀ s : List UInt8, s.length ≤ n → Lib.replaceK [34] [34, 34] (Lib.count s [34]) s = dbl s := by
  induction n with
  | zero =>
    intro s hs
    obtain rfl : s = [] := List.eq_nil_of_length_eq_zero (by omega)
    rw [Lib.count_miss (by rw [Lib.index_one]; rfl)]
    rfl
  | succ n ih =>
    intro s hs
    by_cases h : (34 : UInt8) ∈ s
    · obtain ⟨p, t, rfl, hp⟩ := cut_at h
      have hx : Lib.index (p ++ 34 :: t) [34] = p.length := by rw [Lib.index_one]; exact ib_at p t hp
      have hd : (p ++ 34 :: t).drop (p.length + [(34 : UInt8)].length) = t := by
        rw [List.drop_append]; simp
      rw [Lib.count_hit (by simp) hx, Nat.add_comm 1, Lib.replaceK_hit _ _ _ _ _ hx, hd, ih t (by simp at hs; omega), dbl_append, dbl_plain hp]
      simp [dbl]
    · rw [Lib.count_miss (by rw [Lib.index_one]; exact ib_not h), Lib.replaceK, dbl_plain h]
theorem replace_dbl (s : List UInt8) : Lib.replaceAll s [34] [34, 34] = dbl s := by
  unfold Lib.replaceAll Lib.replace
  rw [if_neg (by decide), Lib.replaceNum, if_pos (Or.inl (by decide))]
  exact dbl_go _ s (Nat.le_refl _)
theorem count_le (s : List UInt8) : Lib.count s [34] ≤ s.length := by
  have go : ∀ n, ∀ s : List UInt8, s.length ≤ n → Lib.count s [34] ≤ s.length := by
    intro n
    induction n with
    | zero =>
      intro s hs
      obtain rfl : s = [] := List.eq_nil_of_length_eq_zero (by omega)
      rw [Lib.count_miss (by rw [Lib.index_one]; rfl)]
      exact Nat.le_refl _
    | succ n ih =>
      intro s hs
      by_cases h : (34 : UInt8) ∈ s
      · obtain ⟨p, t, rfl, hp⟩ := cut_at h
        have hx : Lib.index (p ++ 34 :: t) [34] = p.length := by rw [Lib.index_one]; exact ib_at p t hp
        have hd : (p ++ 34 :: t).drop (p.length + [(34 : UInt8)].length) = t := by
          rw [List.drop_append]; simp
        have := ih t (by simp at hs; omega)
        rw [Lib.count_hit (by simp) hx, hd]
        simp
        omega
      · rw [Lib.count_miss (by rw [Lib.index_one]; exact ib_not h)]
        omega
  exact go _ s (Nat.le_refl _)
theorem any_quo (f : List UInt8) : decide (0 ≤ Lib.indexAny f [44, 34, 13, 10]) = f.any (fun c => c == 44 || c == 34 || c == 13 || c == 10) := by
  induction f with
  | nil => rfl
  | cons b t ih =>
    have hge := Lib.indexAny_ge [44, 34, 13, 10] t
    rw [List.any_cons, ← ih, Lib.indexAny]
    by_cases h : ([44, 34, 13, 10] : List UInt8).contains b = true
    · rw [if_pos h]
      have h2 : (b == 44 || b == 34 || b == 13 || b == 10) = true := by
        simpa [List.contains_cons, Bool.or_assoc] using h
      rw [h2]
      rfl
    · rw [if_neg h]
      have h2 : (b == 44 || b == 34 || b == 13 || b == 10) = false := by
        have h3 : ([44, 34, 13, 10] : List UInt8).contains b = false := by simpa using h
        simpa [List.contains_cons, Bool.or_assoc] using h3
      rw [h2, Bool.false_or]
      by_cases h3 : Lib.indexAny t [44, 34, 13, 10] = -1
      · rw [h3]; rfl
      · have h4 : (Lib.indexAny t [44, 34, 13, 10] == -1) = false := by simpa using h3
        rw [h4]
        simp only [Bool.false_eq_true, if_false]
        rw [decide_eq_decide]
        omega
/-- The numbers of a list of bytes. -/
def nums (l : List UInt8) : List Int := l.map fun b => (b.toNat : Int)
theorem nums_length (l : List UInt8) : (nums l).length = l.length := by simp [nums]
theorem bytesOf_nums (l : List UInt8) : Lib.bytesOf (nums l) = l := by
  induction l with
  | nil => rfl
  | cons b t ih =>
    simp only [nums, Lib.bytesOf, List.map_cons] at ih ⊢
    rw [ih]
    simp
theorem nums_range (l : List UInt8) : ∀ x ∈ nums l, 0 ≤ x ∧ x < 256 := by
  intro x hx
  simp only [nums, List.mem_map] at hx
  obtain ⟨b, _, rfl⟩ := hx
  have := b.toNat_lt
  omega
end Go.Proofs.Qxb6613956aFmt
