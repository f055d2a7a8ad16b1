/-
  The plain law: the text that Write lays, and how it falls into lines and fields again. No Go in sight.
-/
namespace Go.Proofs.Qxb6613956aFmt

/-- The line that x begins with, its line feed included. -/
def ln : List UInt8 → List UInt8
  | [] => []
  | c :: t => if c = 10 then [10] else c :: ln t
/-- What follows that line. -/
def rs : List UInt8 → List UInt8
  | [] => []
  | c :: t => if c = 10 then t else rs t
theorem ln_rs (x : List UInt8) : ln x ++ rs x = x := by
  induction x with
  | nil => rfl
  | cons c t ih =>
    by_cases h : c = 10
    · simp [ln, rs, h]
    · simp [ln, rs, h, ih]
theorem ln_cons {c : UInt8} (h : c ≠ 10) (t : List UInt8) : ln (c :: t) = c :: ln t := by simp [ln, h]
theorem rs_cons {c : UInt8} (h : c ≠ 10) (t : List UInt8) : rs (c :: t) = rs t := by simp [rs, h]
theorem ln_append {p : List UInt8} (h : (10 : UInt8) ∉ p) (x : List UInt8) : ln (p ++ x) = p ++ ln x := by
  induction p with
  | nil => rfl
  | cons c t ih =>
    rw [List.mem_cons, not_or] at h
    rw [List.cons_append, ln_cons (Ne.symm h.1), ih h.2, List.cons_append]
theorem rs_append {p : List UInt8} (h : (10 : UInt8) ∉ p) (x : List UInt8) : rs (p ++ x) = rs x := by
  induction p with
  | nil => rfl
  | cons c t ih =>
    rw [List.mem_cons, not_or] at h
    rw [List.cons_append, rs_cons (Ne.symm h.1), ih h.2]
/-- A text that holds a line feed begins with a line that ends with it. -/
theorem ln_split {x : List UInt8} (h : (10 : UInt8) ∈ x) : ∃ l, ln x = l ++ [10] ∧ (10 : UInt8) ∉ l ∧ x = l ++ 10 :: rs x := by
  induction x with
  | nil => simp at h
  | cons c t ih =>
    by_cases hc : c = 10
    · subst hc
      exact ⟨[], by simp [ln], by simp, by simp [rs]⟩
    · obtain ⟨l, h1, h2, h3⟩ := ih (by simpa [Ne.symm hc] using h)
      refine ⟨c :: l, by rw [ln_cons hc, h1]; rfl, by simp [Ne.symm hc, h2], ?_⟩
      rw [rs_cons hc, List.cons_append, ← h3]

/-- Each double quote doubled. -/
def dbl : List UInt8 → List UInt8
  | [] => []
  | c :: t => if c = 34 then 34 :: 34 :: dbl t else c :: dbl t
theorem dbl_append (a b : List UInt8) : dbl (a ++ b) = dbl a ++ dbl b := by
  induction a with
  | nil => rfl
  | cons c t ih =>
    by_cases h : c = 34
    · simp [dbl, h, ih]
    · simp [dbl, h, ih]
theorem dbl_plain {p : List UInt8} (h : (34 : UInt8) ∉ p) : dbl p = p := by
  induction p with
  | nil => rfl
  | cons c t ih =>
    rw [List.mem_cons, not_or] at h
    simp [dbl, Ne.symm h.1, ih h.2]
theorem dbl_length (f : List UInt8) : (dbl f).length ≤ 2 * f.length := by
  induction f with
  | nil => simp [dbl]
  | cons c t ih =>
    by_cases h : c = 34
    · simp [dbl, h]; omega
    · simp [dbl, h]; omega

/-- The line feeds in a field. -/
def nls (f : List UInt8) : Nat := f.count 10
theorem nls_append (a b : List UInt8) : nls (a ++ b) = nls a + nls b := by simp [nls]
theorem nls_none {p : List UInt8} (h : (10 : UInt8) ∉ p) : nls p = 0 := by simpa [nls] using List.count_eq_zero.2 h

/-- A quoted field whose line holds no double quote: the line is the field's. -/
theorem q_none (f y : List UInt8) (h : (34 : UInt8) ∉ ln (dbl f ++ 34 :: y)) : ∃ g, f = ln (dbl f ++ 34 :: y) ++ g ∧ rs (dbl f ++ 34 :: y) = dbl g ++ 34 :: y ∧ nls f = nls g + 1 ∧ g.length < f.length := by
  induction f with
  | nil => simp [dbl, ln] at h
  | cons c t ih =>
    by_cases hc : c = 34
    · subst hc
      simp [dbl, ln] at h
    · by_cases hn : c = 10
      · subst hn
        exact ⟨t, by simp [dbl, ln], by simp [dbl, rs], by simp [nls], by simp⟩
      · have e1 : dbl (c :: t) ++ 34 :: y = c :: (dbl t ++ 34 :: y) := by simp [dbl, hc]
        rw [e1] at h ⊢
        rw [ln_cons hn, rs_cons hn] at *
        rw [List.mem_cons, not_or] at h
        obtain ⟨g, h1, h2, h3, h4⟩ := ih h.2
        refine ⟨g, by rw [List.cons_append, ← h1], h2, ?_, by simp; omega⟩
        rw [← h3]
        simp [nls, hn]
/-- A quoted field whose line holds one: what stands ahead of it is the field's, and it ends the field or is doubled. -/
theorem q_some (f y : List UInt8) (h : (34 : UInt8) ∈ ln (dbl f ++ 34 :: y)) : ∃ p g, f = p ++ g ∧ (34 : UInt8) ∉ p ∧ (10 : UInt8) ∉ p ∧ (g = [] ∨ ∃ g', g = 34 :: g') := by
  induction f with
  | nil => exact ⟨[], [], rfl, by simp, by simp, Or.inl rfl⟩
  | cons c t ih =>
    by_cases hc : c = 34
    · subst hc
      exact ⟨[], 34 :: t, rfl, by simp, by simp, Or.inr ⟨t, rfl⟩⟩
    · have e1 : dbl (c :: t) ++ 34 :: y = c :: (dbl t ++ 34 :: y) := by simp [dbl, hc]
      rw [e1] at h
      by_cases hn : c = 10
      · subst hn
        simp [ln] at h
      · rw [ln_cons hn] at h
        obtain ⟨p, g, h1, h2, h3, h4⟩ := ih (by simpa [Ne.symm hc] using h)
        exact ⟨c :: p, g, by rw [h1]; rfl, by simp [Ne.symm hc, h2], by simp [Ne.symm hn, h3], h4⟩

/-- Is a field written between double quotes? -/
def quo (one : Bool) (f : List UInt8) : Bool := f.any (fun c => c == 44 || c == 34 || c == 13 || c == 10) || (one && f.isEmpty)
/-- A field as it is written. -/
def encF (one : Bool) (f : List UInt8) : List UInt8 := if quo one f then 34 :: (dbl f ++ [34]) else f
/-- The fields behind the first, and the record's end. -/
def encT (one : Bool) : List (List UInt8) → List UInt8
  | [] => [13, 10]
  | f :: t => 44 :: (encF one f ++ encT one t)
/-- A record as it is written. -/
def encR : List (List UInt8) → List UInt8
  | [] => [13, 10]
  | f :: t => encF t.isEmpty f ++ encT t.isEmpty t
/-- What follows a field: a comma and something more, or the record's end. -/
theorem encT_ne (one : Bool) (t : List (List UInt8)) : encT one t ≠ [] := by cases t <;> simp [encT]
theorem quo_false {one : Bool} {f : List UInt8} (h : quo one f = false) : (44 : UInt8) ∉ f ∧ (34 : UInt8) ∉ f ∧ (13 : UInt8) ∉ f ∧ (10 : UInt8) ∉ f ∧ (one = true → f ≠ []) := by
  rw [quo, Bool.or_eq_false_iff, List.any_eq_false] at h
  refine ⟨fun m => ?_, fun m => ?_, fun m => ?_, fun m => ?_, fun o e => ?_⟩
  · exact h.1 _ m (by decide)
  · exact h.1 _ m (by decide)
  · exact h.1 _ m (by decide)
  · exact h.1 _ m (by decide)
  · rw [o, e] at h
    simp at h
/-- A record's first byte is no line break. -/
theorem encR_head (f : List UInt8) (t : List (List UInt8)) : ∃ c x, encR (f :: t) = c :: x ∧ c ≠ 13 ∧ c ≠ 10 := by
  simp only [encR, encF]
  cases hq : quo t.isEmpty f with
  | true => exact ⟨34, _, by rw [if_pos rfl]; rfl, by decide, by decide⟩
  | false =>
    obtain ⟨_, _, h3, h4, h5⟩ := quo_false hq
    cases f with
    | cons c x =>
      rw [List.mem_cons, not_or] at h3 h4
      exact ⟨c, _, by rw [if_neg (by simp)]; rfl, Ne.symm h3.1, Ne.symm h4.1⟩
    | nil =>
      cases t with
      | nil => exact absurd rfl (h5 rfl)
      | cons g t => exact ⟨44, _, by rw [if_neg (by simp)]; rfl, by decide, by decide⟩
theorem encT_nl (one : Bool) (t : List (List UInt8)) : (10 : UInt8) ∈ encT one t := by
  induction t with
  | nil => simp [encT]
  | cons f t ih => simp [encT, ih]
theorem encR_nl (r : List (List UInt8)) : (10 : UInt8) ∈ encR r := by
  cases r with
  | nil => simp [encR]
  | cons f t => simp [encR, encT_nl]
theorem encF_length (one : Bool) (f : List UInt8) : (encF one f).length ≤ 2 * f.length + 2 := by
  have := dbl_length f
  unfold encF
  split
  · simp; omega
  · omega
/-- How many bytes a record's fields hold, each counted with one more. -/
def wide (r : List (List UInt8)) : Nat := (r.map (fun f => f.length + 1)).sum
theorem encT_length (one : Bool) (t : List (List UInt8)) : (encT one t).length ≤ 3 * wide t + 2 := by
  induction t with
  | nil => simp [encT]
  | cons f t ih =>
    have := encF_length one f
    simp [encT, wide] at ih ⊢
    omega
theorem encR_length (r : List (List UInt8)) : (encR r).length ≤ 3 * wide r + 2 := by
  cases r with
  | nil => simp [encR]
  | cons f t =>
    have := encF_length t.isEmpty f
    have := encT_length t.isEmpty t
    simp [encR, wide] at *
    omega
/-- The line break at a line's end, cut off. -/
def cutEnd (c : UInt8) (l : List UInt8) : List UInt8 := if l.getLast? = some c then l.dropLast else l
def tb (l : List UInt8) : List UInt8 := cutEnd 13 (cutEnd 10 l)
theorem cutEnd_snoc (c : UInt8) (l : List UInt8) : cutEnd c (l ++ [c]) = l := by simp [cutEnd]
theorem cutEnd_none {c : UInt8} {l : List UInt8} (h : c ∉ l) : cutEnd c l = l := by
  unfold cutEnd
  split
  · rename_i e
    exact absurd (List.mem_of_getLast? e) h
  · rfl
theorem tb_crlf (l : List UInt8) : tb (l ++ [13, 10]) = l := by
  have e : l ++ [13, 10] = (l ++ [13]) ++ [10] := by simp
  rw [tb, e, cutEnd_snoc, cutEnd_snoc]
theorem cutEnd_head {c d : UInt8} (h : d ≠ c) (l : List UInt8) : ∃ x, cutEnd c (d :: l) = d :: x := by
  unfold cutEnd
  split
  · cases l with
    | nil => rename_i e; simp at e; exact absurd e h
    | cons a t => exact ⟨_, List.dropLast_cons_of_ne_nil (by simp)⟩
  · exact ⟨_, rfl⟩
theorem tb_head {d : UInt8} (h1 : d ≠ 13) (h2 : d ≠ 10) (l : List UInt8) : ∃ x, tb (d :: l) = d :: x := by
  obtain ⟨x, hx⟩ := cutEnd_head h2 l
  rw [tb, hx]
  exact cutEnd_head h1 x
end Go.Proofs.Qxb6613956aFmt
