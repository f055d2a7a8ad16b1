/-
  THE PLAIN FUNCTIONS AND LAWS (no Go in sight): logical lines of a text whose lines end in LF each; what the two laws' texts read as.
-/
import Derived.Lib.SlTrimSet
import Derived.Lib.TrimByte
import Derived.Lib.IndexAny
namespace Go.Proofs.Qxb6606350aDoor

/-- No byte is CR or LF. -/
def NoEnd (l : List UInt8) : Prop := ∀ x ∈ l, x ≠ 13 ∧ x ≠ 10
/-- The lines, an LF behind each. -/
def flat : List (List UInt8) → List UInt8
  | [] => []
  | l :: r => l ++ (10 :: flat r)
/-- Without the leading blanks. -/
def trimL (l : List UInt8) : List UInt8 := Lib.trimLeftS l [32, 9, 12]
/-- How many backslashes end it. -/
def tbs (l : List UInt8) : Nat := l.length - (Lib.trimRightB l 92).length
/-- Blank, or a comment (its leading blanks are gone already). -/
def note : List UInt8 → Bool
  | [] => true
  | x :: _ => x == 35 || x == 33

structure St where
  cont : Bool
  log : List UInt8
  acc : List (List UInt8)
/-- What one natural line turns. -/
def step (s : St) (l : List UInt8) : St :=
  if s.cont = false ∧ note (trimL l) = true then s
  else if tbs (trimL l) % 2 = 1 then ⟨true, s.log ++ (trimL l).dropLast, s.acc⟩
  else ⟨false, [], s.acc ++ [s.log ++ trimL l]⟩
def fin (s : St) : List (List UInt8) := if s.cont = true then s.acc ++ [s.log] else s.acc
def logical (s : St) (ls : List (List UInt8)) : List (List UInt8) := fin (ls.foldl step s)

theorem logical_cons (s : St) (l : List UInt8) (ls : List (List UInt8)) : logical s (l :: ls) = logical (step s l) ls := rfl
theorem flat_append (a b : List (List UInt8)) : flat (a ++ b) = flat a ++ flat b := by
  induction a with
  | nil => rfl
  | cons x r ih => simp [flat, ih]

/-! ### trailing backslashes -/
theorem tbs_eq (l : List UInt8) : tbs l = (l.reverse.takeWhile (· == 92)).length := by
  unfold tbs Lib.trimRightB
  have h := congrArg List.length (List.takeWhile_append_dropWhile (p := (· == (92 : UInt8))) (l := l.reverse))
  simp only [List.length_append, List.length_reverse] at h ⊢
  omega
theorem tbs_le (l : List UInt8) : tbs l ≤ l.length := Nat.sub_le _ _
theorem tbs_snoc (l : List UInt8) : tbs (l ++ [92]) = tbs l + 1 := by
  rw [tbs_eq, tbs_eq, List.reverse_append]
  simp
theorem tbs_cons (x : UInt8) (l : List UInt8) (h : x ≠ 92) : tbs (x :: l) = tbs l := by
  rw [tbs_eq, tbs_eq, List.reverse_cons, List.takeWhile_append]
  split
  · rename_i h1
    simp only [List.length_append]
    have : List.takeWhile (· == (92 : UInt8)) [x] = [] := by simp [List.takeWhile, beq_eq_false_iff_ne.2 h]
    rw [this]; simp
    rw [h1]; simp
  · rfl
theorem tbs_trim (l : List UInt8) : tbs (trimL l) = tbs l := by
  induction l with
  | nil => rfl
  | cons x r ih =>
    unfold trimL Lib.trimLeftS
    rw [List.dropWhile_cons]
    split
    · rename_i h
      have hx : x ≠ 92 := by
        intro e; subst e; revert h; decide
      rw [tbs_cons x r hx]
      exact ih
    · rfl
theorem trim_snoc (l : List UInt8) : trimL (l ++ [92]) = trimL l ++ [92] := by
  unfold trimL Lib.trimLeftS
  rw [List.dropWhile_append]
  split
  · rename_i h
    rw [List.isEmpty_iff] at h
    rw [h]
    decide
  · rfl
theorem trim_len (l : List UInt8) : (trimL l).length ≤ l.length := by
  unfold trimL Lib.trimLeftS
  exact List.Sublist.length_le (List.dropWhile_sublist _)

/-! ### the law of the joined pieces -/
/-- The natural lines of the pieces: a backslash behind each but the last. -/
def linesOf : List (List UInt8) → List (List UInt8)
  | [] => []
  | [p] => [p]
  | p :: q :: r => (p ++ [92]) :: linesOf (q :: r)
/-- The pieces, trimmed, one behind the other. -/
def wantOf : List (List UInt8) → List UInt8
  | [] => []
  | p :: r => trimL p ++ wantOf r

theorem step_cont (s : St) (p : List UInt8) (hc : s.cont = true ∨ note (trimL (p ++ [92])) = false) (he : tbs p % 2 = 0) : step s (p ++ [92]) = ⟨true, s.log ++ trimL p, s.acc⟩ := by
  unfold step
  rw [if_neg (by rcases hc with h | h <;> simp [h]), tbs_trim, tbs_snoc, if_pos (by omega), trim_snoc, List.dropLast_concat]
theorem step_last (s : St) (p : List UInt8) (hc : s.cont = true ∨ note (trimL p) = false) (he : tbs p % 2 = 0) : step s p = ⟨false, [], s.acc ++ [s.log ++ trimL p]⟩ := by
  unfold step
  rw [if_neg (by rcases hc with h | h <;> simp [h]), tbs_trim, if_neg (by omega)]
theorem joins_cont : ∀ (ps : List (List UInt8)) (log : List UInt8) (acc : List (List UInt8)), ps ≠ [] → (∀ p ∈ ps, tbs p % 2 = 0) → logical ⟨true, log, acc⟩ (linesOf ps) = acc ++ [log ++ wantOf ps]
  | [], _, _, h, _ => absurd rfl h
  | [p], log, acc, _, h => by
    show logical (step _ p) [] = _
    rw [step_last _ p (Or.inl rfl) (h p (by simp))]
    simp [logical, fin, wantOf]
  | p :: q :: r, log, acc, _, h => by
    show logical (step _ (p ++ [92])) (linesOf (q :: r)) = _
    rw [step_cont _ p (Or.inl rfl) (h p (by simp)), joins_cont (q :: r) _ _ (by simp) (fun x hx => h x (by simp_all))]
    simp [wantOf]
theorem joins (p : List UInt8) (ps : List (List UInt8)) (h0 : note (trimL p) = false) (h : ∀ x ∈ p :: ps, tbs x % 2 = 0) : logical ⟨false, [], []⟩ (linesOf (p :: ps)) = [wantOf (p :: ps)] := by
  cases ps with
  | nil =>
    show logical (step _ p) [] = _
    rw [step_last _ p (Or.inr h0) (h p (by simp))]
    simp [logical, fin, wantOf]
  | cons q r =>
    show logical (step _ (p ++ [92])) (linesOf (q :: r)) = _
    have h1 : note (trimL (p ++ [92])) = false := by
      rw [trim_snoc]
      cases h2 : trimL p with
      | nil => rw [h2] at h0; exact absurd h0 (by decide)
      | cons x t => rw [h2] at h0; exact h0
    rw [step_cont _ p (Or.inr h1) (h p (by simp)), joins_cont (q :: r) _ _ (by simp) (fun x hx => h x (by simp_all))]
    simp [wantOf]
theorem linesOf_noEnd : ∀ ps : List (List UInt8), (∀ p ∈ ps, NoEnd p) → ∀ l ∈ linesOf ps, NoEnd l
  | [], _ => by simp [linesOf]
  | [p], h => by simpa [linesOf] using h
  | p :: q :: r, h => by
    intro l hl
    rcases List.mem_cons.1 hl with rfl | hl
    · intro x hx
      rcases List.mem_append.1 hx with hx | hx
      · exact h p (by simp) x hx
      · rw [List.mem_singleton.1 hx]; decide
    · exact linesOf_noEnd (q :: r) (fun x hx => h x (by simp_all)) l hl
/-- Room for each piece and its ends. -/
def room : List (List UInt8) → Nat
  | [] => 0
  | p :: r => p.length + 16 + room r
theorem flat_linesOf_len : ∀ ps : List (List UInt8), (flat (linesOf ps)).length ≤ room ps
  | [] => Nat.le_refl _
  | [p] => by simp [linesOf, flat, room]
  | p :: q :: r => by
    have := flat_linesOf_len (q :: r)
    simp [linesOf, flat, room] at this ⊢
    omega
theorem wantOf_len : ∀ ps : List (List UInt8), (wantOf ps).length ≤ room ps
  | [] => Nat.le_refl _
  | p :: r => by
    have := wantOf_len r
    have := trim_len p
    simp [wantOf, room]
    omega

/-! ### the law of the plain lines -/
/-- A plain line: what zzPlainLine asks. -/
def plainL (l : List UInt8) : Bool :=
  match l with
  | [] => false
  | x :: _ => !(x == 32 || x == 9 || x == 12 || x == 35 || x == 33) && !(l.any fun b => b == 10 || b == 13) && tbs l % 2 == 0
def note1 : List UInt8 := [32, 9, 35, 110, 111, 116, 101, 92]
def note2 : List UInt8 := [33, 120]
/-- The natural lines: comments and a blank one ahead of every second. -/
def noted (odd : Bool) : List (List UInt8) → List (List UInt8)
  | [] => []
  | l :: r => (if odd then [note1, [], note2, l] else [l]) ++ noted (!odd) r
theorem step_note1 (acc : List (List UInt8)) : step ⟨false, [], acc⟩ note1 = ⟨false, [], acc⟩ := by
  unfold step
  rw [if_pos ⟨rfl, by decide⟩]
theorem step_blank (acc : List (List UInt8)) : step ⟨false, [], acc⟩ [] = ⟨false, [], acc⟩ := by
  unfold step
  rw [if_pos ⟨rfl, by decide⟩]
theorem step_note2 (acc : List (List UInt8)) : step ⟨false, [], acc⟩ note2 = ⟨false, [], acc⟩ := by
  unfold step
  rw [if_pos ⟨rfl, by decide⟩]
theorem plain_parts {l : List UInt8} (h : plainL l = true) : ∃ x r, l = x :: r ∧ (x == 32) = false ∧ (x == 9) = false ∧ (x == 12) = false ∧ (x == 35) = false ∧ (x == 33) = false ∧ NoEnd l ∧ tbs l % 2 = 0 := by
  cases l with
  | nil => cases h
  | cons x r =>
    simp only [plainL, Bool.and_eq_true, Bool.not_eq_true', Bool.or_eq_false_iff, beq_iff_eq, List.any_eq_false, Bool.or_eq_true, not_or] at h
    obtain ⟨⟨⟨⟨⟨⟨h1, h2⟩, h3⟩, h4⟩, h5⟩, h6⟩, h7⟩ := h
    exact ⟨x, r, rfl, h1, h2, h3, h4, h5, fun y hy => ⟨(h6 y hy).2, (h6 y hy).1⟩, h7⟩
theorem step_plain (acc : List (List UInt8)) (l : List UInt8) (h : plainL l = true) : step ⟨false, [], acc⟩ l = ⟨false, [], acc ++ [l]⟩ := by
  obtain ⟨x, r, rfl, h1, h2, h3, h4, h5, _, h7⟩ := plain_parts h
  have ht : trimL (x :: r) = x :: r := by
    unfold trimL Lib.trimLeftS
    rw [List.dropWhile_cons, if_neg (by simp_all)]
  rw [step_last _ _ (Or.inr (by rw [ht]; simp [note, h4, h5])) h7, ht]
  rfl
theorem noted_reads : ∀ (ls : List (List UInt8)) (odd : Bool) (acc : List (List UInt8)), (∀ l ∈ ls, plainL l = true) → logical ⟨false, [], acc⟩ (noted odd ls) = acc ++ ls
  | [], odd, acc, _ => by simp [noted, logical, fin]
  | l :: r, odd, acc, h => by
    have ih := noted_reads r (!odd) (acc ++ [l]) (fun x hx => h x (by simp [hx]))
    have hl := step_plain acc l (h l (by simp))
    cases odd with
    | false =>
      show logical (step _ l) (noted true r) = _
      rw [hl]
      simpa using ih
    | true =>
      show logical (step (step (step (step _ note1) []) note2) l) (noted false r) = _
      rw [step_note1, step_blank, step_note2, hl]
      simpa using ih
theorem noted_noEnd : ∀ (ls : List (List UInt8)) (odd : Bool), (∀ p ∈ ls, NoEnd p) → ∀ l ∈ noted odd ls, NoEnd l
  | [], _, _ => by simp [noted]
  | p :: r, odd, h => by
    intro l hl
    have hn1 : NoEnd note1 := by unfold NoEnd note1; decide
    have hn2 : NoEnd note2 := by unfold NoEnd note2; decide
    have hn3 : NoEnd [] := fun x hx => by cases hx
    rcases List.mem_append.1 hl with hl | hl
    · cases odd with
      | false => simp at hl; subst hl; exact h _ (by simp)
      | true =>
        simp only [if_true, List.mem_cons, List.not_mem_nil, or_false] at hl
        rcases hl with rfl | rfl | rfl | rfl
        · exact hn1
        · exact hn3
        · exact hn2
        · exact h _ (by simp)
    · exact noted_noEnd r _ (fun x hx => h x (by simp [hx])) l hl
theorem flat_noted_len : ∀ (ls : List (List UInt8)) (odd : Bool), (flat (noted odd ls)).length ≤ room ls
  | [], _ => Nat.le_refl _
  | p :: r, odd => by
    have := flat_noted_len r (!odd)
    cases odd <;> simp [noted, flat, room, note1, note2] at this ⊢ <;> omega

/-! ### the first line end -/
theorem index_end : ∀ (l r : List UInt8), NoEnd l → Lib.indexAny (l ++ (10 :: r)) [13, 10] = l.length
  | [], r, _ => by simp [Lib.indexAny]
  | x :: l, r, h => by
    have ih := index_end l r (fun y hy => h y (by simp [hy]))
    have hx := h x (by simp)
    have h1 : ([13, 10] : List UInt8).contains x = false := by simp [hx.1, hx.2]
    rw [List.cons_append, Lib.indexAny, h1, ih]
    simp
end Go.Proofs.Qxb6606350aDoor
