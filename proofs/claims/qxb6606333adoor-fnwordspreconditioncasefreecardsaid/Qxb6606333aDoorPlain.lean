/-
  THE PLAIN LAW under FnWordsPreconditionCaseFree: what strings.Cut, TrimSpace, Fields, ToLower give does not hang on the case of the ASCII letters. No Go in sight.
-/
import Derived.Lib.SpaceUEq
import Derived.Lib.MapU
import Derived.Lib.TrimUEq
import Derived.Lib.IndexMore
import Derived.Lib.IndexBytes
namespace Go.Proofs.Qxb6606333aDoor
open Go.Lib
set_option maxRecDepth 100000

/-- A byte with the case of an ASCII letter swapped. -/
def flipB (c : UInt8) : UInt8 := if 97 ≤ c.toNat ∧ c.toNat ≤ 122 then UInt8.ofNat (c.toNat - 32) else if 65 ≤ c.toNat ∧ c.toNat ≤ 90 then UInt8.ofNat (c.toNat + 32) else c
def flipL (l : List UInt8) : List UInt8 := l.map flipB

theorem of_fin {p : UInt8 → Prop} (h : ∀ i : Fin 256, p (UInt8.ofNat i.val)) (c : UInt8) : p c := by
  have := h ⟨c.toNat, c.toNat_lt⟩
  simpa using this

theorem flipB_flipB (c : UInt8) : flipB (flipB c) = c := of_fin (p := fun c => flipB (flipB c) = c) (by decide) c
theorem flipB_lt (c : UInt8) : (flipB c).toNat < 128 ↔ c.toNat < 128 := of_fin (p := fun c => (flipB c).toNat < 128 ↔ c.toNat < 128) (by decide) c
theorem flipB_high (c : UInt8) : 128 ≤ c.toNat → flipB c = c := of_fin (p := fun c => 128 ≤ c.toNat → flipB c = c) (by decide) c
theorem flipB_inj {a b : UInt8} (h : flipB a = flipB b) : a = b := by rw [← flipB_flipB a, h, flipB_flipB]

theorem flipL_length (l : List UInt8) : (flipL l).length = l.length := by simp [flipL]
theorem flipL_nil_iff (l : List UInt8) : flipL l = [] ↔ l = [] := by simp [flipL]
theorem flipL_drop (l : List UInt8) (n : Nat) : (flipL l).drop n = flipL (l.drop n) := by simp [flipL]
theorem flipL_take (l : List UInt8) (n : Nat) : (flipL l).take n = flipL (l.take n) := by simp [flipL]
theorem flipL_append (a b : List UInt8) : flipL (a ++ b) = flipL a ++ flipL b := by simp [flipL]
theorem flipL_flipL (l : List UInt8) : flipL (flipL l) = l := by
  simp only [flipL, List.map_map]
  rw [show flipB ∘ flipB = id from funext flipB_flipB, List.map_id]

theorem prefix_flip : ∀ (q l : List UInt8), (flipL q).isPrefixOf (flipL l) = q.isPrefixOf l
  | [], _ => by simp [flipL]
  | _ :: _, [] => by simp [flipL]
  | a :: q, b :: l => by
    have ih := prefix_flip q l
    have hb : (flipB a == flipB b) = (a == b) := by
      rw [Bool.eq_iff_iff]; simp only [beq_iff_eq]; exact ⟨flipB_inj, fun h => h ▸ rfl⟩
    simp only [flipL, List.map_cons, List.isPrefixOf] at ih ⊢
    rw [ih, hb]
theorem suffix_flip (q l : List UInt8) : (flipL q).isSuffixOf (flipL l) = q.isSuffixOf l := by
  unfold List.isSuffixOf
  have h1 : (flipL q).reverse = flipL q.reverse := by simp [flipL]
  have h2 : (flipL l).reverse = flipL l.reverse := by simp [flipL]
  rw [h1, h2, prefix_flip]

theorem seqs_flip : ∀ q ∈ spaceSeqs, flipL q = q := by decide

theorem find_congr {α : Type} {p q : α → Bool} : ∀ (l : List α), (∀ x ∈ l, p x = q x) → l.find? p = l.find? q
  | [], _ => rfl
  | a :: l, h => by
    simp only [List.find?_cons]
    rw [h a (List.mem_cons_self ..), find_congr l fun x hx => h x (List.mem_cons_of_mem _ hx)]

theorem headSpace_flip (l : List UInt8) : headSpace (flipL l) = headSpace l := by
  unfold headSpace
  rw [find_congr (p := (·.isPrefixOf (flipL l))) (q := (·.isPrefixOf l)) spaceSeqs fun q hq => by
    have := prefix_flip q l
    rw [seqs_flip q hq] at this
    exact this]
theorem tailSpace_flip (l : List UInt8) : tailSpace (flipL l) = tailSpace l := by
  unfold tailSpace
  rw [find_congr (p := (·.isSuffixOf (flipL l))) (q := (·.isSuffixOf l)) spaceSeqs fun q hq => by
    have := suffix_flip q l
    rw [seqs_flip q hq] at this
    exact this]

theorem stripL_flip : ∀ (f : Nat) (l : List UInt8), stripL f (flipL l) = flipL (stripL f l)
  | 0, _ => rfl
  | f + 1, l => by
    simp only [stripL, headSpace_flip]
    split
    · rfl
    · rw [flipL_drop, stripL_flip f]
theorem stripR_flip : ∀ (f : Nat) (l : List UInt8), stripR f (flipL l) = flipL (stripR f l)
  | 0, _ => rfl
  | f + 1, l => by
    simp only [stripR, tailSpace_flip, flipL_length]
    split
    · rfl
    · rw [flipL_take, stripR_flip f]
theorem trim_flip (l : List UInt8) : trimSpaceD (flipL l) = flipL (trimSpaceD l) := by
  rw [← trimSpaceU_eq, ← trimSpaceU_eq]
  unfold trimSpaceU
  rw [flipL_length, stripL_flip, stripR_flip]

theorem ite_flip (cur : List UInt8) : (if flipL cur = [] then ([] : List (List UInt8)) else [flipL cur]) = (if cur = [] then [] else [cur]).map flipL := by
  by_cases h : cur = []
  · simp [h, flipL]
  · rw [if_neg (fun e => h ((flipL_nil_iff cur).1 e)), if_neg h]; rfl
theorem fieldsGo_flip : ∀ (f : Nat) (cur l : List UInt8), fieldsGoU f (flipL cur) (flipL l) = (fieldsGoU f cur l).map flipL
  | 0, cur, _ => by simp only [fieldsGoU]; exact ite_flip cur
  | _ + 1, cur, [] => by simp only [flipL, List.map_nil, fieldsGoU]; exact ite_flip cur
  | f + 1, cur, b :: t => by
    have hcons : flipL (b :: t) = flipB b :: flipL t := rfl
    have hh := headSpace_flip (b :: t)
    have hd := flipL_drop (b :: t) (headSpace (b :: t))
    rw [hcons] at hh hd ⊢
    simp only [fieldsGoU, hh]
    split
    · have : flipL cur ++ [flipB b] = flipL (cur ++ [b]) := by simp [flipL]
      rw [this, fieldsGo_flip f]
    · have ih := fieldsGo_flip f [] ((b :: t).drop (headSpace (b :: t)))
      have e0 : flipL [] = ([] : List UInt8) := rfl
      rw [e0] at ih
      rw [hd, ite_flip, List.map_append, ih]
theorem fields_flip (l : List UInt8) : fieldsD (flipL l) = (fieldsD l).map flipL := by
  rw [← fieldsU_eq, ← fieldsU_eq]
  unfold fieldsU
  rw [flipL_length]
  exact fieldsGo_flip _ [] l

/-! ### the decode -/
theorem flip_cont (c : UInt8) : (flipB c).toNat = c.toNat ∨ ((flipB c).toNat < 128 ∧ c.toNat < 128) := of_fin (p := fun c => (flipB c).toNat = c.toNat ∨ ((flipB c).toNat < 128 ∧ c.toNat < 128)) (by decide) c
theorem getD_flip (l : List UInt8) (k : Nat) : (flipL l).getD k 0 = flipB (l.getD k 0) := by
  unfold flipL
  rw [List.getD_eq_getElem?_getD, List.getD_eq_getElem?_getD, List.getElem?_map]
  cases l[k]? with
  | none => decide
  | some a => rfl

theorem decodeN_high (n b0 b1 b2 b3 c1 c2 c3 : Nat) (h0 : 128 ≤ b0) (h1 : c1 = b1 ∨ (c1 < 128 ∧ b1 < 128)) (h2 : c2 = b2 ∨ (c2 < 128 ∧ b2 < 128)) (h3 : c3 = b3 ∨ (c3 < 128 ∧ b3 < 128)) :
    decodeN n b0 c1 c2 c3 = decodeN n b0 b1 b2 b3 := by
  have k (c b : Nat) (h : c = b ∨ (c < 128 ∧ b < 128)) : (c = b) ∨ (c / 64 ≠ 2 ∧ b / 64 ≠ 2) := by omega
  have e0 : ¬ b0 < 128 := by omega
  simp only [decodeN, if_neg e0]
  rcases k c1 b1 h1 with rfl | ⟨x1, y1⟩
  · rcases k c2 b2 h2 with rfl | ⟨x2, y2⟩
    · rcases k c3 b3 h3 with rfl | ⟨x3, y3⟩
      · rfl
      · simp only [x3, y3, and_false, if_false]
    · simp only [x2, y2, and_false, false_and, if_false]
  · simp only [x1, y1, and_false, false_and, if_false]

theorem decodeL_high (l : List UInt8) (h : 128 ≤ (l.getD 0 0).toNat) : decodeL (flipL l) = decodeL l := by
  rw [decodeL_N, decodeL_N, flipL_length, getD_flip, getD_flip, getD_flip, getD_flip, flipB_high _ h]
  exact decodeN_high _ _ _ _ _ _ _ _ h (flip_cont _) (flip_cont _) (flip_cont _)
theorem decodeL_low (l : List UInt8) (h : (l.getD 0 0).toNat < 128) : decodeL l = ((l.getD 0 0).toNat, 1) := by
  rw [decodeL_N]
  unfold decodeN
  rw [if_pos h]
theorem decodeL_flip2 (l : List UInt8) : (decodeL (flipL l)).2 = (decodeL l).2 := by
  by_cases h : (l.getD 0 0).toNat < 128
  · rw [decodeL_low l h, decodeL_low _ (by rw [getD_flip]; exact (flipB_lt _).2 h)]
  · rw [decodeL_high l (by omega)]
theorem lowerU_flip (c : UInt8) (h : c.toNat < 128) : toLowerU (((flipB c).toNat : Nat) : Int) = toLowerU ((c.toNat : Nat) : Int) := by
  have h2 := (flipB_lt c).2 h
  have key : (if 65 ≤ (((flipB c).toNat : Nat) : Int) ∧ (((flipB c).toNat : Nat) : Int) ≤ 90 then (((flipB c).toNat : Nat) : Int) + 32 else (((flipB c).toNat : Nat) : Int)) =
      (if 65 ≤ ((c.toNat : Nat) : Int) ∧ ((c.toNat : Nat) : Int) ≤ 90 then ((c.toNat : Nat) : Int) + 32 else ((c.toNat : Nat) : Int)) :=
    of_fin (p := fun c => c.toNat < 128 → (if 65 ≤ (((flipB c).toNat : Nat) : Int) ∧ (((flipB c).toNat : Nat) : Int) ≤ 90 then (((flipB c).toNat : Nat) : Int) + 32 else (((flipB c).toNat : Nat) : Int)) =
      (if 65 ≤ ((c.toNat : Nat) : Int) ∧ ((c.toNat : Nat) : Int) ≤ 90 then ((c.toNat : Nat) : Int) + 32 else ((c.toNat : Nat) : Int))) (by decide) c h
  have a1 : (((flipB c).toNat : Nat) : Int) ≤ 127 := by omega
  have a2 : ((c.toNat : Nat) : Int) ≤ 127 := by omega
  unfold toLowerU
  rw [if_pos a1, if_pos a2]
  exact key
theorem lower_decode_flip (l : List UInt8) : toLowerU ((decodeL (flipL l)).1 : Int) = toLowerU ((decodeL l).1 : Int) := by
  by_cases h : (l.getD 0 0).toNat < 128
  · have e : (flipL l).getD 0 0 = flipB (l.getD 0 0) := getD_flip l 0
    rw [decodeL_low l h, decodeL_low _ (by rw [e]; exact (flipB_lt _).2 h), e]
    exact lowerU_flip _ h
  · rw [decodeL_high l (by omega)]
theorem mapGo_flip : ∀ (n : Nat) (l : List UInt8), mapGoD toLowerU n (flipL l) = mapGoD toLowerU n l
  | 0, _ => rfl
  | n + 1, l => by
    simp only [mapGoD, flipL_nil_iff, lower_decode_flip, decodeL_flip2, flipL_drop, mapGo_flip n]
theorem lower_flip (l : List UInt8) : toLowerD (flipL l) = toLowerD l := by
  unfold toLowerD mapD
  rw [flipL_length, mapGo_flip]

/-! ### strings.Cut at the colon -/
theorem flip58 (c : UInt8) : (flipB c == 58) = (c == 58) := of_fin (p := fun c => (flipB c == 58) = (c == 58)) (by decide) c
theorem indexByte_flip : ∀ l : List UInt8, indexByte (flipL l) 58 = indexByte l 58
  | [] => rfl
  | b :: l => by
    show indexByte (flipB b :: flipL l) 58 = _
    simp only [indexByte, flip58, indexByte_flip l]
theorem cut_flip (l : List UInt8) : cut (flipL l) [58] = (flipL (cut l [58]).1, flipL (cut l [58]).2.1, (cut l [58]).2.2) := by
  unfold cut
  simp only [index_one, indexByte_flip]
  split
  · simp only [flipL_take, flipL_drop]
  · rfl

/-- The words of an a= line as far as the law looks: the name, and, of a precondition attribute, the words of the value. -/
def nameW (v : List UInt8) : List UInt8 := toLowerD (trimSpaceD (cut v [58]).1)
def preW (v : List UInt8) : List (List UInt8) := nameW v :: (fieldsD (cut v [58]).2.1).map toLowerD
theorem nameW_flip (v : List UInt8) : nameW (flipL v) = nameW v := by
  unfold nameW
  rw [cut_flip, trim_flip, lower_flip]
/-- THE PLAIN LAW. -/
theorem preW_flip (v : List UInt8) : preW (flipL v) = preW v := by
  unfold preW
  rw [nameW_flip, cut_flip, fields_flip, List.map_map]
  congr 2
  funext l
  exact lower_flip l

/-! ### lengths -/
theorem stripL_len : ∀ (f : Nat) (l : List UInt8), (stripL f l).length ≤ l.length
  | 0, _ => Nat.le_refl _
  | f + 1, l => by
    simp only [stripL]
    split
    · exact Nat.le_refl _
    · have := stripL_len f (l.drop (headSpace l)); simp only [List.length_drop] at this; omega
theorem stripR_len : ∀ (f : Nat) (l : List UInt8), (stripR f l).length ≤ l.length
  | 0, _ => Nat.le_refl _
  | f + 1, l => by
    simp only [stripR]
    split
    · exact Nat.le_refl _
    · have := stripR_len f (l.take (l.length - tailSpace l)); simp only [List.length_take] at this; omega
theorem trim_len (l : List UInt8) : (trimSpaceD l).length ≤ l.length := by
  rw [← trimSpaceU_eq]
  unfold trimSpaceU
  exact Nat.le_trans (stripR_len _ _) (stripL_len _ _)
theorem encode_len (r : Int) : (encodeRune r).length ≤ 4 := by
  unfold encodeRune encodeRuneZ
  rw [List.length_map]
  repeat' split
  all_goals simp
theorem mapGo_len (f : Int → Int) : ∀ (n : Nat) (l : List UInt8), (mapGoD f n l).length ≤ 4 * n
  | 0, _ => by simp [mapGoD]
  | n + 1, l => by
    have ih := mapGo_len f n (l.drop (decodeL l).2)
    have e := encode_len (f (decodeL l).1)
    simp only [mapGoD]
    split
    · simp
    · split
      · rw [List.length_append]; omega
      · rw [List.length_append, List.length_nil]; omega
theorem lower_len (l : List UInt8) : (toLowerD l).length ≤ 4 * l.length := mapGo_len _ _ _
theorem upper_len (l : List UInt8) : (toUpperD l).length ≤ 4 * l.length := mapGo_len _ _ _
theorem ite_count (cur : List UInt8) : (if cur = [] then ([] : List (List UInt8)) else [cur]).length ≤ 1 ∧ (cur = [] → (if cur = [] then ([] : List (List UInt8)) else [cur]).length = 0) ∧ ∀ x ∈ (if cur = [] then ([] : List (List UInt8)) else [cur]), x.length ≤ cur.length := by
  by_cases h : cur = [] <;> simp [h]
theorem fieldsGo_count : ∀ (f : Nat) (cur l : List UInt8), (fieldsGoU f cur l).length ≤ 1 + l.length ∧ (cur = [] → (fieldsGoU f cur l).length ≤ l.length) ∧ ∀ x ∈ fieldsGoU f cur l, x.length ≤ cur.length + l.length
  | 0, cur, l => by
    obtain ⟨h1, h2, h3⟩ := ite_count cur
    simp only [fieldsGoU]
    exact ⟨by omega, fun h => by have := h2 h; omega, fun x hx => by have := h3 x hx; omega⟩
  | _ + 1, cur, [] => by
    obtain ⟨h1, h2, h3⟩ := ite_count cur
    simp only [fieldsGoU]
    exact ⟨by omega, fun h => by have := h2 h; omega, fun x hx => by have := h3 x hx; omega⟩
  | f + 1, cur, b :: t => by
    simp only [fieldsGoU]
    split
    · obtain ⟨h1, _, h3⟩ := fieldsGo_count f (cur ++ [b]) t
      simp only [List.length_append, List.length_cons, List.length_nil] at h3 ⊢
      exact ⟨by omega, fun _ => by omega, fun x hx => by have := h3 x hx; omega⟩
    · rename_i hne
      obtain ⟨g1, g2, g3⟩ := ite_count cur
      obtain ⟨_, h2, h3⟩ := fieldsGo_count f [] ((b :: t).drop (headSpace (b :: t)))
      have h2' := h2 rfl
      have hd : ((b :: t).drop (headSpace (b :: t))).length ≤ t.length := by rw [List.length_drop, List.length_cons]; omega
      rw [List.length_append, List.length_cons]
      refine ⟨by omega, fun h => by have := g2 h; omega, fun x hx => ?_⟩
      rcases List.mem_append.1 hx with hx | hx
      · have := g3 x hx; omega
      · have := h3 x hx; simp only [List.length_nil] at this; omega
theorem fields_count (l : List UInt8) : (fieldsD l).length ≤ l.length ∧ ∀ x ∈ fieldsD l, x.length ≤ l.length := by
  rw [← fieldsU_eq]
  obtain ⟨_, h2, h3⟩ := fieldsGo_count (l.length + 1) [] l
  exact ⟨h2 rfl, fun x hx => by have := h3 x hx; simpa using this⟩
theorem cut_len (l sep : List UInt8) : (cut l sep).1.length ≤ l.length ∧ (cut l sep).2.1.length ≤ l.length := by
  unfold cut
  split
  · simp; omega
  · simp

end Go.Proofs.Qxb6606333aDoor
