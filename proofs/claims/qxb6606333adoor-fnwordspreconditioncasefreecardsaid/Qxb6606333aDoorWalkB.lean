/-
  THE WALK of internal/sdp.words (12) at the type 'a'.
-/
import Derived.Test.Qxb6606333aDoorWalkC
import Derived.Deep.DeepCutAuto
namespace Go.Proofs.Qxb6606333aDoor
open Go.RowKit
set_option linter.unusedSimpArgs false

theorem Tryd.info9 : (Tryd.prog.info? 9).map (fun i => (i.zero, i.size, i.bytes)) = some (some (.string ByteArray.empty), 1, 16) := by kernel_rfl
abbrev ba (l : List UInt8) : ByteArray := ⟨l.toArray⟩
abbrev strV (l : List UInt8) : Value := .string ⟨l.toArray⟩

def sRtpmap : List UInt8 := [114, 116, 112, 109, 97, 112]
def sCurr : List UInt8 := [99, 117, 114, 114]
def sDes : List UInt8 := [100, 101, 115]
def sConf : List UInt8 := [99, 111, 110, 102]
def sFmtp : List UInt8 := [102, 109, 116, 112]

theorem bel_drewN {B : Nat} {a w : World} (h : Below B a w) (n : Nat) : Below B a (w.drewN n) := ⟨h.os, h.tape, h.output, h.size, h.block⟩
theorem grown_below {w w' : World} (h : Below w.heap.size w w') (row : Option Nat) : w.grownBy w' row := ⟨h.os, h.tape, h.output, h.size, fun k hk _ => h.block k hk⟩

/-- An owned row that holds something lies at an address. -/
theorem owns_at {w : World} {B n : Nat} {v : Value} {xs : List Value} (h : w.ownsRow B 9 1 v n xs) (hn : 0 < n) :
    ∃ g cap, v = .slice (some ⟨g, 0, none⟩) n cap ∧ B ≤ g ∧ g < w.heap.size ∧ n ≤ cap ∧ cap ≤ maxLen := by
  rcases h.2 with ⟨_, h0⟩ | ⟨g, cap, cur, hv, hb, hg, h1, h2, _⟩
  · omega
  · refine ⟨g, cap, hv, hb, ?_, h1, h2⟩
    rcases Nat.lt_or_ge g w.heap.size with h' | h'
    · exact h'
    · rw [Array.getElem?_eq_none h'] at hg; cases hg

/-- Is it the name of a precondition attribute? -/
def isPre (n : List UInt8) : Bool := n == sCurr || n == sDes || n == sConf
/-- What words leaves: a slice of the call's own whose first word is the name; of a precondition attribute all words are told. -/
def WordsPost (v : List UInt8) (w : World) (e : Ending) (w' : World) : Prop :=
  ∃ g cap, ∃ ys : List (List UInt8), e = .returned (.slice (some ⟨g, 0, none⟩) ys.length cap) ∧ ys[0]? = some (nameW v) ∧ (isPre (nameW v) = true → ys = preW v) ∧ ys.length ≤ 100000000 ∧ w.heap.size ≤ g ∧
    w'.ownsRow w.heap.size 9 1 (.slice (some ⟨g, 0, none⟩) ys.length cap) ys.length (ys.map strV) ∧ Below w.heap.size w w'
theorem words_post {v : List UInt8} {w w' : World} {g cap n : Nat} {ys : List (List UInt8)} (hn : n = ys.length) (h0 : ys[0]? = some (nameW v)) (h1 : isPre (nameW v) = true → ys = preW v) (h2 : ys.length ≤ 100000000) (hg : w.heap.size ≤ g)
    (hown : w'.ownsRow w.heap.size 9 1 (.slice (some ⟨g, 0, none⟩) n cap) n (ys.map strV)) (hb : Below w.heap.size w w') : WordsPost v w (.returned (.slice (some ⟨g, 0, none⟩) n cap)) w' := by
  subst hn
  exact ⟨g, cap, ys, rfl, h0, h1, h2, hg, hown, hb⟩

/-- What the append leaves: the words lie at an address among the call's own blocks. -/
theorem after_append {w w4 w5 : World} {v5 : Value} {n g0 : Nat} {x : Value} {xs : List Value} (hT : Tabs w) (hown : w5.ownsRow w.heap.size 9 1 v5 n (x :: xs)) (hgrow : w4.grownBy w5 (some g0)) (hb : Below w.heap.size w w4) (hg0 : w.heap.size ≤ g0) :
    ∃ g cap, v5 = .slice (some ⟨g, 0, none⟩) n cap ∧ w.heap.size ≤ g ∧ g < w5.heap.size ∧ n ≤ cap ∧ cap ≤ maxLen ∧ w5.cell? ⟨g, 0, none⟩ = some x ∧ Below w.heap.size w w5 ∧ Tabs w5 := by
  have hn : 0 < n := by have := hown.1; simp only [List.length_cons] at this; omega
  obtain ⟨g, cap, rfl, h1, h2, h3, h4⟩ := owns_at hown hn
  have hb5 : Below w.heap.size w w5 := hb.grown hgrow hb.size (fun k hk => by cases hk; exact hg0)
  exact ⟨g, cap, rfl, h1, h2, h3, h4, by rw [hown.cellAt 0 (by omega)]; rfl, hb5, tabs_below hT hb5⟩

/-- The loop's relation over the words: the first k are as they shall be, the rest as they were. -/
def Upto (zs ts ys : List (List UInt8)) (k : Nat) : Prop := ys.length = zs.length ∧ ys.take k = ts.take k ∧ ys.drop k = zs.drop k
theorem Upto.start (x : List UInt8) (xs ts : List (List UInt8)) : Upto (x :: xs) (x :: ts) (x :: xs) 1 := ⟨rfl, rfl, rfl⟩
theorem Upto.at {zs ts ys : List (List UInt8)} {k : Nat} (h : Upto zs ts ys k) (_hk : k < zs.length) : ys[k]? = zs[k]? := by
  have := congrArg (fun l => l[0]?) h.2.2
  simpa using this
theorem Upto.step {zs ts ys : List (List UInt8)} {k : Nat} {c : List UInt8} (h : Upto zs ts ys k) (hk : k < zs.length) (hc : ts[k]? = some c) : Upto zs ts (ys.set k c) (k + 1) := by
  refine ⟨by rw [List.length_set]; exact h.1, take_set_succ _ _ _ _ (by rw [h.1]; exact hk) hc h.2.1, ?_⟩
  rw [List.drop_set, if_pos (by omega), ← List.drop_drop, ← List.drop_drop, h.2.2]
theorem Upto.end {zs ts ys : List (List UInt8)} {k : Nat} (h : Upto zs ts ys k) (hk : zs.length ≤ k) (ht : ts.length = zs.length) : ys = ts := by
  have := h.2.1
  rwa [List.take_of_length_le (by rw [h.1]; exact hk), List.take_of_length_le (by omega)] at this
theorem stored_strs {w : World} {B g n cap : Nat} {ys : List (List UInt8)} (h : w.ownsRow B 9 1 (.slice (some ⟨g, 0, none⟩) n cap) n (ys.map strV)) (k : Nat) (c : List UInt8) :
    (w.setCell ⟨g, k, none⟩ (strV c)).ownsRow B 9 1 (.slice (some ⟨g, 0, none⟩) n cap) n ((ys.set k c).map strV) := by
  have := (h.stored k (strV c)).1
  rwa [← List.map_set] at this

/-- A round's end: behind the call of strings.ToLower the row is owned still; the store carries the relation on. -/
theorem round_end {w wr : World} {zs ts ys : List (List UInt8)} {k g n cap : Nat} {c : List UInt8} (hu : Upto zs ts ys k) (ho : wr.ownsRow w.heap.size 9 1 (.slice (some ⟨g, 0, none⟩) n cap) n (ys.map strV)) (hb : Below w.heap.size w wr)
    (hk : k < zs.length) (hc : ts[k]? = some c) (w6 : World) (hb6 : Below wr.heap.size wr w6) {x : Value} (hcl : wr.cell? ⟨g, k, none⟩ = some x) :
    w6.cell? ⟨g, k, none⟩ = some x ∧ w6.frozen? ⟨g, k, none⟩ = false ∧ ∃ ys' : List (List UInt8), Upto zs ts ys' (k + 1) ∧ (w6.setCell ⟨g, k, none⟩ (strV c)).ownsRow w.heap.size 9 1 (.slice (some ⟨g, 0, none⟩) n cap) n (ys'.map strV) ∧ Below w.heap.size w (w6.setCell ⟨g, k, none⟩ (strV c)) := by
  have hg := ho.lt g rfl
  have ho6 := ho.kept (grown_below hb6 none) (Or.inr (by simp [Value.ownBlock]))
  exact ⟨(hb6.cell (p := ⟨g, k, none⟩) hg.2).trans hcl, ho6.frozenAt k, ys.set k c, hu.step hk hc, stored_strs ho6 k c, (hb.trans (hb6.mono hb.size)).setCell hg.1 _⟩

/-- Two rows of the call's own, apart: the words, and the parts of the encoding, which lie among the blocks from Be on. -/
def Two (w wx : World) (g cap n : Nat) (ys : List Value) (Be ge ce : Nat) (es : List (List UInt8)) : Prop :=
  g < Be ∧ w.heap.size ≤ g ∧ Be ≤ wx.heap.size ∧ wx.ownsRow Be 9 1 (.slice (some ⟨ge, 0, none⟩) es.length ce) es.length (es.map strV) ∧ wx.ownsRow w.heap.size 9 1 (.slice (some ⟨g, 0, none⟩) n cap) n ys ∧ Below w.heap.size w wx
theorem Two.below {w wx wy : World} {g cap n Be ge ce : Nat} {ys : List Value} {es : List (List UInt8)} (h : Two w wx g cap n ys Be ge ce es) (hb : Below wx.heap.size wx wy) : Two w wy g cap n ys Be ge ce es :=
  ⟨h.1, h.2.1, Nat.le_trans h.2.2.1 hb.size, h.2.2.2.1.kept (grown_below hb none) (Or.inr (by simp [Value.ownBlock])), h.2.2.2.2.1.kept (grown_below hb none) (Or.inr (by simp [Value.ownBlock])), h.2.2.2.2.2.trans (hb.mono h.2.2.2.2.2.size)⟩
theorem Two.alloc {w wx : World} {g cap n Be ge ce : Nat} {ys : List Value} {es : List (List UInt8)} (h : Two w wx g cap n ys Be ge ce es) (o : Obj) : Two w (wx.alloc o) g cap n ys Be ge ce es :=
  h.below ((Below.refl _ _).alloc (Nat.le_refl _) _)
theorem Two.ne {w wx : World} {g cap n Be ge ce : Nat} {ys : List Value} {es : List (List UInt8)} (h : Two w wx g cap n ys Be ge ce es) : g ≠ ge := by
  have := (h.2.2.2.1.lt ge rfl).1; have := h.1; omega
theorem Two.cell0 {w wx : World} {g cap n Be ge ce : Nat} {ys : List Value} {es : List (List UInt8)} {x : List UInt8} (h : Two w wx g cap n ys Be ge ce es) (hx : es[0]? = some x) : wx.cell? ⟨ge, 0, none⟩ = some (strV x) ∧ wx.frozen? ⟨ge, 0, none⟩ = false := by
  have hl : 0 < es.length := (List.getElem?_eq_some_iff.1 hx).1
  exact ⟨by rw [h.2.2.2.1.cellAt 0 (by omega), List.getElem?_map, hx]; rfl, h.2.2.2.1.frozenAt 0⟩
theorem Two.store {w wx : World} {g cap n Be ge ce : Nat} {ys : List Value} {es : List (List UInt8)} (h : Two w wx g cap n ys Be ge ce es) (x : List UInt8) : Two w (wx.setCell ⟨ge, 0, none⟩ (strV x)) g cap n ys Be ge ce (es.set 0 x) := by
  have hg := h.2.2.2.1.lt ge rfl
  refine ⟨h.1, h.2.1, Nat.le_trans h.2.2.1 (h.2.2.2.1.stored 0 (strV x)).2.size, ?_, h.2.2.2.2.1.kept (h.2.2.2.1.stored 0 (strV x)).2 (Or.inr (by simp only [Value.ownBlock]; intro e; exact h.ne (Option.some.inj e))), h.2.2.2.2.2.setCell (by have := h.1; have := h.2.1; simp only; omega) _⟩
  rw [List.length_set]
  exact stored_strs h.2.2.2.1 0 x
theorem Two.append {w wx wy : World} {g cap n Be ge ce m : Nat} {ys : List Value} {es es' : List (List UInt8)} {v : Value} (h : Two w wx g cap n ys Be ge ce es) (hn : 0 < es.length) (hm : es'.length = m) (ho : wy.ownsRow Be 9 1 v (es.length + m) (es.map strV ++ es'.map strV)) (hg : wx.grownBy wy (some ge)) :
    ∃ ge' ce', v = .slice (some ⟨ge', 0, none⟩) (es ++ es').length ce' ∧ Two w wy g cap n ys Be ge' ce' (es ++ es') := by
  subst hm
  obtain ⟨g', c', rfl, h1, h2, h3, h4⟩ := owns_at ho (by omega)
  refine ⟨g', c', by rw [List.length_append], h.1, h.2.1, Nat.le_trans h.2.2.1 hg.size, ?_, h.2.2.2.2.1.kept hg (Or.inr (by simp only [Value.ownBlock]; intro e; exact h.ne (Option.some.inj e))), h.2.2.2.2.2.grown hg h.2.2.2.2.2.size (fun k hk => by cases hk; have := (h.2.2.2.1.lt ge rfl).1; have := h.1; have := h.2.1; omega)⟩
  rw [List.length_append, List.map_append]
  exact ho

theorem ownsRow_base {w : World} {B B' e size n : Nat} {v : Value} {xs : List Value} (h : w.ownsRow B e size v n xs) (hB : B' ≤ B) : w.ownsRow B' e size v n xs := by
  refine ⟨h.1, ?_⟩
  rcases h.2 with h | ⟨g, cap, cur, e1, e2, e3⟩
  · exact Or.inl h
  · exact Or.inr ⟨g, cap, cur, e1, Nat.le_trans hB e2, e3⟩
theorem strs_one (l : List (List UInt8)) : ∀ u ∈ l.map strV, u.oneCell' = true := fun u hu => by obtain ⟨x, _, rfl⟩ := List.mem_map.1 hu; rfl
/-- The cells of the words from place k on. -/
theorem Two.words {w wx : World} {g cap n Be ge ce : Nat} {ys : List (List UInt8)} {es : List (List UInt8)} (h : Two w wx g cap n (ys.map strV) Be ge ce es) (k : Nat) : ∀ (j : Nat) u, ((ys.drop k).map strV)[j]? = some u → wx.cell? ((⟨g, k, none⟩ : Addr).add j) = some u := by
  intro j u hu
  have hl := h.2.2.2.2.1.1
  rw [List.length_map] at hl
  have hj : k + j < n := by
    have := (List.getElem?_eq_some_iff.1 hu).1
    simp only [List.length_map, List.length_drop] at this
    omega
  have e1 : ((⟨g, k, none⟩ : Addr).add j) = ⟨g, k + j, none⟩ := by unfold Addr.add; split <;> simp_all
  rw [e1, h.2.2.2.2.1.cellAt (k + j) (by omega), List.getElem?_map]
  rw [List.getElem?_map, List.getElem?_drop] at hu
  exact hu
/-- .. the first two of them. -/
theorem Two.first2 {w wx : World} {g cap n Be ge ce : Nat} {x0 x1 : List UInt8} {ys : List (List UInt8)} {es : List (List UInt8)} (h : Two w wx g cap n ((x0 :: x1 :: ys).map strV) Be ge ce es) : ∀ b, some (⟨g, 0, none⟩ : Addr) = some b → ∀ (j : Nat) u, [strV x0, strV x1][j]? = some u → wx.cell? (b.add j) = some u := by
  intro b hb j u hu
  cases hb
  have hj : j < 2 := (List.getElem?_eq_some_iff.1 hu).1
  have := h.words 0 j u (by
    match j, hj with
    | 0, _ => exact hu
    | 1, _ => exact hu)
  exact this
theorem Two.encs {w wx : World} {g cap n Be ge ce : Nat} {ys : List Value} {es : List (List UInt8)} (h : Two w wx g cap n ys Be ge ce es) : ∀ (j : Nat) u, (es.map strV)[j]? = some u → wx.cell? ((⟨ge, 0, none⟩ : Addr).add j) = some u := h.2.2.2.1.cells (g := ge) rfl
theorem cell_kept {w w' : World} (hg : w.grownBy w' none) {g k : Nat} {xs : List Value} (h : ∀ (j : Nat) u, xs[j]? = some u → w.cell? ((⟨g, k, none⟩ : Addr).add j) = some u) : ∀ (j : Nat) u, xs[j]? = some u → w'.cell? ((⟨g, k, none⟩ : Addr).add j) = some u :=
  fun j u hu => hg.cell (h j u hu) (by simp)
/-- THE END of the road of an rtpmap line. -/
theorem rt_end {v : List UInt8} {w wc w1 w2 : World} {v1 v2 : Value} {w0 f0 : List UInt8} {es fs' : List (List UInt8)} {N : Nat} (hb : Below w.heap.size w wc) (hown : w2.ownsRow wc.heap.size 9 1 v2 N (([strV w0, strV f0] ++ es.map strV) ++ fs'.map strV)) (h1 : w1.ownsRow wc.heap.size 9 1 v1 (2 + es.length) ([strV w0, strV f0] ++ es.map strV))
    (hg1 : wc.grownBy w1 none) (hg2 : w1.grownBy w2 v1.ownBlock) (hname : nameW v = w0) (hP : isPre w0 = false) (hN : N ≤ 100000000) : WordsPost v w (.returned v2) w2 := by
  have hl := hown.1
  have e1 : ([strV w0, strV f0] ++ es.map strV) ++ fs'.map strV = (w0 :: f0 :: (es ++ fs')).map strV := by simp
  rw [e1] at hown
  have hl' : N = (w0 :: f0 :: (es ++ fs')).length := by have := hown.1; rw [List.length_map] at this; omega
  obtain ⟨g, cap, rfl, a1, a2, a3, a4⟩ := owns_at hown (by rw [hl']; simp)
  have hb1 : Below w.heap.size w w1 := hb.grown hg1 hb.size (fun k hk => by cases hk)
  have hb2 : Below w.heap.size w w2 := hb1.grown hg2 hb1.size (fun k hk => by have := (h1.lt k hk).1; have := hb.size; omega)
  exact words_post hl' (by rw [hname]; rfl) (fun h => by rw [hname, hP] at h; cases h) (by rw [← hl']; exact hN) (by have := hb.size; omega) (ownsRow_base hown hb.size) hb2

theorem ownsRow_take {w : World} {B g n cap : Nat} {x : Value} {xs : List Value} (h : w.ownsRow B 9 1 (.slice (some ⟨g, 0, none⟩) n cap) n (x :: xs)) (hn : 1 ≤ n) : w.ownsRow B 9 1 (.slice (some ⟨g, 0, none⟩) 1 cap) 1 [x] := by
  refine ⟨rfl, ?_⟩
  rcases h.2 with ⟨h', _⟩ | ⟨g', cap', cur, h', e2, e3, e4, e5, e6, e7⟩
  · cases h'
  · cases h'
    refine Or.inr ⟨g, cap, cur, rfl, e2, e3, by omega, e5, e6, ?_⟩
    have := congrArg (List.take 1) e7
    rw [List.take_take, Nat.min_eq_left (by omega)] at this
    exact this

/-- THE END of the road of an fmtp line. -/
theorem fm_end {v : List UInt8} {w w6 w7 : World} {v7 : Value} {w0 : List UInt8} {ys : List (List UInt8)} {g c : Nat} (hown : w7.ownsRow w.heap.size 9 1 v7 (1 + ys.length) ([strV w0] ++ ys.map strV)) (hg : w6.grownBy w7 (Value.slice (some ⟨g, 0, none⟩) 1 c).ownBlock) (hb : Below w.heap.size w w6) (hbg : w.heap.size ≤ g)
    (hname : nameW v = w0) (hP : isPre w0 = false) (hN : ys.length ≤ 10000000) : WordsPost v w (.returned v7) w7 := by
  obtain ⟨g', cap, rfl, a1, a2, a3, a4⟩ := owns_at hown (by omega)
  have hb7 : Below w.heap.size w w7 := hb.grown hg hb.size (fun k hk => by cases hk; exact hbg)
  exact words_post (ys := w0 :: ys) (by simp; omega) (by rw [hname]; rfl) (fun h => by rw [hname, hP] at h; cases h) (by simp; omega) a1 hown hb7

theorem cell_two {w : World} {B g n cap : Nat} {w0 : List UInt8} {fs : List (List UInt8)} {f1 : List UInt8} (h : w.ownsRow B 9 1 (.slice (some ⟨g, 0, none⟩) n cap) n ([strV w0] ++ fs.map strV)) (h1 : fs[1]? = some f1) : w.cell? ⟨g, 2, none⟩ = some (strV f1) := by
  have hl : 1 < fs.length := (List.getElem?_eq_some_iff.1 h1).1
  have hn := h.1
  simp only [List.length_append, List.length_cons, List.length_nil, List.length_map] at hn
  rw [h.cellAt 2 (by omega)]
  simp [h1]

set_option maxHeartbeats 4000000 in
set_option maxRecDepth 100000 in
theorem words_c (s m : ByteArray) (w : World) (hs : s.size ≤ 1000000) (hT : Tabs w) :
    Calls Tryd.prog 12 #[.int .u8 97, .string s, .string m] w (WordsPost s.data.toList w) := by
  have HT := hid hT
  clear hT
  obtain ⟨i0, hi, hz0, hz1, hz2⟩ := info_parts Tryd.info9
  go_enter Tryd.func12, Tryd.ntmps12
  go_wp2_with fail
  refine (cut_c _ _ _ (by omega) HT.out).mono ?_
  rintro e w1 ⟨rfl, n1, rfl⟩
  obtain ⟨nm, hnm⟩ : ∃ nm : List UInt8, (Lib.cut s.data.toList (ByteArray.mk #[58]).data.toList).1 = nm := ⟨_, rfl⟩
  obtain ⟨rs, hrs⟩ : ∃ rs : List UInt8, (Lib.cut s.data.toList (ByteArray.mk #[58]).data.toList).2.1 = rs := ⟨_, rfl⟩
  obtain ⟨fb, hfb⟩ : ∃ fb : Bool, (Lib.cut s.data.toList (ByteArray.mk #[58]).data.toList).2.2 = fb := ⟨_, rfl⟩
  have hlen := cut_len s.data.toList (ByteArray.mk #[58]).data.toList
  rw [hnm, hrs, ← Lib.size_eq] at hlen
  obtain ⟨hl1, hl2⟩ := hlen
  rw [hnm, hrs, hfb]
  have HNM := hid hnm
  have HRS := hid hrs
  clear hnm hrs hfb
  go_wp2_with fail
  refine (trim_c ⟨nm.toArray⟩ _ (by rw [Lib.size_eq]; simp; omega) (tabs_drewN HT.out n1)).mono ?_
  rintro e w2 ⟨rfl, hb2⟩
  obtain ⟨tn, htn⟩ : ∃ tn : List UInt8, Lib.trimSpaceD (ByteArray.mk nm.toArray).data.toList = tn := ⟨_, rfl⟩
  rw [htn]
  have HTN := hid htn
  clear htn
  have HT2 : Hid (Tabs w2) := tabs_below (tabs_drewN HT.out n1) hb2
  have HB2 : Hid (Below w.heap.size w w2) := (bel_drewN (Below.refl w.heap.size w) n1).trans hb2
  have hz : w.heap.size ≤ w2.heap.size := hb2.size
  clear hb2
  have htl : tn.length ≤ s.size := by have := trim_len nm; have h := HTN.out; rw [h] at this; omega
  go_wp2_with fail
  refine (lower_c ⟨tn.toArray⟩ _ (by rw [Lib.size_eq]; simp; omega) HT2.out).mono ?_
  rintro e w3 ⟨rfl, hb3⟩
  obtain ⟨w0, hw0⟩ : ∃ w0 : List UInt8, Lib.toLowerD (ByteArray.mk tn.toArray).data.toList = w0 := ⟨_, rfl⟩
  rw [hw0]
  have HW0 := hid hw0
  clear hw0
  have HT3 : Hid (Tabs w3) := tabs_below HT2.out hb3
  have HB3 : Hid (Below w.heap.size w w3) := HB2.out.trans (hb3.mono hz)
  have hz3 : w.heap.size ≤ w3.heap.size := by have := hb3.size; omega
  clear hb3
  go_wp2_with fail
  refine (fields_c ⟨rs.toArray⟩ _ (by rw [Lib.size_eq]; simp; omega) (tabs_below HT3.out ((Below.refl _ _).alloc (Nat.le_refl _) _))).mono ?_
  rintro e w4 ⟨A, rfl, hA, hownA, hb4⟩
  obtain ⟨fs, hfs⟩ : ∃ fs : List (List UInt8), Lib.fieldsD (ByteArray.mk rs.toArray).data.toList = fs := ⟨_, rfl⟩
  rw [hfs] at hownA
  rw [hfs]
  have hfc := fields_count rs
  have HFS : Hid (Lib.fieldsD rs = fs) := hfs
  rw [HFS.out] at hfc
  clear hfs
  obtain ⟨hfc, hfl⟩ := hfc
  have HFL := hid hfl
  clear hfl
  have hown38 : w4.ownsRow w.heap.size 9 1 (.slice (some ⟨w3.heap.size, 0, none⟩) 1 1) 1 [strV w0] :=
    (World.ownsRow_lit (size := 1) w3 #[strV w0] 1 hz3 (by decide) rfl).kept (grown_below hb4 none) (Or.inr (by simp [Value.ownBlock]))
  have HT4 : Hid (Tabs w4) := tabs_below (tabs_below HT3.out ((Below.refl _ _).alloc (Nat.le_refl _) _)) hb4
  simp only [World.size_alloc] at hA hownA hb4
  have HB4 : Hid (Below w.heap.size w w4) := (HB3.out.alloc hz3 _).trans (hb4.mono (by omega))
  have hz4 : w.heap.size ≤ w4.heap.size := by have := hb4.size; simp only [World.size_alloc] at this; omega
  have hcA : ∀ (j : Nat) u, (fs.map strV)[j]? = some u → w4.cell? ((⟨A, 0, none⟩ : Addr).add j) = some u := hownA.cells (g := A) rfl
  have HCA := hid hcA
  clear hcA hownA hb4 hA
  have hone : ∀ u ∈ fs.map strV, u.oneCell' = true := fun u hu => by obtain ⟨x, _, rfl⟩ := List.mem_map.1 hu; rfl
  have HONE := hid hone
  clear hone
  have hname : nameW s.data.toList = w0 := by
    have h1 : (Lib.cut s.data.toList [58]).1 = nm := HNM.out
    unfold nameW; rw [h1, HTN.out, HW0.out]
  have hpre : preW s.data.toList = w0 :: fs.map Lib.toLowerD := by
    have h2 : (Lib.cut s.data.toList [58]).2.1 = rs := HRS.out
    unfold preW; rw [hname, h2, HFS.out]
  have HNAME := hid hname
  have HPRE := hid hpre
  clear hname hpre HNM HTN HW0 HRS HFS
  have cases5 : ((w0 == [114, 116, 112, 109, 97, 112]) = true) ∨ ((w0 == [114, 116, 112, 109, 97, 112]) = false ∧ isPre w0 = true) ∨ ((w0 == [114, 116, 112, 109, 97, 112]) = false ∧ isPre w0 = false ∧ (w0 == [102, 109, 116, 112]) = true) ∨ ((w0 == [114, 116, 112, 109, 97, 112]) = false ∧ isPre w0 = false ∧ (w0 == [102, 109, 116, 112]) = false) := by
    cases (w0 == [114, 116, 112, 109, 97, 112]) <;> cases isPre w0 <;> cases (w0 == [102, 109, 116, 112]) <;> simp
  rcases cases5 with c1 | ⟨c1, c2⟩ | ⟨c1, c2, c3⟩ | ⟨c1, c2, c3⟩
  · have hP : Hid (isPre w0 = false) := by rw [eq_of_beq c1]; exact rfl
    by_cases hf : fs.length ≤ 1
    · have hf' : ¬ ((2 : Int) < 1 + (fs.length : Int)) := by omega
      go_wp2_with (at_builtin; refine wpList_append_own _ rfl _ _ 23 rfl w.heap.size 9 i0 (.string ByteArray.empty) 1 16 Tryd.underlying23 hi hz0 hz1 hz2 rfl (by decide) (.slice (some ⟨w3.heap.size, 0, none⟩) 1 1) 1 [strV w0] rfl hown38 ⟨A, 0, none⟩ fs.length fs.length (fs.map strV) rfl (by simp) HCA.out HONE.out (by unfold maxLen; omega) (by omega) hz4 ?_; intro v5 w5 hown5 hgrow5 _; obtain ⟨g, cap, rfl, hbg, hgl, hnc, hcm, hc0, hB5, hT5⟩ := after_append HT.out hown5 hgrow5 HB4.out hz3; have HO5 := hid hown5; have HB5 := hid hB5; have HT5 := hid hT5; clear hown5 hgrow5 hB5 hT5 hown38)
      go_ret
      exact words_post (ys := w0 :: fs) (by simp; omega) (by rw [HNAME.out]; rfl) (fun h => by rw [HNAME.out, hP.out] at h; cases h) (by simp; omega) hbg HO5.out HB5.out
    · have hf' : (2 : Int) < 1 + (fs.length : Int) := by omega
      obtain ⟨f1, hf1⟩ : ∃ f1, fs[1]? = some f1 := ⟨_, List.getElem?_eq_getElem (by omega)⟩
      have hf1l : f1.length ≤ rs.length := HFL.out f1 (List.mem_of_getElem? hf1)
      have HF1 := hid hf1
      clear hf1 hf
      go_wp2_with (at_builtin; refine wpList_append_own _ rfl _ _ 23 rfl w.heap.size 9 i0 (.string ByteArray.empty) 1 16 Tryd.underlying23 hi hz0 hz1 hz2 rfl (by decide) (.slice (some ⟨w3.heap.size, 0, none⟩) 1 1) 1 [strV w0] rfl hown38 ⟨A, 0, none⟩ fs.length fs.length (fs.map strV) rfl (by simp) HCA.out HONE.out (by unfold maxLen; omega) (by omega) hz4 ?_; intro v5 w5 hown5 hgrow5 _; obtain ⟨g, cap, rfl, hbg, hgl, hnc, hcm, hc0, hB5, hT5⟩ := after_append HT.out hown5 hgrow5 HB4.out hz3; have hc2 := cell_two hown5 HF1.out; have HO5 := hid hown5; have HB5 := hid hB5; have HT5 := hid hT5; clear hown5 hgrow5 hB5 hT5 hown38)
      refine (split_c ⟨f1.toArray⟩ _ _ (by rw [Lib.size_eq]; simp; omega) (by decide) HT5.out).mono ?_
      rintro e w6 ⟨es, he1, he2, he3, rfl, ho6, hb6⟩
      have hes : es.length ≤ 2000000 := by rw [Lib.size_eq] at he2; simp only at he2; omega
      have hesl : ∀ x ∈ es, x.length ≤ 1000000 := fun x hx => by have := he3 x hx; rw [Lib.size_eq] at this; simp only at this; omega
      have HTW : Hid (Two w w6 g cap (1 + fs.length) ([strV w0] ++ fs.map strV) w5.heap.size w5.heap.size es.length es) :=
        ⟨hgl, hbg, hb6.size, ho6, HO5.out.kept (grown_below hb6 none) (Or.inr (by simp [Value.ownBlock])), HB5.out.trans (hb6.mono (by omega))⟩
      have HEL := hid hesl
      obtain ⟨e0, he0⟩ : ∃ e0, es[0]? = some e0 := ⟨_, List.getElem?_eq_getElem (by omega)⟩
      have he0l : e0.length ≤ 1000000 := hesl e0 (List.mem_of_getElem? he0)
      have hce0 := (HTW.out.cell0 he0).1
      have HE0 := hid he0
      clear he0 he2 he3 ho6 hb6 hesl hc2 hc0
      go_wp2_with fail
      refine (placeholder_c ⟨e0.toArray⟩ _ (by rw [Lib.size_eq]; simp; omega)).mono ?_
      rintro e w7 ⟨b, rfl, hb7⟩
      have HT7 : Hid (Two w w7 g cap (1 + fs.length) ([strV w0] ++ fs.map strV) w5.heap.size w5.heap.size es.length es) := HTW.out.below hb7
      clear hb7 hce0
      go_upto_if 58 with fail
      go_cut [11] (fun s11 wx => ∃ ge ce, ∃ es' : List (List UInt8), s11 = .slice (some ⟨ge, 0, none⟩) es'.length ce ∧ 1 ≤ es'.length ∧ es'.length ≤ 2000000 ∧ Two w wx g cap (1 + fs.length) ([strV w0] ++ fs.map strV) w5.heap.size ge ce es')
      case first =>
        cases b with
        | true =>
          go_wp2
          go_meet
          case rel => exact ⟨_, _, es, rfl, he1, hes, HT7.out⟩
        | false =>
          have hce7 := (HT7.out.cell0 HE0.out).1
          go_wp2_with (go_at_call 19; refine (upper_c ⟨e0.toArray⟩ _ (by rw [Lib.size_eq]; simp; omega) (tabs_below HT.out HT7.out.2.2.2.2.2)).mono ?_; rintro e w8 ⟨rfl, hb8⟩; have hc8 := (HT7.out.below hb8).cell0 HE0.out; have HT8 := hid ((HT7.out.below hb8).store (Lib.toUpperD e0)); clear hb8; obtain ⟨hc8, hf8⟩ := hc8)
          go_meet
          case rel => exact ⟨_, _, es.set 0 (Lib.toUpperD e0), by rw [List.length_set], by rw [List.length_set]; exact he1, by rw [List.length_set]; exact hes, HT8.out⟩
      case rest =>
        obtain ⟨ge, ce, es', rfl, hl1', hl2', htw⟩ := hcut
        have HTW2 := hid htw
        clear htw HT7 HTW HEL HE0
        go_upto_region 14 with fail
        go_cut [71] (fun s71 wx => (∃ b : Bool, s71 = .bool b) ∧ Two w wx g cap (1 + fs.length) ([strV w0] ++ fs.map strV) w5.heap.size ge ce es')
        case first =>
          go_wp2
          all_goals
            go_meet
            case rel => exact ⟨⟨_, rfl⟩, HTW2.out⟩
        case rest =>
          obtain ⟨⟨b2, rfl⟩, htw⟩ := hcut
          have HTW3 := hid htw
          clear htw HTW2
          go_upto_if 71 with fail
          go_cut [11] (fun s11 wx => ∃ ge ce, ∃ es' : List (List UInt8), s11 = .slice (some ⟨ge, 0, none⟩) es'.length ce ∧ 1 ≤ es'.length ∧ es'.length ≤ 2000001 ∧ Two w wx g cap (1 + fs.length) ([strV w0] ++ fs.map strV) w5.heap.size ge ce es')
          case first =>
            cases b2 with
            | false =>
              go_wp2
              go_meet
              case rel => exact ⟨_, _, es', rfl, hl1', by omega, HTW3.out⟩
            | true =>
              go_wp2_with (at_builtin; refine wpList_append_own _ rfl _ _ 23 rfl w5.heap.size 9 i0 (.string ByteArray.empty) 1 16 Tryd.underlying23 hi hz0 hz1 hz2 rfl (by decide) (.slice (some ⟨ge, 0, none⟩) es'.length ce) es'.length (es'.map strV) rfl (HTW3.out.alloc _).2.2.2.1 ⟨wc.heap.size, 0, none⟩ 1 1 [strV [49]] rfl (by simp) (cell_one_new _ _ _) (fun u hu => by rw [List.mem_singleton.1 hu]; rfl) (by unfold maxLen; omega) (by omega) (HTW3.out.alloc _).2.2.1 ?_; intro v9 w9 hown9 hgrow9 _; obtain ⟨ge', ce', rfl, htw9⟩ := (HTW3.out.alloc _).append (es' := [[49]]) (by omega) rfl hown9 hgrow9; have HT9 := hid htw9; clear htw9 hown9 hgrow9)
              go_meet
              case rel => exact ⟨_, _, es' ++ [[49]], by rw [List.length_append]; rfl, by simp, by simp; omega, HT9.out⟩
          case rest =>
            obtain ⟨ge, ce, es', rfl, hl1', hl2', htw⟩ := hcut
            have HTW4 := hid htw
            clear htw HTW3
            obtain ⟨f0, hf0⟩ : ∃ f0, fs[0]? = some f0 := ⟨_, List.getElem?_eq_getElem (by omega)⟩
            have hcap2 : (2 : Int) ≤ (cap : Int) := by omega
            have hcap3 : (3 : Int) ≤ (cap : Int) := by omega
            have hlen3 : (3 : Int) ≤ 1 + (fs.length : Int) := by omega
            have hlc : (1 : Int) + (fs.length : Int) ≤ (cap : Int) := by omega
            have HF0 := hid hf0
            clear hf0
            have hTW : Two w wc g cap (1 + fs.length) ((w0 :: f0 :: fs.drop 1).map strV) w5.heap.size ge ce es' := by
              have e1 : [strV w0] ++ fs.map strV = (w0 :: f0 :: fs.drop 1).map strV := by
                have : fs = f0 :: fs.drop 1 := by
                  cases fs with
                  | nil => have := HF0.out; cases this
                  | cons a t => have := HF0.out; simp only [List.getElem?_cons_zero, Option.some.injEq] at this; subst this; rfl
                rw [this]; rfl
              rw [← e1]; exact HTW4.out
            have HTW5 := hid hTW
            clear hTW HTW4 HF0
            by_cases hc3 : cap = 3
            · subst hc3
              have hfl2 : fs.length = 2 := by omega
              have hfl3 : 1 + fs.length - 3 = 0 := by omega
              go_wp2_with fail
              go_region_law (first
                | (refine step_append_grows rfl (.tmp 76) (.tmp 77) 23 rfl 9 i0 (.string ByteArray.empty) 1 16 Tryd.underlying23 hi hz0 hz1 hz2 rfl (by decide) (some ⟨g, 0, none⟩) 2 2 [strV w0, strV f0] (by simp [Act.eval, Act.put]) (by simp) rfl HTW5.out.first2 ⟨ge, 0, none⟩ es'.length ce (es'.map strV) (by simp [Act.eval, Act.put]) (by simp) HTW5.out.encs (strs_one _) (by omega) (by unfold maxLen; omega) (by omega) ?_; intro v1 w1 hown1 hgrow1; have HO1 := hid hown1; have HG1 := hid hgrow1; clear hown1 hgrow1)
                | (refine step_append_own rfl (.tmp 78) (.tmp 80) 23 rfl wc.heap.size 9 i0 (.string ByteArray.empty) 1 16 Tryd.underlying23 hi hz0 hz1 hz2 rfl (by decide) v1 (2 + es'.length) _ (by simp [Act.eval, Act.put]) HO1.out ⟨g, 0, none⟩ 0 0 (([] : List (List UInt8)).map strV) (by simp [Act.eval, Act.put, hfl2]) (by simp) (fun _ _ h => by simp at h) (strs_one _) (by unfold maxLen; omega) (by omega) (by have := HG1.out.size; simpa using this) ?_; intro v2 w2 hown2 hgrow2; have HO2 := hid hown2; have HG2 := hid hgrow2; clear hown2 hgrow2))
              go_wp2
              go_ret
              exact rt_end (fs' := []) (wc := wc.drew) HTW5.out.2.2.2.2.2.drew HO2.out HO1.out HG1.out HG2.out HNAME.out hP.out (by omega)
            · have hc3' : ¬ ((cap : Int) = 3) := by omega
              go_wp2_with fail
              go_region_law (first
                | (refine step_append_grows rfl (.tmp 76) (.tmp 77) 23 rfl 9 i0 (.string ByteArray.empty) 1 16 Tryd.underlying23 hi hz0 hz1 hz2 rfl (by decide) (some ⟨g, 0, none⟩) 2 2 [strV w0, strV f0] (by simp [Act.eval, Act.put]) (by simp) rfl HTW5.out.first2 ⟨ge, 0, none⟩ es'.length ce (es'.map strV) (by simp [Act.eval, Act.put]) (by simp) HTW5.out.encs (strs_one _) (by omega) (by unfold maxLen; omega) (by omega) ?_; intro v1 w1 hown1 hgrow1; have HO1 := hid hown1; have HG1 := hid hgrow1; clear hown1 hgrow1)
                | (refine step_append_own rfl (.tmp 78) (.tmp 80) 23 rfl wc.heap.size 9 i0 (.string ByteArray.empty) 1 16 Tryd.underlying23 hi hz0 hz1 hz2 rfl (by decide) v1 (2 + es'.length) _ (by simp [Act.eval, Act.put]) HO1.out ⟨g, 3, none⟩ (1 + fs.length - 3) (cap - 3) (((w0 :: f0 :: fs.drop 1).drop 3).map strV) (by simp [Act.eval, Act.put]) (by simp; omega) (cell_kept HG1.out (HTW5.out.words 3)) (strs_one _) (by unfold maxLen; omega) (by omega) (by have := HG1.out.size; simpa using this) ?_; intro v2 w2 hown2 hgrow2; have HO2 := hid hown2; have HG2 := hid hgrow2; clear hown2 hgrow2))
              go_wp2
              go_ret
              exact rt_end (wc := wc.drew) HTW5.out.2.2.2.2.2.drew HO2.out HO1.out HG1.out HG2.out HNAME.out hP.out (by omega)
  · have hP := hid c2
    have c3 : ((w0 == [99, 117, 114, 114]) = true) ∨ ((w0 == [99, 117, 114, 114]) = false ∧ (w0 == [100, 101, 115]) = true) ∨ ((w0 == [99, 117, 114, 114]) = false ∧ (w0 == [100, 101, 115]) = false ∧ (w0 == [99, 111, 110, 102]) = true) := by
      simp only [isPre, sCurr, sDes, sConf] at c2
      revert c2
      cases (w0 == [99, 117, 114, 114]) <;> cases (w0 == [100, 101, 115]) <;> cases (w0 == [99, 111, 110, 102]) <;> simp
    clear c2
    rcases c3 with c3 | ⟨c3, c4⟩ | ⟨c3, c4, c5⟩
    all_goals
      go_wp2_with (at_builtin; refine wpList_append_own _ rfl _ _ 23 rfl w.heap.size 9 i0 (.string ByteArray.empty) 1 16 Tryd.underlying23 hi hz0 hz1 hz2 rfl (by decide) (.slice (some ⟨w3.heap.size, 0, none⟩) 1 1) 1 [strV w0] rfl hown38 ⟨A, 0, none⟩ fs.length fs.length (fs.map strV) rfl (by simp) HCA.out HONE.out (by unfold maxLen; omega) (by omega) hz4 ?_; intro v5 w5 hown5 hgrow5 _; obtain ⟨g, cap, rfl, hbg, hgl, hnc, hcm, hc0, hB5, hT5⟩ := after_append HT.out hown5 hgrow5 HB4.out hz3; have HO5 := hid hown5; have HB5 := hid hB5; have HT5 := hid hT5; clear hown5 hgrow5 hB5 hT5 hown38)
      clear hc0
      go_loopg [12] fs.length (fun gk i wx => ∃ (k : Nat) (ys : List (List UInt8)), k + gk = 1 + fs.length ∧ 1 ≤ k ∧ i = .int .i64 k ∧ Upto (w0 :: fs) (w0 :: fs.map Lib.toLowerD) ys k ∧
        wx.ownsRow w.heap.size 9 1 (.slice (some ⟨g, 0, none⟩) (1 + fs.length) cap) (1 + fs.length) (ys.map strV) ∧ Below w.heap.size w wx)
      case atStart => exact ⟨1, w0 :: fs, by omega, Nat.le_refl _, rfl, Upto.start _ _ _, HO5.out, HB5.out⟩
      case round =>
        obtain ⟨k, ys, hk, hk1, rfl, hup, hown, hb⟩ := hrel
        have HU := hid hup
        have HO := hid hown
        have HB := hid hb
        clear hup hown hb
        cases gk with
        | zero =>
          have hkn : ¬ ((k : Int) < 1 + (fs.length : Int)) := by omega
          go_wp2
          go_ret
          have he := HU.out.end (by simp; omega) (by simp)
          subst he
          exact words_post (ys := w0 :: fs.map Lib.toLowerD) (by simp; omega) (by rw [HNAME.out]; rfl) (fun _ => HPRE.out.symm) (by simp; omega) hbg HO.out HB.out
        | succ gk =>
          have hkn : (k : Int) < 1 + (fs.length : Int) := by omega
          obtain ⟨y, hy⟩ : ∃ y, fs[k - 1]? = some y := ⟨_, List.getElem?_eq_getElem (by omega)⟩
          have hyl : y.length ≤ rs.length := HFL.out y (List.mem_of_getElem? hy)
          have hz : (w0 :: fs)[k]? = some y := by rw [List.getElem?_cons, if_neg (by omega)]; exact hy
          have ht : (w0 :: fs.map Lib.toLowerD)[k]? = some (Lib.toLowerD y) := by rw [List.getElem?_cons, if_neg (by omega), List.getElem?_map, hy]; rfl
          have hys : ys[k]? = some y := (HU.out.at (by simp; omega)).trans hz
          have hcl : wr.cell? ⟨g, k, none⟩ = some (strV y) := by rw [HO.out.cellAt k (by omega), List.getElem?_map, hys]; rfl
          have HTr : Hid (Tabs wr) := tabs_below HT.out HB.out
          have hend := round_end HU.out HO.out HB.out (by simp; omega) ht
          have HE := hid hend
          clear hend hy hz ht hys
          go_wp2_with (go_at_call 16; refine (lower_c ⟨y.toArray⟩ _ (by rw [Lib.size_eq]; simp; omega) HTr.out).mono ?_; rintro e w6 ⟨rfl, hb6⟩; obtain ⟨hcl6, hfz6, hx6⟩ := HE.out w6 hb6 hcl; have HX := hid hx6; clear hx6 hb6)
          go_roundg gk
          case measure => omega
          case rel =>
            obtain ⟨ys', a1, a2, a3⟩ := HX.out
            exact ⟨k + 1, ys', by omega, by omega, by go_num, a1, a2, a3⟩
  · have hP := hid c2
    simp only [isPre, sCurr, sDes, sConf, Bool.or_eq_false_iff] at c2
    obtain ⟨⟨c21, c22⟩, c23⟩ := c2
    go_wp2_with (at_builtin; refine wpList_append_own _ rfl _ _ 23 rfl w.heap.size 9 i0 (.string ByteArray.empty) 1 16 Tryd.underlying23 hi hz0 hz1 hz2 rfl (by decide) (.slice (some ⟨w3.heap.size, 0, none⟩) 1 1) 1 [strV w0] rfl hown38 ⟨A, 0, none⟩ fs.length fs.length (fs.map strV) rfl (by simp) HCA.out HONE.out (by unfold maxLen; omega) (by omega) hz4 ?_; intro v5 w5 hown5 hgrow5 _; obtain ⟨g, cap, rfl, hbg, hgl, hnc, hcm, hc0, hB5, hT5⟩ := after_append HT.out hown5 hgrow5 HB4.out hz3; have HO5 := hid hown5; have HB5 := hid hB5; have HT5 := hid hT5; clear hown5 hgrow5 hB5 hT5 hown38)
    have hcap1 : (1 : Int) ≤ (cap : Int) := by omega
    go_region_law (first
      | (refine step_append_own rfl (.tmp 103) (.tmp 105) 23 rfl w.heap.size 9 i0 (.string ByteArray.empty) 1 16 Tryd.underlying23 hi hz0 hz1 hz2 rfl (by decide) (.slice (some ⟨g, 0, none⟩) 1 cap) 1 [strV w0] (by simp [Act.eval, Act.put]) HO6.out ⟨g6, 0, none⟩ ys6.length c6 (ys6.map strV) (by simp [Act.eval, Act.put]) (by simp) HY6.out (strs_one _) (by unfold maxLen; omega) (by omega) (by have := HB6.out.size; omega) ?_; intro v7 w7 hown7 hgrow7; have HO7 := hid hown7; have HG7 := hid hgrow7; clear hown7 hgrow7)
      | (go_simp; go_at_call 20; refine (fmtp_c ⟨rs.toArray⟩ w5.drew (by rw [Lib.size_eq]; simp; omega) (tabs_drewN HT5.out 1)).mono ?_; rintro e w6 ⟨g6, c6, ys6, rfl, hg6, hl6, ho6, hb6⟩; have HO6 := hid ((ownsRow_take HO5.out (by omega)).drew.kept (grown_below hb6 none) (Or.inr (by simp [Value.ownBlock]))); have HY6 : Hid (∀ (j : Nat) u, (ys6.map strV)[j]? = some u → w6.cell? ((⟨g6, 0, none⟩ : Addr).add j) = some u) := ho6.cells (g := g6) rfl; have HB6 : Hid (Below w.heap.size w w6) := HB5.out.drew.trans (hb6.mono (by have := HB5.out.size; simpa using this)); have hl6' : ys6.length ≤ 2000000 := (by rw [Lib.size_eq] at hl6; simp only at hl6; omega); clear ho6 hb6 hg6 hl6))
    go_wp2
    go_ret
    exact fm_end HO7.out HG7.out HB6.out hbg HNAME.out hP.out (by omega)
  · have hP := hid c2
    simp only [isPre, sCurr, sDes, sConf, Bool.or_eq_false_iff] at c2
    obtain ⟨⟨c21, c22⟩, c23⟩ := c2
    go_wp2_with (at_builtin; refine wpList_append_own _ rfl _ _ 23 rfl w.heap.size 9 i0 (.string ByteArray.empty) 1 16 Tryd.underlying23 hi hz0 hz1 hz2 rfl (by decide) (.slice (some ⟨w3.heap.size, 0, none⟩) 1 1) 1 [strV w0] rfl hown38 ⟨A, 0, none⟩ fs.length fs.length (fs.map strV) rfl (by simp) HCA.out HONE.out (by unfold maxLen; omega) (by omega) hz4 ?_; intro v5 w5 hown5 hgrow5 _; obtain ⟨g, cap, rfl, hbg, hgl, hnc, hcm, hc0, hB5, hT5⟩ := after_append HT.out hown5 hgrow5 HB4.out hz3; have HO5 := hid hown5; have HB5 := hid hB5; have HT5 := hid hT5; clear hown5 hgrow5 hB5 hT5 hown38)
    go_ret
    exact words_post (ys := w0 :: fs) (by simp; omega) (by rw [HNAME.out]; rfl) (fun h => by rw [HNAME.out, hP.out] at h; cases h) (by simp; omega) hbg HO5.out HB5.out

end Go.Proofs.Qxb6606333aDoor
