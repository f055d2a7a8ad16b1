/-
  strings.IndexAny (47) at whatever string, the chars ASCII: what the shelf's contract lacks is a short s that is not ASCII: strings.IndexRune (60) at a rune that is not ASCII finds nothing among ASCII chars.
-/
import Derived.Test.Qxb6613956aFmtShelf
import Derived.WalkKit
import Derived.WalkMore
import Derived.WalkSpells
import Derived.WalkLawsBesides
import Derived.Below
import Derived.Deep.LoopGhost
import Derived.Deep.QuietTactic
import Derived.Deep.RegionWith
import Derived.BigQuiet
import Derived.Lib.OthersKept
import Derived.Lib.DecodeN
namespace Go.Proofs.Qxb6613956aFmt
open Go.RowKit Go.Shelf

/-- Every byte is ASCII. -/
def Asc (s : ByteArray) : Prop := ∀ (j : Nat) (b : UInt8), s.data.toList[j]? = some b → b.toNat < 128

theorem hidI {p : Prop} (h : p) : Hid p := h

set_option maxHeartbeats 1000000 in
set_option maxRecDepth 100000 in
/-- strings.IndexRune at U+FFFD. -/
theorem ir_err (cs : ByteArray) (w : World) (ha : Asc cs) :
    Calls Tryf.prog 60 #[.string cs, .int .i32 65533] w fun e w' => e = .returned (.int .i64 (-1)) ∧ Below w.heap.size w w' := by
  have HA := hidI ha
  clear ha
  go_enter Tryf.func60, Tryf.ntmps60
  go_wp2
  go_loopg [5, 6] cs.size (fun g _ _ wx => ∃ i : Nat, i + g = cs.size ∧ wx = w.iter cs i)
  case atStart => exact ⟨0, by omega, rfl⟩
  case round =>
    obtain ⟨i, hig, rfl⟩ := hrel
    cases gk with
    | zero =>
      obtain rfl : i = cs.size := by omega
      have hnx := run_next_end (P := Tryf.prog) w cs cs.size
      go_wp2
      try rw [Exit.noGoto_ret]
      go_ret
      exact ⟨rfl, (Below.refl _ _).alloc (Nat.le_refl _) _⟩
    | succ g =>
      have hi : i < cs.size := by omega
      obtain ⟨x, hx⟩ : ∃ x : UInt8, cs[i]'hi = x := ⟨_, rfl⟩
      have hx128 : x.toNat < 128 := HA.out i x (by rw [← hx]; exact Lib.data_getElem? cs i hi)
      have hnx := fun ty => run_next_ascii (P := Tryf.prog) w cs i ty hi (by rw [hx]; exact hx128)
      rw [hx] at hnx
      have hne : ((x.toNat : Int) == 65533) = false := beq_eq_false_iff_ne.2 (by omega)
      clear hx
      go_wp2
      go_roundg g
      case measure => omega
      case rel => exact ⟨i + 1, by omega, rfl⟩

set_option maxHeartbeats 2000000 in
set_option maxRecDepth 100000 in
/-- strings.IndexRune at what is no rune. -/
theorem ir_bad (cs : ByteArray) (r : Int) (w : World) (hr : 128 ≤ r) (h2 : r ≤ 2147483647) (hne : (r == 65533) = false) (hv : Lib.validRune r = false) :
    Calls Tryf.prog 60 #[.string cs, .int .i32 r] w fun e w' => e = .returned (.int .i64 (-1)) ∧ Below w.heap.size w w' := by
  go_enter Tryf.func60, Tryf.ntmps60
  go_wp2_with (go_at_call 75; refine (Any.utf8_ValidRune Tryf.lays119 r _).mono ?_; rintro e w' ⟨rfl, hw⟩; rw [hw, hv])
  go_ret
  exact ⟨rfl, Below.refl _ _⟩
theorem wrap_small (x : Int) (h0 : 0 ≤ x) (h1 : x ≤ 1000000000) : IntKind.i64.wrap x = x := by
  rw [IntWalk.i64_left]
  unfold wrap64
  omega
theorem indexByte_none : ∀ (l : List UInt8) (c : UInt8), (∀ x ∈ l, x ≠ c) → Lib.indexByte l c = -1
  | [], _, _ => rfl
  | b :: l, c, h => by
    have hb : (b == c) = false := beq_eq_false_iff_ne.2 (h b (List.mem_cons_self ..))
    simp [Lib.indexByte, hb, indexByte_none l c fun x hx => h x (List.mem_cons_of_mem _ hx)]
theorem Asc.mem {s : ByteArray} (h : Asc s) {x : UInt8} (hx : x ∈ s.data.toList) : x.toNat < 128 := by
  obtain ⟨j, hj⟩ := List.getElem?_of_mem hx
  exact h j x hj
theorem asc_extract {s : ByteArray} (h : Asc s) (a b : Nat) : Asc (s.extract a b) := fun j x hx => by
  rw [Lib.extract_data] at hx
  exact h.mem (List.mem_of_mem_drop (List.mem_of_mem_take (List.mem_of_getElem? hx)))
theorem ib_none (s : ByteArray) (c : UInt8) (w : World) (hc : 128 ≤ c.toNat) (ha : Asc s) :
    Calls Tryf.prog 74 #[.string s, .int .u8 (c.toNat : Int)] w fun e w' => e = .returned (.int .i64 (-1)) ∧ w' = w :=
  (Any.strings_IndexByte Tryf.lays137 s (c.toNat : Int) w).mono fun e w' ⟨h1, h2⟩ => ⟨by
    have hb : ((c.toNat : Int)).toNat.toUInt8 = c := by simp
    rw [hb, indexByte_none s.data.toList c fun x hx e => by subst e; have := ha.mem hx; omega] at h1
    exact h1, h2⟩

set_option maxHeartbeats 2000000 in
set_option maxRecDepth 100000 in
/-- strings.IndexRune at a rune beyond ASCII. -/
theorem ir_high (cs : ByteArray) (r : Int) (w : World) (_hcs : cs.size ≤ 1000000) (ha : Asc cs) (hr : 128 ≤ r) (h2 : r ≤ 2147483647) (hne : (r == 65533) = false) (hv : Lib.validRune r = true) :
    Calls Tryf.prog 60 #[.string cs, .int .i32 r] w fun e w' => e = .returned (.int .i64 (-1)) ∧ Below w.heap.size w w' := by
  have HA := hidI ha
  clear ha
  have hv2 : Utf8.valid r = true := by
    unfold Lib.validRune at hv
    unfold Utf8.valid
    simp only [decide_eq_true_eq] at hv
    simp only [Bool.or_eq_true, Bool.and_eq_true, decide_eq_true_eq]
    omega
  obtain ⟨e1, e2, e3⟩ := encode_facts r hv2 hr
  clear hv2
  have HE3 := hidI (e3 (by omega))
  clear e3
  have hlast : (Utf8.encode r).size - 1 < (Utf8.encode r).size := by omega
  obtain ⟨lb, hlb⟩ : ∃ lb : UInt8, (Utf8.encode r)[(Utf8.encode r).size - 1]'hlast = lb := ⟨_, rfl⟩
  have hl128 : 128 ≤ lb.toNat := by rw [← hlb]; exact HE3.out
  clear HE3
  by_cases hlt : (Utf8.encode r).size - 1 < cs.size
  · obtain ⟨x, hx⟩ : ∃ x : UInt8, cs[(Utf8.encode r).size - 1]'hlt = x := ⟨_, rfl⟩
    have hx128 : x.toNat < 128 := HA.out _ x (by rw [← hx]; exact Lib.data_getElem? cs _ hlt)
    go_enter Tryf.func60, Tryf.ntmps60
    go_wp2_with (go_at_call 75; refine (Any.utf8_ValidRune Tryf.lays119 r _).mono ?_; rintro e w' ⟨rfl, hw⟩; rw [hw, hv])
    go_step3
    go_wp2
    refine wp_loop_rounds 1 ?_
    rw [rounds_succ]
    go_wp2
    go_step3
    go_wp2
    go_quiet (fail)
    go_wp2
    have hs2 : ((Utf8.encode r).size : Int) ≤ (cs.size : Int) := by omega
    have hwr : IntKind.i64.wrap ((Utf8.encode r).size : Int) = ((Utf8.encode r).size : Int) := wrap_small _ (by omega) (by omega)
    go_region_with (go_at_call 74; refine (ib_none _ lb _ hl128 (asc_extract HA.out _ _)).mono ?_; rintro e w' ⟨rfl, hw⟩; rw [hw])
    all_goals
      go_wp2
      rw [Exit.noGoto_ret]
      go_wp2
      rw [Exit.noGoto_ret]
      go_ret
      exact ⟨rfl, ⟨rfl, rfl, rfl, Nat.le_refl _, fun _ _ => rfl⟩⟩
  · go_enter Tryf.func60, Tryf.ntmps60
    go_wp2_with (go_at_call 75; refine (Any.utf8_ValidRune Tryf.lays119 r _).mono ?_; rintro e w' ⟨rfl, hw⟩; rw [hw, hv])
    go_step3
    go_wp2
    refine wp_loop_rounds 1 ?_
    rw [rounds_succ]
    go_wp2
    rw [Exit.noGoto_ret]
    go_ret
    exact ⟨rfl, Below.refl _ _⟩
/-- strings.IndexRune at whatever is not ASCII, the text ASCII. -/
theorem ir_any (cs : ByteArray) (r : Int) (w : World) (hcs : cs.size ≤ 1000000) (ha : Asc cs) (hr : 128 ≤ r) (h2 : r ≤ 2147483647) :
    Calls Tryf.prog 60 #[.string cs, .int .i32 r] w fun e w' => e = .returned (.int .i64 (-1)) ∧ Below w.heap.size w w' := by
  by_cases h : r = 65533
  · subst h; exact ir_err cs w ha
  · cases hv : Lib.validRune r with
    | false => exact ir_bad cs r w hr h2 (beq_eq_false_iff_ne.2 h) hv
    | true => exact ir_high cs r w hcs ha hr h2 (beq_eq_false_iff_ne.2 h) hv

theorem dec_high (n b0 b1 b2 b3 : Nat) (h0 : 128 ≤ b0) (hn : 1 ≤ n) : 1 ≤ (Lib.decodeN n b0 b1 b2 b3).2 ∧ (Lib.decodeN n b0 b1 b2 b3).2 ≤ n ∧ 128 ≤ (Lib.decodeN n b0 b1 b2 b3).1 ∧ (Lib.decodeN n b0 b1 b2 b3).1 ≤ 1114111 ∧
    (1 < (Lib.decodeN n b0 b1 b2 b3).2 → b1 / 64 = 2) ∧ (2 < (Lib.decodeN n b0 b1 b2 b3).2 → b2 / 64 = 2) ∧ (3 < (Lib.decodeN n b0 b1 b2 b3).2 → b3 / 64 = 2) ∧ (Lib.decodeN n b0 b1 b2 b3).2 ≤ 4 := by
  unfold Lib.decodeN
  rw [if_neg (by omega)]
  repeat' split
  all_goals simp only
  all_goals omega

/-- The rune at a byte that is not ASCII: beyond ASCII itself, and so are all bytes that it takes. -/
theorem dec_at (s : ByteArray) (i : Nat) (x : UInt8) (hi : i < s.size) (hx : s[i]'hi = x) (h : 128 ≤ x.toNat) :
    1 ≤ (Utf8.decode s i).2 ∧ i + (Utf8.decode s i).2 ≤ s.size ∧ 128 ≤ (Utf8.decode s i).1 ∧ (Utf8.decode s i).1 ≤ 1114111 ∧
    ∀ (j : Nat) (b : UInt8), i ≤ j → j < i + (Utf8.decode s i).2 → s.data.toList[j]? = some b → 128 ≤ b.toNat := by
  have hg (k : Nat) (b : UInt8) (hb : s.data.toList[k]? = some b) : s.get! k = b := by
    have hk : k < s.size := by rw [Lib.size_eq]; exact (List.getElem?_eq_some_iff.1 hb).1
    have h1 := Lib.data_getElem? s k hk
    rw [hb] at h1
    have h2 : s.get! k = s[k] := by
      cases s with | mk d => exact getElem!_pos d k hk
    rw [h2]; exact (Option.some.inj h1).symm
  have h0 : s.get! i = x := hg i x (by rw [← hx]; exact Lib.data_getElem? s i hi)
  have d := dec_high (s.size - i) (s.get! i).toNat (s.get! (i + 1)).toNat (s.get! (i + 2)).toNat (s.get! (i + 3)).toNat (by rw [h0]; exact h) (by omega)
  rw [← Lib.decode_at] at d
  obtain ⟨d1, d2, d3, d4, d5, d6, d7, d8⟩ := d
  refine ⟨d1, by omega, d3, d4, fun j b h1 h2 hb => ?_⟩
  have hb' := hg j b hb
  rcases (show j = i ∨ j = i + 1 ∨ j = i + 2 ∨ j = i + 3 by omega) with rfl | rfl | rfl | rfl
  · rw [h0] at hb'; rw [← hb']; exact h
  · have := d5 (by omega); rw [hb'] at this; omega
  · have := d6 (by omega); rw [hb'] at this; omega
  · have := d7 (by omega); rw [hb'] at this; omega

theorem no_high {cs : ByteArray} (ha : Asc cs) {b : UInt8} (hb : 128 ≤ b.toNat) : cs.data.toList.contains b = false := by
  rw [Bool.eq_false_iff]
  intro h
  have := ha.mem (List.contains_iff_mem.1 h)
  omega

set_option maxHeartbeats 4000000 in
set_option maxRecDepth 100000 in
/-- strings.IndexAny, s of at most 8 bytes, two chars or more. -/
theorem ia_short (s cs : ByteArray) (w : World) (h2 : 2 ≤ cs.size) (hcs : cs.size ≤ 1000000) (h8 : s.size ≤ 8) (ha : Asc cs) :
    Calls Tryf.prog 47 #[.string s, .string cs] w fun e w' => e = .returned (.int .i64 (Lib.indexAny s.data.toList cs.data.toList)) ∧ Below w.heap.size w w' := by
  have HA := hidI ha
  clear ha
  have hemp : cs.toList.isEmpty = false := by
    rw [Lib.toList_data]
    cases h : cs.data.toList with
    | nil => have := Lib.size_eq cs; rw [h, List.length_nil] at this; omega
    | cons _ _ => rfl
  have hn1 : ((cs.size : Int) == 1) = false := beq_eq_false_iff_ne.2 (by omega)
  have h8z : decide ((8 : Int) < (s.size : Int)) = false := decide_eq_false (by omega)
  go_enter Tryf.func47, Tryf.ntmps47
  go_wp2_with (go_at_call 61; refine (Any.strings_shouldUseASCIISet { Tryf.lays153 with } _ _).mono ?_; rintro e w' ⟨rfl, hw⟩; rw [hw, h8z])
  go_loopg [9, 10] s.size (fun g _ _ wx => ∃ i : Nat, i ≤ s.size ∧ s.size ≤ i + g ∧ wx.heap[w.heap.size]? = some (.stringIter s i) ∧ Below w.heap.size w wx ∧ Lib.NoAny s.data.toList cs.data.toList i)
  case atStart => exact ⟨0, by omega, by omega, by simp [World.iter_heap], (Below.refl _ _).alloc (Nat.le_refl _) _, Lib.NoAny.zero _ _⟩
  case round =>
    obtain ⟨i, hi0, hig, hit, hb, hno⟩ := hrel
    have HN := hidI hno
    have HB := hidI hb
    have HIT := hidI hit
    clear hno hb hit
    by_cases hi : i < s.size
    · obtain ⟨x, hx⟩ : ∃ x : UInt8, s[i]'hi = x := ⟨_, rfl⟩
      have hxl : s.data.toList[i]? = some x := by rw [← hx]; exact Lib.data_getElem? s i hi
      have HX := hidI hxl
      clear hxl
      cases gk with
      | zero => omega
      | succ g =>
        by_cases hx128 : x.toNat < 128
        · have hnx := fun ty => Lib.run_next_ascii_at (P := Tryf.prog) wr w.heap.size s i ty HIT.out hi (by rw [hx]; exact hx128)
          rw [hx] at hnx
          have hcon := Lib.contains_iff_indexByte cs.data.toList x
          have hback : ((x.toNat : Int)).toNat.toUInt8 = x := by simp
          clear hx
          cases hin : cs.data.toList.contains x
          · rw [hin] at hcon
            have hlt : ¬ ((0 : Int) ≤ Lib.indexByte cs.data.toList x) := of_decide_eq_false hcon.symm
            clear hcon
            go_wp2_with (go_at_call 60; refine (Any.strings_IndexRune_ascii { Tryf.lays153 with } _ _ _ (by omega) (by omega)).mono ?_; rintro e w' ⟨rfl, hw⟩; rw [hw, hback])
            go_roundg g
            case measure => omega
            case rel => exact ⟨i + 1, by omega, by omega, Lib.iterAt_heap _ _ _ _ _ HIT.out, Lib.below_iterAt HB.out (Nat.le_refl _) _ _, HN.out.succ HX.out hin⟩
          · rw [hin] at hcon
            have hge : (0 : Int) ≤ Lib.indexByte cs.data.toList x := of_decide_eq_true hcon.symm
            clear hcon
            go_wp2_with (go_at_call 60; refine (Any.strings_IndexRune_ascii { Tryf.lays153 with } _ _ _ (by omega) (by omega)).mono ?_; rintro e w' ⟨rfl, hw⟩; rw [hw, hback])
            go_ret
            exact ⟨by rw [Lib.indexAny_hit HN.out HX.out hin]; rfl, Lib.below_iterAt HB.out (Nat.le_refl _) _ _⟩
        · obtain ⟨d1, d2, d3, d4, d5⟩ := dec_at s i x hi hx (by omega)
          have hnx := fun ty => Lib.run_next_any_at (P := Tryf.prog) wr w.heap.size s i ty HIT.out hi
          have HD5 := hidI d5
          clear d5 hx
          obtain ⟨r, hr⟩ : ∃ r, (Utf8.decode s i).1 = r := ⟨_, rfl⟩
          obtain ⟨k, hk⟩ : ∃ k, (Utf8.decode s i).2 = k := ⟨_, rfl⟩
          rw [hr] at hnx d3 d4
          rw [hk] at hnx d1 d2
          have HK := hidI hk
          clear hr hk
          go_wp2_with (go_at_call 60; refine (ir_any _ _ _ hcs HA.out (by omega) (by omega)).mono ?_; rintro e w5 ⟨rfl, hb5⟩)
          go_roundg g
          case measure => omega
          case rel =>
            refine ⟨i + k, by omega, by omega, ?_, ?_, ?_⟩
            · rw [hb5.block w.heap.size (by rw [Lib.iterAt_size]; exact (Array.getElem?_eq_some_iff.1 HIT.out).1)]
              exact Lib.iterAt_heap _ _ _ _ _ HIT.out
            · exact (Lib.below_iterAt HB.out (Nat.le_refl _) s (i + k)).trans (hb5.mono (by rw [Lib.iterAt_size]; exact HB.out.size))
            · intro j b hj hjb
              by_cases hji : j < i
              · exact HN.out j b hji hjb
              · exact no_high HA.out (HD5.out j b (by omega) (by rw [HK.out]; exact hj) hjb)
    · obtain rfl : i = s.size := by omega
      have hnx := fun ty => Lib.run_next_end_at (P := Tryf.prog) wr w.heap.size s s.size ty HIT.out (by omega)
      go_wp2
      go_ret
      exact ⟨by rw [Lib.indexAny_none (by rw [← Lib.size_eq]; exact HN.out)]; rfl, HB.out⟩

/-- strings.IndexAny at whatever string; two ASCII chars or more. -/
theorem ia_c (s cs : ByteArray) (w : World) (hs : s.size ≤ 1000000000) (h2 : 2 ≤ cs.size) (hcs : cs.size ≤ 1000000) (ha : Asc cs) :
    Calls Tryf.prog 47 #[.string s, .string cs] w fun e w' => e = .returned (.int .i64 (Lib.indexAny s.data.toList cs.data.toList)) ∧ Below w.heap.size w w' := by
  by_cases h8 : s.size ≤ 8
  · exact ia_short s cs w h2 hcs h8 ha
  · have h116 : (Tryf.prog.info? (Tryf.lays153_ren.t 116)).map (fun i => (i.zero, i.size)) = some (some (.agg (Array.replicate 256 (.bool false))), 256) := by kernel_rfl
    refine (Any.strings_IndexAny_long Tryf.lays153 (zero_of_info h116).1 (zero_of_info h116).2 s cs w h2 (by omega) (by omega) (by omega) ha).mono fun e w' ⟨h1, h3⟩ => ⟨h1, ?_⟩
    rw [h3]
    exact ((Below.refl _ _).alloc (Nat.le_refl _) _).alloc (by simp) _

end Go.Proofs.Qxb6613956aFmt
