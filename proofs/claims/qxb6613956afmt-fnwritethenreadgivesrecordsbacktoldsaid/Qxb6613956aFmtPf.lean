/-
  THE TOLD AND TIED CARD OF FnWriteThenReadGivesRecordsBack.
-/
import Derived.Test.Qxb6613956aFmtLw
import Derived.Test.Qxb6613956aFmtTie
import Derived.Test.Qxb6613956aFmtCards
import Derived.ProofKit
import Derived.OpenShut
import Derived.LaidMore
import Derived.Lay
import Derived.PinnedBridge
import Derived.SevenTiedAt
import Derived.Stop.Joined
import Derived.Stop.JoinedTold
import Derived.Stop.LaidTwo
import Derived.Deep.DeepWitnessRef
import Derived.Deep.Slices
import Derived.SliceStrings
import Derived.Carry
namespace Go.Proofs.Qxb6613956aFmt
open Go.ChangeShapes Go.WideShapes Go.ChangeAt Go.RowKit Go.Deep
open Go.Extern.Stop Go.Stop Go.Extern

theorem own : ownKnob Tryf.prog.godebug = none := by kernel_rfl
theorem laidOut : laidOutB Tryf.prog = true := by kernel_rfl
theorem Tryf.cells9 : Tryf.prog.cellsOf 9 = 1 := by kernel_rfl
theorem Tryf.cells24 : Tryf.prog.cellsOf 24 = 1 := by kernel_rfl
/-- The name of the errors' type, as the row's own data spell it. -/
abbrev errNm : String := match (Rows.laid_io_EOF : DataW Unit) with
  | .iface nm _ => nm
  | _ => ""
set_option maxRecDepth 10000 in
theorem row129 (u : TypeId) (h : Tryf.prog.typeName? 3 u = some errNm) : u = 129 :=
  typeName_ptr_named (nm := "errors.errorString") (by kernel_rfl) (by kernel_rfl) (by decide) u (h.trans (by kernel_rfl))
theorem gMax (W : World) (h : W.ShapedOpen Tryf.prog) : ∃ m, W.cell? ⟨5, 0, none⟩ = some (.int .i64 m) :=
  cell_of_shapedOpen_int (zero := #[.int .i64 0]) (t := 3) h (of_decide_eq_true (by kernel_rfl)) (by kernel_rfl) rfl (by kernel_rfl) (by kernel_rfl) Tryf.underlying3

/-- A []string down in the datum. -/
theorem open_rec {H : Type} {enc : TypeId × Value → H} {W : World} {fuel : Nat} {v : Value} {x : DataW H × List MemPlace} (hf : DataW.trod enc Tryf.prog W 0 (fun _ => true) true fuel 24 [v] = some x) : ∃ ys, Rec W v ys := by
  rcases open_strings Tryf.underlying24 Tryf.underlying9 Tryf.cells9 hf with ⟨hcs, hx⟩ | ⟨a, len, cap, ss, hcs, _, hl, hm, hz, hx, hcell, hsz⟩
  · simp at hcs
    exact ⟨[], none, 0, by rw [hcs]; rfl, fun h => absurd h (by simp)⟩
  · simp at hcs
    simp only [if_true] at hz
    obtain ⟨b, off, spot⟩ := a
    have hlen : ((ss.take len).map (·.data.toList)).length = len := by simp; omega
    refine ⟨(ss.take len).map (·.data.toList), some ⟨b, off, spot⟩, cap, by rw [hlen]; exact hcs, fun h0 => ?_⟩
    have hspot : spot = none := by simpa [Addr.add] using World.cell?_spot (hcell 0 (by omega))
    subst hspot
    refine ⟨b, off, rfl, fun j y hy => ?_⟩
    have hj : j < len := by
      have := (List.getElem?_eq_some_iff.1 hy).1
      omega
    rw [List.getElem?_map, List.getElem?_take_of_lt hj] at hy
    obtain ⟨X, hX, rfl⟩ := Option.map_eq_some_iff.1 hy
    have hX' : ss.getD j ByteArray.empty = X := by simp [List.getD, hX]
    rw [← add_plain]
    have := hcell j (by omega)
    rw [hX'] at this
    rw [this]
/-- The [][]string that comes in. -/
theorem open_recs {H : Type} {enc : TypeId × Value → H} {W : World} {fuel : Nat} {v : Value} {x : DataW H × List MemPlace} (hf : DataW.trod enc Tryf.prog W 0 (fun _ => true) true fuel 22 [v] = some x) : ∃ rs, Recs W v rs := by
  rcases open_slice1 Tryf.underlying22 Tryf.cells24 hf with ⟨hcs, hx⟩ | ⟨a, len, cap, m, n, V, D, Pl, hcs, hb, hl, hm, hmm, _, hx⟩
  · simp at hcs
    exact ⟨[], none, 0, by rw [hcs]; rfl, fun h => absurd h (by simp)⟩
  · simp at hcs
    simp only [if_true] at hmm
    subst hmm
    obtain ⟨Y, hY⟩ := choose_lt (fun i (hi : i < m) => open_rec (hx i hi).2)
    have hlen : ((List.range len).map Y).length = len := by simp
    refine ⟨(List.range len).map Y, some a, m, by rw [hlen]; exact hcs, fun h0 => ?_⟩
    rw [hlen] at h0
    obtain ⟨b, off, spot⟩ := a
    have hspot : spot = none := by simpa [Addr.add] using World.cell?_spot ((hx 0 (by omega)).1)
    subst hspot
    refine ⟨b, off, rfl, fun j ys hj => ?_⟩
    have hjl : j < len := by
      have := (List.getElem?_eq_some_iff.1 hj).1
      omega
    rw [List.getElem?_map, List.getElem?_range hjl] at hj
    obtain rfl := Option.some.inj hj
    refine ⟨V j, ?_, hY j (by omega)⟩
    rw [← add_plain]
    exact (hx j (by omega)).1

/-- What the row lists, as the walks want it. -/
theorem glob_of {W : World} (hL : laidMet Tryf.prog Rows.fnWriteThenReadGivesRecordsBackRow.laid W) (hsh : W.ShapedOpen Tryf.prog) : ∃ ae a2 m, Glob W ae a2 m := by
  obtain ⟨m, hm⟩ := gMax W hsh
  obtain ⟨a0, a1, s0, s1, c0, c1, t0, t1, hv0, _, hc0, hs0, _, _, _, _, _, hb0, _⟩ := laid_sentinels2 (g0 := 0) (g1 := 4) hL.tail.tail (by kernel_rfl) (by kernel_rfl) (by kernel_rfl) (by kernel_rfl) Tryf.underlying55 row129 Tryf.underlying129 Tryf.underlying131 rfl rfl Tryf.underlying9 (by kernel_rfl) (by kernel_rfl)
  obtain ⟨b0, b1, r0, r1, d0, d1, u0, u1, hw0, _, he0, hr0, _, _, _, _, _, hf0, _⟩ := laid_sentinels2 (g0 := 2) (g1 := 3) hL.tail.tail.tail.tail (by kernel_rfl) (by kernel_rfl) (by kernel_rfl) (by kernel_rfl) Tryf.underlying55 row129 Tryf.underlying129 Tryf.underlying131 rfl rfl Tryf.underlying9 (by kernel_rfl) (by kernel_rfl)
  refine ⟨a0, b0, m, World.var?_cell (by kernel_rfl) hv0 0, World.var?_cell (by kernel_rfl) hw0 0, hm, World.block_lt_of_cell? W _ hm, ?_, ⟨c0, t0, hb0⟩, ⟨d0, u0, hf0⟩⟩
  rintro rfl
  rw [hc0] at he0
  have h9 := congrArg (fun o : Option Value => match o with | some (.string s) => s.data.toList | _ => []) he0
  simp only at h9
  rw [hs0, hr0] at h9
  exact absurd h9 (by decide)

/-- The wrap for a told row that lists variables, handing the contract the world's shape too. -/
theorem told_shaped {H : Type} {enc : TypeId × Value → H} {a : Assume} {C : Checked} {os : Os} {f : FuncId} {fn : Func} {s : OpenSpec} {conds : List PathCond} {apart fresh handsOn again : Bool} {laid : List (String × DataW Unit)}
    (enter : C.prog.mayEnter = true) (own : ownKnob C.prog.godebug = none) (started : os.Started) (noInit : C.prog.inits.idxOf? f = none) (hfn : C.prog.funcs[f]? = some fn)
    (witness : ∀ F : Stop.Interp, ∃ (w : World) (tape : Tape) (i : Input), w.os = os ∧ (w.forCall tape i).Shaped C.prog ∧ i.vars = [] ∧ Input.okWide C.prog (w.forCall tape i) .any w.heap.size f i ∧
      s.preRow enc C.prog fn conds apart laid (w.forCall tape i).memory i.args ∧ a.holds C.prog (lone (Frame.enter C.prog f i.args .normal) [] (w.forCall tape i)) ∧ F.answers tape)
    (contract : ∀ (F : Stop.Interp) (W : World) (base : Nat) (args : Array Value) (ds gs : List (DataW H)) (before : List MemPlace),
      (∀ (j : Nat) t v, fn.params[j]? = some t → args[j]? = some v → Value.okWide C.prog W .any base t v) →
      DataW.Whole enc C.prog fn.params.toList s.vars apart W args.toList ds gs before →
      laidMetH C.prog laid W → W.ShapedOpen C.prog →
      Calls C.prog f args W fun e W' => ∃ v, e = .returned v ∧ (s.at F.told).post enc C.prog fn apart fresh handsOn again W args v W') :
    ReturnsInTold none a C os f .any Input.okWide (s.preRow enc C.prog fn conds apart laid) (fun F => (s.at F).post enc C.prog fn apart fresh handsOn again) (aloneAtReturn C.prog) nothingAlways := by
  intro F
  show ReturnsInOpen a (some F.told) C os f .any Input.okWide _ _ (aloneAtReturn C.prog) nothingAlways
  refine returnsInOpen_of_calls_wide enter own started noInit (witness F.told) ?_
  intro w tape i _ hsh _ hok hpre _ _
  obtain ⟨_, _, _, fn', hfn', _, _, _, _, hval⟩ := hok
  obtain rfl : fn' = fn := Option.some.inj (hfn'.symm.trans hfn)
  obtain ⟨⟨hp, hl⟩, _⟩ := hpre
  obtain ⟨ds, gs, before, hw, _, _⟩ := OpenSpec.pre_parts hp
  have hw' := DataW.Whole.of_heap (w' := w.forCall tape i) (by rfl) hw
  refine (contract F (w.forCall tape i) w.heap.size i.args ds gs before hval hw' (hl.of_heap (by rfl)) (by first | exact hsh | exact World.shapedOpen_of_shaped hsh)).mono fun e W' ⟨v, he, hp⟩ => ?_
  subst he
  exact ChangeSpec.post_blind hp

abbrev theRow := Rows.fnWriteThenReadGivesRecordsBackRow
abbrev theSpec := Rows.fnWriteThenReadGivesRecordsBackSpec
set_option maxRecDepth 100000 in
theorem witness (os : Os) (H : Type) (enc : TypeId × Value → H) (F : Stop.Interp) : ∃ (w : World) (tape : Tape) (i : Input), w.os = os ∧ (w.forCall tape i).Shaped Tryf.checked.prog ∧ i.vars = [] ∧ Input.okWide Tryf.checked.prog (w.forCall tape i) .any w.heap.size 3 i ∧
      (OpenSpec.ofChange theSpec).preRow enc Tryf.checked.prog Tryf.f3 theRow.domain false theRow.laid (w.forCall tape i).memory i.args ∧ ({} : Assume).holds Tryf.checked.prog (lone (Frame.enter Tryf.checked.prog 3 i.args .normal) [] (w.forCall tape i)) ∧ F.answers tape := by
  have hsh : ((World.laidAll Tryf.prog os theRow.laid).forCall (fun _ _ => 0) ⟨#[], #[.slice none 0 0], []⟩).Shaped Tryf.checked.prog := World.shaped_of_ZipB (by kernel_rfl) (by kernel_rfl)
  have hok : Input.okWideB Tryf.checked.prog ((World.laidAll Tryf.prog os theRow.laid).forCall (fun _ _ => 0) ⟨#[], #[.slice none 0 0], []⟩) 3 ⟨#[], #[.slice none 0 0], []⟩ = true := by kernel_rfl
  have hx : laidMetH Tryf.prog theRow.laid ((World.laidAll Tryf.prog os theRow.laid).forCall (fun _ _ => 0) ⟨#[], #[.slice none 0 0], []⟩).memory := by
    rw [MakeChecks.laidMetH_plain _ _ _ (by kernel_rfl)]
    exact laidMet_laidAll _ (by kernel_rfl) (by kernel_rfl)
  have hrow : (OpenSpec.ofChange theSpec).preRow enc Tryf.checked.prog Tryf.f3 theRow.domain false theRow.laid ((World.laidAll Tryf.prog os theRow.laid).forCall (fun _ _ => 0) ⟨#[], #[.slice none 0 0], []⟩).memory #[.slice none 0 0] :=
    OpenSpec.preRow_of_B rfl 8 (by kernel_rfl) (by kernel_rfl) hx
  refine ⟨World.laidAll Tryf.prog os theRow.laid, F.over fun _ _ => 0, ⟨#[], #[.slice none 0 0], []⟩, World.laidAll_os _ _ _, hsh, (Input.okWide_of_okWideB (base := 0) hok).1, (Input.okWide_of_okWideB hok).2, hrow, ?_, F.over_answers _⟩
  simp only [Assume.holds]
  exact ⟨by simp, by simp, fun _ => F.over_modest Modest.zero, by simp, by simp⟩

set_option maxRecDepth 100000 in
theorem lifted (os : Os) (started : os.Started) (H : Type) (enc : TypeId × Value → H) :
    ReturnsInTold none {} Tryf.checked os 3 .any Input.okWide ((OpenSpec.ofChange theSpec).preRow enc Tryf.prog Tryf.f3 theRow.domain false theRow.laid) (fun F => ((OpenSpec.ofChange theSpec).at F).post enc Tryf.prog Tryf.f3 false true false false) (aloneAtReturn Tryf.prog) nothingAlways := by
  refine told_shaped (C := Tryf.checked) (s := OpenSpec.ofChange theSpec) (by kernel_rfl) own started (by kernel_rfl) Tryf.func3 (witness os H enc) ?_
  intro F W base args ds gs before hval0 hW hL hsh
  have hval : ∀ (j : Nat) t v, Tryf.f3.params[j]? = some t → args[j]? = some v → Value.okWide Tryf.prog W .any base t v := hval0
  have hW' := hW
  obtain ⟨p, q, hA0, hV, rfl, _, _⟩ := hW
  have hA : DataW.TrodAll enc Tryf.prog W 0 (fun _ => true) true Tryf.f3.params.toList args.toList ds p := hA0
  rw [Tryf.params3] at hA hval
  obtain ⟨v0, d0, rfl, rfl, h0⟩ := trodAll_one hA
  obtain ⟨rfl, rfl⟩ := trodVars_none hV
  obtain ⟨a0, len, cap, rfl⟩ := okWide_slice Tryf.underlying22 (hval 0 22 v0 rfl rfl)
  have h0k := h0
  obtain ⟨fuel0, hf0⟩ := h0
  simp only [List.append_nil] at hW'
  have hlt : ∀ x ∈ p, x.block < W.heap.size := fun x hx => by simpa using hW'.lt x hx
  obtain ⟨rs, hrs⟩ := open_recs hf0
  have hL' : laidMetH Tryf.prog theRow.laid W := hL
  rw [MakeChecks.laidMetH_plain _ _ _ (by kernel_rfl)] at hL'
  obtain ⟨ae, a2, m, g⟩ := glob_of hL' hsh
  refine (law_c _ rs ae a2 m W hrs g).mono fun e W' ⟨he, hb⟩ => ?_
  subst he
  exact ⟨_, rfl, _, _, _, [], p, [], hW', trodAll_mk1 (shut_bool Tryf.underlying4 _), trodAll_mk1 (Below.trod laidOut (by kernel_rfl) (of_decide_eq_true (by kernel_rfl)) h0k hb hlt), rfl, hb.frame _, fun h => by cases h⟩

theorem stops : Tryf.pinned.checked.prog.stops = ["fmt.errorf"] := by kernel_rfl
theorem stopKnobs : Tryf.pinned.checked.prog.stopKnobs = [] := by kernel_rfl
theorem quiet (os : Os) : Stop.quiet Tryf.pinned.checked.prog os := by
  intro k hk
  rw [stopKnobs] at hk
  cases hk
theorem proved : Rows.FnWriteThenReadGivesRecordsBackToldSaid :=
  Claim7.holds_of_told_tied_any_at .later 3 Tryf.f3 "fmt.errorf" [] [] _ _ _ _ _ (by kernel_rfl) rfl rfl rfl laidOut (by kernel_rfl) rfl ⟨rfl, rfl, rfl, rfl, rfl, rfl, rfl⟩ rfl rfl (by kernel_rfl) (by kernel_rfl) Tryf.func3 (by kernel_rfl)
    (of_decide_eq_true (by kernel_rfl)) (of_decide_eq_true (by kernel_rfl)) stops.symm rfl stopKnobs.symm (by kernel_rfl)
    (by kernel_rfl) (by kernel_rfl) (by kernel_rfl) (by kernel_rfl) (by kernel_rfl) (by kernel_rfl) (by kernel_rfl) (by kernel_rfl) (by kernel_rfl) rfl (by kernel_rfl) rfl rfl
    rfl rfl
    rfl (by kernel_rfl) (by kernel_rfl) (by kernel_rfl) (by decide) (by kernel_rfl) fnWriteThenReadGivesRecordsBack_row_tie
    (OpenClaim.moreEntering_of (by kernel_rfl) (by kernel_rfl) (by kernel_rfl) (by kernel_rfl) (by kernel_rfl) (by kernel_rfl) (by kernel_rfl) (by kernel_rfl) (by kernel_rfl) (by kernel_rfl))
    ⟨_, WideRow.started_initial, quiet _⟩
    (fun os started _ H enc _ => lifted os started H enc)
end Go.Proofs.Qxb6613956aFmt
