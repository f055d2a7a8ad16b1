/-
  THE ROW OF FnWordsPreconditionCaseFree, AND ITS TIED CARD.
-/
import Derived.Test.Qxb6606333aDoorLaw
import Derived.Test.Qxb6606333aDoorTie
import Derived.Test.Qxb6606333aDoorCards
import Derived.ProofKit
import Derived.OpenShut
import Derived.LaidMore
import Derived.Lay
import Derived.PinnedBridge
import Derived.Lib.LaidU8
import Derived.Lib.LaidCase
import Derived.Shelf.Vars
import Derived.SevenTiedAt
import Derived.Stop.Joined
namespace Go.Proofs.Qxb6606333aDoor
open Go.ChangeShapes Go.WideShapes Go.ChangeAt Go.RowKit Go.Shelf
open Go.ChangeMaps (open_string shut_string)

theorem own : ownKnob Tryd.prog.godebug = none := by kernel_rfl

/-- The wrap for a row that lists variables, handing the contract the world's shape too. -/
theorem handed_shaped {H : Type} {enc : TypeId × Value → H} {a : Assume} {C : Checked} {os : Os} {f : FuncId} {fn : Func} {s : ChangeSpec} {conds : List PathCond} {apart fresh handsOn again : Bool} {X : World → Array Value → Prop}
    (hX : ∀ (w w' : World) (args : Array Value), w.heap = w'.heap → X w args → X w' args)
    (own : ownKnob C.prog.godebug = none) (started : os.Started) (noInit : C.prog.inits.idxOf? f = none) (hfn : C.prog.funcs[f]? = some fn)
    (witness : ∃ (w : World) (tape : Tape) (i : Input), w.os = os ∧ (w.forCall tape i).Shaped C.prog ∧ i.vars = [] ∧ Input.okWide C.prog (w.forCall tape i) .any w.heap.size f i ∧
      ((s.pre enc C.prog fn conds apart (w.forCall tape i).memory i.args ∧ X (w.forCall tape i).memory i.args) ∧ sizedMet enc C.prog fn (OpenSpec.ofChange s) apart (w.forCall tape i).memory i.args) ∧ a.holds C.prog (lone (Frame.enter C.prog f i.args .normal) [] (w.forCall tape i)))
    (contract : ∀ (W : World) (base : Nat) (args : Array Value) (ds gs : List (DataW H)) (before : List MemPlace),
      (∀ (j : Nat) t v, fn.params[j]? = some t → args[j]? = some v → Value.okWide C.prog W .any base t v) →
      DataW.Whole enc C.prog fn.params.toList s.vars apart W args.toList ds gs before → X W args → W.ShapedOpen C.prog →
      Calls C.prog f args W fun e W' => ∃ v, e = .returned v ∧ s.post enc C.prog fn apart fresh handsOn again W args v W') :
    ReturnsInHanded a C os f .any (fun w args => (s.pre enc C.prog fn conds apart w args ∧ X w args) ∧ sizedMet enc C.prog fn (OpenSpec.ofChange s) apart w args) (s.post enc C.prog fn apart fresh handsOn again) := by
  refine returnsInHanded_of_calls own started noInit witness ?_
  intro w tape i _ hsh _ hok hpre _
  obtain ⟨_, _, _, fn', hfn', _, _, _, _, hval⟩ := hok
  obtain rfl : fn' = fn := Option.some.inj (hfn'.symm.trans hfn)
  obtain ⟨⟨⟨ds, gs, before, hw, _⟩, hx⟩, _⟩ := hpre
  have hw' := DataW.Whole.of_heap (w' := w.forCall tape i) (by rfl) hw
  refine (contract (w.forCall tape i) w.heap.size i.args ds gs before hval hw' (hX _ _ _ (by rfl) hx) hsh).mono fun e W' ⟨v, he, hp⟩ => ?_
  subst he
  exact ChangeSpec.post_blind hp

theorem ascii_eq : (Rows.laid_strings_asciiSpace : DataW Unit) = Lib.tabData .u8 Lib.asciiSpaceTab := by kernel_rfl
theorem white_eq : (Rows.laid_unicode_White_Space : DataW Unit) = Lib.whiteData := by kernel_rfl
theorem accept_eq : (Rows.laid_unicode_utf8_acceptRanges : DataW Unit) = Lib.acceptData := by kernel_rfl
theorem gMax (W : World) (h : W.ShapedOpen Tryd.prog) : ∃ m, W.cell? ⟨2, 0, none⟩ = some (.int .i64 m) :=
  cell_of_shapedOpen_int (zero := #[.int .i64 0]) (t := 3) h (of_decide_eq_true (by kernel_rfl)) (by kernel_rfl) rfl (by kernel_rfl) (by kernel_rfl) Tryd.underlying3
theorem tabIs_of_reads {W : World} (h : Lib.VarReads Tryd.prog W "strings.asciiSpace" (Lib.tabData .u8 Lib.asciiSpaceTab)) : Lib.TabIs Tryd.prog W "strings.asciiSpace" .u8 Lib.asciiSpaceTab := by
  obtain ⟨g, t, cs, fuel, p, hg, ht, hv, hd⟩ := h
  obtain rfl := Option.some.inj ((show Tryd.prog.globalNamed "strings.asciiSpace" = some 0 by kernel_rfl).symm.trans hg)
  obtain rfl := Option.some.inj ((show (Tryd.prog.globals[0]?).map (·.type) = some 35 by kernel_rfl).symm.trans ht)
  unfold Lib.TabIs
  rw [hv, ← Lib.cells_of_tab (n := 256) Tryd.underlying35 Tryd.underlying5 (by kernel_rfl) (by kernel_rfl) hd]

/-- WHAT THE ROW LISTS GIVES THE CONTRACTS THEIR TABLES. -/
theorem tabs_of {W : World} (hL : laidMet Tryd.prog Rows.fnWordsPreconditionCaseFreeRow.laid W) (hsh : W.ShapedOpen Tryd.prog) : Tabs W :=
  ⟨tabIs_of_reads (ascii_eq ▸ Lib.laidMet.reads hL (.tail _ (.tail _ (.head _)))),
   utf8Tabs_of_reads (ρ := Tryd.lays163_ren) { Tryd.lays163 with } ⟨by kernel_rfl, by kernel_rfl, by kernel_rfl, by kernel_rfl, by kernel_rfl, by kernel_rfl, by kernel_rfl⟩
     (Pinned.utf8First_eq ▸ Lib.laidMet.reads hL (.tail _ (.tail _ (.tail _ (.tail _ (.head _)))))) (accept_eq ▸ Lib.laidMet.reads hL (.head _)),
   whiteTab_of_reads (ρ := Tryd.lays163_ren) { Tryd.lays163 with } ⟨by kernel_rfl, by kernel_rfl, by kernel_rfl, by kernel_rfl, by kernel_rfl, by kernel_rfl, by kernel_rfl, by kernel_rfl⟩
     (white_eq ▸ Lib.laidMet.reads hL (.tail _ (.head _))),
   caseVar_of_reads (ρ := Tryd.lays159_ren) { Tryd.lays159 with } Tryd.lays159.t206 ⟨by kernel_rfl, by kernel_rfl, by kernel_rfl, by kernel_rfl, by kernel_rfl, by kernel_rfl⟩
     (Pinned.caseRanges_eq ▸ Lib.laidMet.reads hL (.tail _ (.tail _ (.tail _ (.head _))))),
   gMax W hsh⟩

set_option maxRecDepth 100000 in
theorem lifted (os : Os) (started : os.Started) (H : Type) (enc : TypeId × Value → H) :
    ReturnsInHanded {} Tryd.checked os 4 .any (fun w args => (Rows.fnWordsPreconditionCaseFreeSpec.pre enc Tryd.prog Tryd.f4 Rows.fnWordsPreconditionCaseFreeRow.domain false w args ∧ laidMetH Tryd.prog Rows.fnWordsPreconditionCaseFreeRow.laid w) ∧ sizedMet enc Tryd.prog Tryd.f4 (OpenSpec.ofChange Rows.fnWordsPreconditionCaseFreeSpec) false w args)
      (Rows.fnWordsPreconditionCaseFreeSpec.post enc Tryd.prog Tryd.f4 false true false false) := by
  refine handed_shaped (C := Tryd.checked) (X := fun w _ => laidMetH Tryd.prog Rows.fnWordsPreconditionCaseFreeRow.laid w) (fun _ _ _ hh h => h.of_heap hh) own started (by kernel_rfl) Tryd.func4
    (ChangeSpec.witness_shaped (enc := enc) (C := Tryd.checked) (os := os) (X := fun w _ => laidMetH Tryd.prog Rows.fnWordsPreconditionCaseFreeRow.laid w) false (World.laidAll Tryd.prog os Rows.fnWordsPreconditionCaseFreeRow.laid) #[.string ByteArray.empty, .string ByteArray.empty] 8 (World.laidAll_os _ _ _)
      (World.shaped_of_ZipB (by kernel_rfl) (by kernel_rfl)) (by kernel_rfl) (by kernel_rfl) (by kernel_rfl)
      (by rw [MakeChecks.laidMetH_plain _ _ _ (by kernel_rfl)]; exact laidMet_laidAll _ (by kernel_rfl) (by kernel_rfl))) ?_
  intro W base args ds gs before hval0 hW hL hsh
  have hval : ∀ (j : Nat) t v, Tryd.f4.params[j]? = some t → args[j]? = some v → Value.okWide Tryd.prog W .any base t v := hval0
  have hW' := hW
  obtain ⟨p, q, hA0, hV, rfl, _, _⟩ := hW
  have hA : DataW.TrodAll enc Tryd.prog W 0 (fun _ => true) true Tryd.f4.params.toList args.toList ds p := hA0
  rw [Tryd.params4] at hA hval
  obtain ⟨v0, v1, d0, d1, p0, p1, rfl, rfl, rfl, h0, h1⟩ := trodAll_two hA
  obtain ⟨rfl, rfl⟩ := trodVars_none hV
  obtain ⟨s, rfl, rfl, rfl, hs⟩ := open_string Tryd.underlying9 (hval 0 9 v0 rfl rfl) h0
  obtain ⟨m, rfl, rfl, rfl, hm⟩ := open_string Tryd.underlying9 (hval 1 9 v1 rfl rfl) h1
  simp only [List.append_nil] at hW'
  rw [MakeChecks.laidMetH_plain _ _ _ (by kernel_rfl)] at hL
  refine (law s m W hs hm (tabs_of hL hsh)).mono fun e W' ⟨he, hb⟩ => ?_
  subst he
  exact ⟨_, rfl, _, _, _, [], [], [], hW', trodAll_mk1 (shut_bool Tryd.underlying4 _), trodAll_mk2 (shut_string Tryd.underlying9 hs) (shut_string Tryd.underlying9 hm), rfl, hb.frame _, fun h => by cases h⟩

theorem holds : Rows.FnWordsPreconditionCaseFreeSaid :=
  OpenClaim.holds_of_wide 4 Tryd.f4 rfl rfl rfl rfl rfl rfl rfl ⟨rfl, rfl, rfl, rfl, rfl⟩ rfl rfl rfl rfl rfl (by kernel_rfl) Tryd.func4 (by kernel_rfl)
    (of_decide_eq_true (by kernel_rfl)) (by unfold Func.isWrapper; first | (rw [if_pos (by decide +kernel)]; kernel_rfl) | (rw [if_neg (by decide +kernel)]; exact ⟨rfl, rfl⟩))
    (fun os started H enc _ => lifted os started H enc)

theorem proved : Rows.FnWordsPreconditionCaseFreeCardSaid :=
  Claim7.holds_tied_plain_at .later [] [.data, .listed, .data, .pinned, .pinned] true (true, "31d63f36572c0ac0582320a2870ccd0cfbe2991531240ed49aafa0386edd4b14") false holds (fun _ h => by cases h) (by kernel_rfl) (fun _ h => by cases h) fnWordsPreconditionCaseFree_row_tie rfl ⟨rfl, rfl⟩ (by kernel_rfl) rfl
    (fun f fn hf hfn => by
      obtain rfl : f = 4 := Option.some.inj ((show Tryd.prog.funcNamed Rows.fnWordsPreconditionCaseFreeRow.func = some 4 by kernel_rfl).symm.trans hf) |>.symm
      obtain rfl : fn = Tryd.f4 := (Option.some.inj (Tryd.func4.symm.trans hfn)).symm
      exact ⟨by kernel_rfl, fun j t ht => by
        rw [Tryd.params4] at ht
        have hm : t ∈ [9, 9] := by simpa using Array.mem_of_getElem? ht
        have hall : ([9, 9].all fun u => !Tryd.prog.wantsStandIn u) = true := by kernel_rfl
        exact (show Tryd.prog.wantsStandIn t = false by simpa using List.all_eq_true.1 hall t hm)⟩)
    (by kernel_rfl)
#print axioms proved
end Go.Proofs.Qxb6606333aDoor
