/-
  THE ROW OF FnIsUpperPairsWithCaseBit, AND ITS TIED CARD.
-/
import Derived.Test.Qxb6613651aDoorLaw
import Derived.Test.Qxb6613651aDoorTie
import Derived.Test.Qxb6613651aDoorCards
import Derived.ProofKit
import Derived.OpenShut
import Derived.LaidMore
import Derived.Lay
import Derived.PinnedBridge
import Derived.Shelf.Vars
import Derived.SevenTiedAt
import Derived.Stop.Joined
namespace Go.Proofs.Qxb6613651aDoor
open Go.ChangeShapes Go.WideShapes Go.ChangeAt Go.RowKit Go.Shelf

theorem own : ownKnob Tryd.prog.godebug = none := by kernel_rfl
theorem gMax (W : World) (h : W.ShapedOpen Tryd.prog) : ∃ m, W.cell? ⟨1, 0, none⟩ = some (.int .i64 m) :=
  cell_of_shapedOpen_int (zero := #[.int .i64 0]) (t := 3) h (of_decide_eq_true (by kernel_rfl)) (by kernel_rfl) rfl (by kernel_rfl) (by kernel_rfl) Tryd.underlying3
theorem byte_of {n : Int} (h : (Lit.int .u8 n).wf = true) : ∃ c : UInt8, n = (c.toNat : Int) := by
  have h1 : 0 ≤ n ∧ n < 256 := by
    have e1 : IntKind.u8.min = 0 := by decide
    have e2 : IntKind.u8.max = 255 := by decide
    simp [Lit.wf, e1, e2] at h
    omega
  refine ⟨UInt8.ofNat n.toNat, ?_⟩
  have h2 : n.toNat < 256 := by omega
  have h3 : (UInt8.ofNat n.toNat).toNat = n.toNat := by simp; omega
  rw [h3]; omega

/-- The wrap for a row that lists variables, handing the contract the world's shape too. -/
theorem handed_shaped {H : Type} {enc : TypeId × Value → H} {a : Assume} {C : Checked} {os : Os} {f : FuncId} {fn : Func} {s : ChangeSpec} {conds : List PathCond} {apart fresh handsOn again : Bool} {X : World → Array Value → Prop}
    (hX : ∀ (w w' : World) (args : Array Value), w.heap = w'.heap → X w args → X w' args)
    (own : ownKnob C.prog.godebug = none) (started : os.Started) (noInit : C.prog.inits.idxOf? f = none) (hfn : C.prog.funcs[f]? = some fn)
    (witness : ∃ (w : World) (tape : Tape) (i : Input), w.os = os ∧ (w.forCall tape i).Shaped C.prog ∧ i.vars = [] ∧ Input.okWide C.prog (w.forCall tape i) .any w.heap.size f i ∧
      ((s.pre enc C.prog fn conds apart (w.forCall tape i).memory i.args ∧ X (w.forCall tape i).memory i.args) ∧ sizedMet enc C.prog fn (OpenSpec.ofChange s) apart (w.forCall tape i).memory i.args) ∧ a.holds C.prog (lone (Frame.enter C.prog f i.args .normal) [] (w.forCall tape i)))
    (contract : ∀ (W : World) (base : Nat) (args : Array Value) (ds gs : List (DataW H)) (before : List MemPlace),
      (∀ (j : Nat) t v, fn.params[j]? = some t → args[j]? = some v → Value.okWide C.prog W .any base t v) →
      DataW.Whole enc C.prog fn.params.toList s.vars apart W args.toList ds gs before → X W args → W.ShapedOpen C.prog →
      Calls C.prog f args W fun e W' => ∃ v, e = .returned v ∧ s.post enc C.prog fn apart fresh handsOn again W args v W') :
    ReturnsInHanded a C os f .any (fun w args => (s.pre enc C.prog fn conds apart w args ∧ X w args) ∧ sizedMet enc C.prog fn (OpenSpec.ofChange s) apart w args) (s.post enc C.prog fn apart fresh handsOn again) := by
  refine returnsInHanded_of_calls own started noInit witness ?_
  intro w tape i _ hsh _ hok hpre _
  obtain ⟨_, _, _, fn', hfn', _, _, _, _, hval⟩ := hok
  obtain rfl : fn' = fn := Option.some.inj (hfn'.symm.trans hfn)
  obtain ⟨⟨⟨ds, gs, before, hw, _⟩, hx⟩, _⟩ := hpre
  have hw' := DataW.Whole.of_heap (w' := w.forCall tape i) (by rfl) hw
  refine (contract (w.forCall tape i) w.heap.size i.args ds gs before hval hw' (hX _ _ _ (by rfl) hx) hsh).mono fun e W' ⟨v, he, hp⟩ => ?_
  subst he
  exact ChangeSpec.post_blind hp

set_option maxRecDepth 100000 in
theorem lifted (os : Os) (started : os.Started) (H : Type) (enc : TypeId × Value → H) :
    ReturnsInHanded {} Tryd.checked os 6 .any (fun w args => (Rows.fnIsUpperPairsWithCaseBitSpec.pre enc Tryd.prog Tryd.f6 Rows.fnIsUpperPairsWithCaseBitRow.domain false w args ∧ laidMetH Tryd.prog Rows.fnIsUpperPairsWithCaseBitRow.laid w) ∧ sizedMet enc Tryd.prog Tryd.f6 (OpenSpec.ofChange Rows.fnIsUpperPairsWithCaseBitSpec) false w args)
      (Rows.fnIsUpperPairsWithCaseBitSpec.post enc Tryd.prog Tryd.f6 false true false false) := by
  refine handed_shaped (C := Tryd.checked) (X := fun w _ => laidMetH Tryd.prog Rows.fnIsUpperPairsWithCaseBitRow.laid w) (fun _ _ _ hh h => h.of_heap hh) own started (by kernel_rfl) Tryd.func6
    (ChangeSpec.witness_shaped (enc := enc) (C := Tryd.checked) (os := os) (X := fun w _ => laidMetH Tryd.prog Rows.fnIsUpperPairsWithCaseBitRow.laid w) false (World.laidAll Tryd.prog os Rows.fnIsUpperPairsWithCaseBitRow.laid) #[.int .u8 0] 8 (World.laidAll_os _ _ _)
      (World.shaped_of_ZipB (by kernel_rfl) (by kernel_rfl)) (by kernel_rfl) (by kernel_rfl) (by kernel_rfl)
      (by rw [MakeChecks.laidMetH_plain _ _ _ (by kernel_rfl)]; exact laidMet_laidAll _ (by kernel_rfl) (by kernel_rfl))) ?_
  intro W base args ds gs before hval0 hW _ hsh
  have hval : ∀ (j : Nat) t v, Tryd.f6.params[j]? = some t → args[j]? = some v → Value.okWide Tryd.prog W .any base t v := hval0
  have hW' := hW
  obtain ⟨p, q, hA0, hV, rfl, _, _⟩ := hW
  have hA : DataW.TrodAll enc Tryd.prog W 0 (fun _ => true) true Tryd.f6.params.toList args.toList ds p := hA0
  rw [Tryd.params6] at hA hval
  obtain ⟨v0, d0, rfl, rfl, h0⟩ := trodAll_one hA
  obtain ⟨rfl, rfl⟩ := trodVars_none hV
  obtain ⟨n, rfl, rfl, rfl, hn⟩ := open_int Tryd.underlying5 (hval 0 5 v0 rfl rfl) h0
  obtain ⟨c, rfl⟩ := byte_of hn
  obtain ⟨m, hm⟩ := gMax W hsh
  simp only [List.append_nil] at hW'
  refine (law c m W hm).mono fun e W' ⟨he, hb⟩ => ?_
  subst he
  exact ⟨_, rfl, _, _, _, [], [], [], hW', trodAll_mk1 (shut_bool Tryd.underlying4 _), trodAll_mk1 (shut_int Tryd.underlying5 hn), rfl, hb.frame _, fun h => by cases h⟩

theorem holds : Rows.FnIsUpperPairsWithCaseBitSaid :=
  OpenClaim.holds_of_wide 6 Tryd.f6 rfl rfl rfl rfl rfl rfl rfl ⟨rfl, rfl, rfl, rfl, rfl⟩ rfl rfl rfl rfl rfl (by kernel_rfl) Tryd.func6 (by kernel_rfl)
    (of_decide_eq_true (by kernel_rfl)) (by unfold Func.isWrapper; first | (rw [if_pos (by decide +kernel)]; kernel_rfl) | (rw [if_neg (by decide +kernel)]; exact ⟨rfl, rfl⟩))
    (fun os started H enc _ => lifted os started H enc)

theorem proved : Rows.FnIsUpperPairsWithCaseBitCardSaid :=
  Claim7.holds_tied_plain_at .later [] [.data, .pinned] true (true, "78f26ea345644928e95e441c4b5588707e8dac01a980be797c488ec69f059d97") true holds (fun _ h => by cases h) (by kernel_rfl) (fun _ h => by cases h) fnIsUpperPairsWithCaseBit_row_tie rfl ⟨rfl, rfl⟩ (by kernel_rfl) rfl
    (fun f fn hf hfn => by
      obtain rfl : f = 6 := Option.some.inj ((show Tryd.prog.funcNamed Rows.fnIsUpperPairsWithCaseBitRow.func = some 6 by kernel_rfl).symm.trans hf) |>.symm
      obtain rfl : fn = Tryd.f6 := (Option.some.inj (Tryd.func6.symm.trans hfn)).symm
      exact ⟨by kernel_rfl, fun j t ht => by
        rw [Tryd.params6] at ht
        have hm : t ∈ [5] := by simpa using Array.mem_of_getElem? ht
        have hall : ([5].all fun u => !Tryd.prog.wantsStandIn u) = true := by kernel_rfl
        exact (show Tryd.prog.wantsStandIn t = false by simpa using List.all_eq_true.1 hall t hm)⟩)
    (by kernel_rfl)
#print axioms proved
end Go.Proofs.Qxb6613651aDoor
