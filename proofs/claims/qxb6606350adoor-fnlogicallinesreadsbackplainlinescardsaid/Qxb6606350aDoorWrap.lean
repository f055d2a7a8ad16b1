/-
  THE WRAP for a row that lists variables, and the []string that comes in.
-/
import Derived.Test.Qxb6606350aDoorWalkA
import Derived.Test.Qxb6606350aDoorTie
import Derived.Test.Qxb6606350aDoorCards
import Derived.ProofKit
import Derived.OpenShut
import Derived.LaidMore
import Derived.Lay
import Derived.PinnedBridge
import Derived.SevenTiedAt
import Derived.Stop.Joined
import Derived.SliceStrings
import Derived.Carry
namespace Go.Proofs.Qxb6606350aDoor
open Go.ChangeShapes Go.WideShapes Go.ChangeAt Go.RowKit

theorem own : ownKnob Tryd.prog.godebug = none := by kernel_rfl
theorem laidOut : laidOutB Tryd.prog = true := by kernel_rfl
theorem Tryd.cells9 : Tryd.prog.cellsOf 9 = 1 := by kernel_rfl

/-- A []string that came in, nil or not, as the walk wants it. -/
theorem open_arg {H : Type} {enc : TypeId × Value → H} {W : World} {a0 : Option Addr} {len cap fuel : Nat} {x : DataW H × List MemPlace}
    (hf : DataW.trod enc Tryd.prog W 0 (fun _ => true) true fuel 23 [.slice a0 len cap] = some x) :
    ∃ (g o : Nat) (ys : List (List UInt8)), ys.length = len ∧ Strs W a0 g o ys ∧ (0 < ys.length → g < W.heap.size) ∧ ys.length ≤ maxLen ∧ (∀ y ∈ ys, y.length ≤ maxLen) ∧ (a0 = none → cap = 0) := by
  rcases open_strings Tryd.underlying23 Tryd.underlying9 Tryd.cells9 hf with ⟨hcs, hx⟩ | ⟨a, len', cap', ss, hcs, _, hl, hm, hz, hx, hcell, hsz⟩
  · simp at hcs
    obtain ⟨rfl, rfl, rfl⟩ := hcs
    exact ⟨0, 0, [], rfl, ⟨fun h => absurd h (by simp), fun j X h => by simp at h⟩, fun h => absurd h (by simp), Nat.zero_le _, (fun y h => by cases h), fun _ => rfl⟩
  · simp at hcs
    obtain ⟨rfl, rfl, rfl⟩ := hcs
    simp only [if_true] at hz
    obtain ⟨b, off, spot⟩ := a
    have hlen : ((ss.take len).map (·.data.toList)).length = len := by simp; omega
    refine ⟨b, off, (ss.take len).map (·.data.toList), hlen, ⟨fun h0 => ?_, fun j y hy => ?_⟩, fun h0 => ?_, by rw [hlen]; omega, fun y hy => ?_, fun h => by cases h⟩
    · have hspot : spot = none := by simpa [Addr.add] using World.cell?_spot (hcell 0 (by omega))
      rw [hspot]
    · have hj : j < len := by
        have := (List.getElem?_eq_some_iff.1 hy).1
        omega
      have hspot : spot = none := by simpa [Addr.add] using World.cell?_spot (hcell 0 (by omega))
      subst hspot
      rw [List.getElem?_map, List.getElem?_take_of_lt hj] at hy
      obtain ⟨X, hX, rfl⟩ := Option.map_eq_some_iff.1 hy
      have hX' : ss.getD j ByteArray.empty = X := by simp [List.getD, hX]
      rw [← add_plain]
      have := hcell j (by omega)
      rw [hX'] at this
      rw [this]
    · exact World.block_lt_of_cell? W _ (hcell 0 (by omega))
    · obtain ⟨X, hX, rfl⟩ := List.mem_map.1 hy
      rw [← Lib.size_eq]
      exact hsz X (List.mem_of_mem_take hX)

/-- The wrap for a row that lists variables, handing the contract the world's shape too. -/
theorem handed_shaped {H : Type} {enc : TypeId × Value → H} {a : Assume} {C : Checked} {os : Os} {f : FuncId} {fn : Func} {s : ChangeSpec} {conds : List PathCond} {apart fresh handsOn again : Bool} {X : World → Array Value → Prop}
    (hX : ∀ (w w' : World) (args : Array Value), w.heap = w'.heap → X w args → X w' args)
    (own : ownKnob C.prog.godebug = none) (started : os.Started) (noInit : C.prog.inits.idxOf? f = none) (hfn : C.prog.funcs[f]? = some fn)
    (witness : ∃ (w : World) (tape : Tape) (i : Input), w.os = os ∧ (w.forCall tape i).Shaped C.prog ∧ i.vars = [] ∧ Input.okWide C.prog (w.forCall tape i) .any w.heap.size f i ∧
      ((s.pre enc C.prog fn conds apart (w.forCall tape i).memory i.args ∧ X (w.forCall tape i).memory i.args) ∧ sizedMet enc C.prog fn (OpenSpec.ofChange s) apart (w.forCall tape i).memory i.args) ∧ a.holds C.prog (lone (Frame.enter C.prog f i.args .normal) [] (w.forCall tape i)))
    (contract : ∀ (W : World) (base : Nat) (args : Array Value) (ds gs : List (DataW H)) (before : List MemPlace),
      (∀ (j : Nat) t v, fn.params[j]? = some t → args[j]? = some v → Value.okWide C.prog W .any base t v) →
      DataW.Whole enc C.prog fn.params.toList s.vars apart W args.toList ds gs before → X W args → W.ShapedOpen C.prog →
      Calls C.prog f args W fun e W' => ∃ v, e = .returned v ∧ s.post enc C.prog fn apart fresh handsOn again W args v W') :
    ReturnsInHanded a C os f .any (fun w args => (s.pre enc C.prog fn conds apart w args ∧ X w args) ∧ sizedMet enc C.prog fn (OpenSpec.ofChange s) apart w args) (s.post enc C.prog fn apart fresh handsOn again) := by
  refine returnsInHanded_of_calls own started noInit witness ?_
  intro w tape i _ hsh _ hok hpre _
  obtain ⟨_, _, _, fn', hfn', _, _, _, _, hval⟩ := hok
  obtain rfl : fn' = fn := Option.some.inj (hfn'.symm.trans hfn)
  obtain ⟨⟨⟨ds, gs, before, hw, _⟩, hx⟩, _⟩ := hpre
  have hw' := DataW.Whole.of_heap (w' := w.forCall tape i) (by rfl) hw
  refine (contract (w.forCall tape i) w.heap.size i.args ds gs before hval hw' (hX _ _ _ (by rfl) hx) hsh).mono fun e W' ⟨v, he, hp⟩ => ?_
  subst he
  exact ChangeSpec.post_blind hp
end Go.Proofs.Qxb6606350aDoor
