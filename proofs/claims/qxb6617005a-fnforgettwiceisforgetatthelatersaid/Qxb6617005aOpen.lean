import Derived.Test.Qxb6617005aWalksD
import Derived.Test.Qxb6617005aRows
import Derived.ProofKit
import Derived.OpenShut
import Derived.ShutString
import Derived.ChangeOld
import Derived.Deep.SlicePairs
namespace Go.Proofs.Qxb6617005a.W
open Go.ChangeShapes Go.WideShapes Go.ChangeAt Go.RowKit
open Go.Proofs.Qxb6617005a.Plain
set_option linter.unusedVariables false

theorem own : ownKnob Try.prog.godebug = none := by kernel_rfl
theorem laidOut : laidOutB Try.prog = true := by kernel_rfl

theorem sorted_yes (a : Option Addr) (b off n c : Nat) (A R : Nat → Int) (w : World) (ha : 0 < n → a = some ⟨b, off, none⟩) (hn : n ≤ 65536) (hs : Spans w b off n A R) (hS : Srt A n) :
    Calls Try.prog 12 #[.slice a n c] w fun e w' => e = .returned (.bool true) ∧ Below w.heap.size w w' :=
  (sorted_any a b off n c A R w ha hn hs).mono fun e w' ⟨s, h1, h2, h3⟩ => ⟨by rw [h1, h2.2 hS], h3⟩
theorem sorted_no (a : Option Addr) (b off n c : Nat) (A R : Nat → Int) (w : World) (ha : 0 < n → a = some ⟨b, off, none⟩) (hn : n ≤ 65536) (hs : Spans w b off n A R) (hS : ¬ Srt A n) :
    Calls Try.prog 12 #[.slice a n c] w fun e w' => e = .returned (.bool false) ∧ Below w.heap.size w w' :=
  (sorted_any a b off n c A R w ha hn hs).mono fun e w' ⟨s, h1, h2, h3⟩ => ⟨by
    cases s with
    | false => rw [h1]
    | true => exact absurd (h2.1 rfl) hS, h3⟩

/-- WHAT A SLICE OF SPANS THAT CAME IN IS -/
theorem open_spans {H : Type} {enc : TypeId × Value → H} {W : World} {a0 : Option Addr} {len cap fuel : Nat} {x : DataW H × List MemPlace}
    (hf : DataW.trod enc Try.prog W 0 (fun _ => true) true fuel 22 [.slice a0 len cap] = some x) :
    ∃ (b off : Nat) (A R : Nat → Int), (0 < len → a0 = some ⟨b, off, none⟩) ∧ len ≤ cap ∧ cap ≤ maxLen ∧ (a0 = none → cap = 0) ∧ Spans W b off len A R := by
  rcases Deep.open_slice_pairs Try.underlying22 Try.underlying38 (by kernel_rfl) rfl rfl (by kernel_rfl) (by kernel_rfl) hf with ⟨hcs, _⟩ | ⟨y, l, c, m, nn, V0, V1, D0, D1, P0, P1, hcs, _, hl, hm, hmm, hx, hcell⟩
  · simp at hcs
    obtain ⟨rfl, rfl, rfl⟩ := hcs
    exact ⟨0, 0, fun _ => 0, fun _ => 0, fun h => by omega, Nat.le_refl _, by unfold maxLen; omega, fun _ => rfl, fun h => by omega, fun i hi => by omega, fun i hi => by omega⟩
  · simp at hcs hmm
    obtain ⟨rfl, rfl, rfl⟩ := hcs
    subst hmm
    by_cases h0 : 0 < len
    · obtain ⟨b, off, spot⟩ := y
      have h00 := (hcell 0 (by omega)).1
      have hspot : spot = none := by simpa [Addr.add] using World.cell?_spot h00
      subst hspot
      refine ⟨b, off, fun i => intOf (V0 i), fun i => intOf (V1 i), fun _ => rfl, hl, hm, fun h => (by cases h), fun _ => World.block_lt_of_cell? _ _ h00, fun i hi => ?_, fun i hi => ?_⟩
      · have g := hcell i (by omega)
        obtain ⟨z, e, _, _⟩ := DataW.trod_int Try.underlying23 g.2.2.1
        simp at e
        have := g.1
        rw [add_plain, e] at this
        rw [this]; simp only [e]; rfl
      · have g := hcell i (by omega)
        obtain ⟨z, e, _, _⟩ := DataW.trod_int Try.underlying23 g.2.2.2
        simp at e
        have := g.2.1
        rw [add_plain, e] at this
        rw [Nat.add_assoc, this]; simp only [e]; rfl
    · exact ⟨0, 0, fun _ => 0, fun _ => 0, fun h => by omega, hl, hm, fun h => (by cases h), fun h => by omega, fun i hi => by omega, fun i hi => by omega⟩

end Go.Proofs.Qxb6617005a.W
