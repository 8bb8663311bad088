import Derived.Test.Qxb6617005aOpen
namespace Go.Proofs.Qxb6617005a.W
open Go.ChangeShapes Go.WideShapes Go.ChangeAt Go.RowKit
open Go.Proofs.Qxb6617005a.Plain
set_option linter.unusedVariables false

theorem eq_zero (w : World) : (binOp .eql 31 (.agg #[.int .u8 0, .bool false, .nilIface]) (.agg #[.int .u8 0, .bool false, .nilIface])).run Try.prog w = .ok (.bool true) w := by kernel_rfl

/-- a variable of type attribute.Value that holds the zero Value -/
def Z3 (w : World) (B : Nat) : Prop :=
  w.cell? ⟨B, 0, none⟩ = some (.int .u8 0) ∧ w.cell? ⟨B, 1, none⟩ = some (.bool false) ∧ w.cell? ⟨B, 2, none⟩ = some .nilIface ∧
  w.frozen? ⟨B, 0, none⟩ = false ∧ w.frozen? ⟨B, 1, none⟩ = false ∧ w.frozen? ⟨B, 2, none⟩ = false ∧ B < w.heap.size
theorem Z3.later {w w' : World} {B : Nat} (h : Z3 w B) (hb : Below w.heap.size w w') : Z3 w' B := by
  obtain ⟨h0, h1, h2, h3, h4, h5, h6⟩ := h
  have hs := hb.size
  refine ⟨?_, ?_, ?_, ?_, ?_, ?_, by omega⟩
  all_goals first | rw [hb.cell (by exact h6)] | rw [hb.frozen (by exact h6)]
  all_goals assumption
theorem Z3.new (w : World) : Z3 (w.alloc (.cells #[.int .u8 0, .bool false, .nilIface] 31)) w.heap.size := by
  refine ⟨?_, ?_, ?_, ?_, ?_, ?_, ?_⟩ <;> simp
theorem below_new (w : World) (o : Obj) : Below w.heap.size w (w.alloc o) := (Below.refl _ _).alloc (Nat.le_refl _) o
theorem Z3.at {w : World} {B B' : Nat} (h : Z3 w B) (e : B = B') : Z3 w B' := e ▸ h
theorem Vals.at {w : World} {g g' off n : Nat} {A R : Nat → Int} (h : Vals w g off n A R) (e : g = g') : Vals w g' off n A R := e ▸ h
theorem Z3.set_other {w : World} {B g : Nat} (h : Z3 w B) (hne : B ≠ g) (u0 u1 u2 : Value) : Z3 (((w.setCell ⟨g, 0, none⟩ u0).setCell ⟨g, 1, none⟩ u1).setCell ⟨g, 2, none⟩ u2) B := by
  obtain ⟨h0, h1, h2, h3, h4, h5, h6⟩ := h
  have k : ∀ j, (((w.setCell ⟨g, 0, none⟩ u0).setCell ⟨g, 1, none⟩ u1).setCell ⟨g, 2, none⟩ u2).cell? ⟨B, j, none⟩ = w.cell? ⟨B, j, none⟩ := fun j => by
    rw [World.cell?_setCell_far _ _ _ _ (fun e => hne e.symm), World.cell?_setCell_far _ _ _ _ (fun e => hne e.symm), World.cell?_setCell_far _ _ _ _ (fun e => hne e.symm)]
  refine ⟨(k 0).trans h0, (k 1).trans h1, (k 2).trans h2, ?_, ?_, ?_, ?_⟩ <;> simp [*]
theorem Z3.set_same {w : World} {g : Nat} (h : Z3 w g) : Z3 (((w.setCell ⟨g, 0, none⟩ (.int .u8 0)).setCell ⟨g, 1, none⟩ (.bool false)).setCell ⟨g, 2, none⟩ .nilIface) g := by
  obtain ⟨h0, h1, h2, h3, h4, h5, h6⟩ := h
  refine ⟨?_, ?_, ?_, ?_, ?_, ?_, ?_⟩ <;> simp [go_sem, *]

end Go.Proofs.Qxb6617005a.W
