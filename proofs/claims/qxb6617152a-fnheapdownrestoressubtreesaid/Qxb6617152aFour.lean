import Derived.Test.Qxb6617152aHob
import Derived.Maps.AppendAt
namespace Go.Proofs.Qxb6617152a.W
open Go.RowKit
open Go.Proofs.Qxb6617152a.Plain
set_option linter.unusedVariables false

/-- A SLICE THAT THE CALL ITSELF GATHERS -/
structure Gat where
  v : Value
  e : TypeId
  k : IntKind
  l : List Int
def Own (w : World) (base : Nat) (r : Gat) : Prop := w.ownsRow base r.e 1 r.v r.l.length (r.l.map (Value.int r.k))
def Sep (u v : Value) : Prop := ∀ b, u.ownBlock = some b → v.ownBlock ≠ some b
structure Four (w : World) (base : Nat) (r1 r2 r3 r4 : Gat) : Prop where
  o1 : Own w base r1
  o2 : Own w base r2
  o3 : Own w base r3
  o4 : Own w base r4
  s12 : Sep r1.v r2.v
  s13 : Sep r1.v r3.v
  s14 : Sep r1.v r4.v
  s23 : Sep r2.v r3.v
  s24 : Sep r2.v r4.v
  s34 : Sep r3.v r4.v
theorem Sep.symm {u v : Value} (h : Sep u v) : Sep v u := fun b h1 h2 => h b h2 h1
theorem Four.rot {w : World} {base : Nat} {r1 r2 r3 r4 : Gat} (h : Four w base r1 r2 r3 r4) : Four w base r2 r3 r4 r1 :=
  ⟨h.o2, h.o3, h.o4, h.o1, h.s23, h.s24, h.s12.symm, h.s34, h.s13.symm, h.s14.symm⟩
theorem own_kept {w w1 : World} {base : Nat} {r : Gat} {v : Value} (o : Obj) (h : Own w base r) (hs : Sep v r.v) (hg : (w.alloc o).grownBy w1 v.ownBlock) : Own w1 base r := by
  refine World.ownsRow.kept (World.ownsRow.alloc h o) hg ?_
  cases hb : r.v.ownBlock with
  | none => exact .inl rfl
  | some b => exact .inr (fun e => hs b e.symm hb)
theorem sep_new {w w1 : World} {base : Nat} {r : Gat} {v v' : Value} (o : Obj) (h : Own w base r) (hs : Sep v r.v) (hat : v'.ownBlock = v.ownBlock ∨ v'.ownBlock = some (w.alloc o).heap.size) : Sep v' r.v := by
  intro b hb hr
  rcases hat with e | e
  · rw [e] at hb; exact hs b hb hr
  · rw [e] at hb
    have := (World.ownsRow.lt h b hr).2
    injection hb with hb
    simp at hb; omega
/-- one number more at the first -/
theorem Four.push {w w1 : World} {base : Nat} {v1 : Value} {e1 : TypeId} {k1 : IntKind} {l1 : List Int} {r2 r3 r4 : Gat} (h : Four w base ⟨v1, e1, k1, l1⟩ r2 r3 r4) (o : Obj) {v' : Value} {x : Int}
    (hown : w1.ownsRow base e1 1 v' (l1.length + 1) (l1.map (Value.int k1) ++ [.int k1 x])) (hg : (w.alloc o).grownBy w1 v1.ownBlock) (hat : v'.ownBlock = v1.ownBlock ∨ v'.ownBlock = some (w.alloc o).heap.size) :
    Four w1 base ⟨v', e1, k1, l1 ++ [x]⟩ r2 r3 r4 := by
  refine ⟨?_, own_kept o h.o2 h.s12 hg, own_kept o h.o3 h.s13 hg, own_kept o h.o4 h.s14 hg, sep_new (w1 := w1) o h.o2 h.s12 hat, sep_new (w1 := w1) o h.o3 h.s13 hat, sep_new (w1 := w1) o h.o4 h.s14 hat, h.s23, h.s24, h.s34⟩
  unfold Own
  simpa using hown
theorem Four.below {w w1 a : World} {base : Nat} {v1 : Value} {e1 : TypeId} {k1 : IntKind} {l1 : List Int} {r2 r3 r4 : Gat} (h : Four w base ⟨v1, e1, k1, l1⟩ r2 r3 r4) (o : Obj)
    (hg : (w.alloc o).grownBy w1 v1.ownBlock) (hb : Below base a w) (hB : base ≤ w.heap.size) : Below base a w1 :=
  (hb.alloc hB o).grown hg (by simp; omega) (fun k hk => (World.ownsRow.lt h.o1 k hk).1)
theorem Four.drewN {w : World} {base : Nat} {r1 r2 r3 r4 : Gat} (h : Four w base r1 r2 r3 r4) (q : Nat) : Four (w.drewN q) base r1 r2 r3 r4 := ⟨h.o1, h.o2, h.o3, h.o4, h.s12, h.s13, h.s14, h.s23, h.s24, h.s34⟩
theorem Four.start (w : World) (base : Nat) (e1 e2 e3 e4 : TypeId) (k1 k2 k3 k4 : IntKind) : Four w base ⟨.slice none 0 0, e1, k1, []⟩ ⟨.slice none 0 0, e2, k2, []⟩ ⟨.slice none 0 0, e3, k3, []⟩ ⟨.slice none 0 0, e4, k4, []⟩ :=
  ⟨World.ownsRow_nil _ _ _ _, World.ownsRow_nil _ _ _ _, World.ownsRow_nil _ _ _ _, World.ownsRow_nil _ _ _ _, fun b h => (by cases h), fun b h => (by cases h), fun b h => (by cases h), fun b h => (by cases h), fun b h => (by cases h), fun b h => (by cases h)⟩

/-- what was gathered, as a row -/
theorem Own.row {w : World} {base : Nat} {v : Value} {e : TypeId} {k : IntKind} {l : List Int} (h : Own w base ⟨v, e, k, l⟩) :
    ∃ (a : Option Addr) (c g : Nat), v = .slice a l.length c ∧ (0 < l.length → a = some ⟨g, 0, none⟩ ∧ v.ownBlock = some g ∧ base ≤ g) ∧ Rw w k g l.length (fun i => l.getD i 0) := by
  have h' : w.ownsRow base e 1 v l.length (l.map (Value.int k)) := h
  rcases h'.2 with ⟨hv, h0⟩ | ⟨g, cap, cur, hv, hbg, hb, hn, hc, hs, ht⟩
  · refine ⟨none, 0, 0, by rw [hv, h0], fun h => by omega, fun h => by omega, fun i hi => by omega, fun i hi => by omega⟩
  · subst hv
    refine ⟨_, cap, g, rfl, fun _ => ⟨rfl, rfl, hbg⟩, fun _ => (h'.lt g rfl).2, fun i hi => ?_, fun i hi => h'.frozenAt i⟩
    rw [h'.cellAt i (by omega)]
    simp [hi]

end Go.Proofs.Qxb6617152a.W
