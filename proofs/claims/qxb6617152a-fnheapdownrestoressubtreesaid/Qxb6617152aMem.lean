import Derived.Test.Qxb6617152aProg
import Derived.Test.Qxb6617152aPlain
import Derived.WalkKit
import Derived.WalkLawsBesides
import Derived.WalkSpells
import Derived.Below
import Derived.Deep.LoopGhost
import Derived.BigQuiet
import Derived.Deep.QuietTactic
import Derived.Laws.CopyOwn
namespace Go.Proofs.Qxb6617152a.W
open Go.RowKit
open Go.Proofs.Qxb6617152a.Plain
set_option linter.unusedVariables false

/-- WHAT A CALL MAY HAVE TURNED: of the blocks that were there, those in S alone. -/
structure Keeps (S : Nat → Prop) (w w' : World) : Prop where
  os : w'.os = w.os
  tape : w'.tape = w.tape
  output : w'.output = w.output
  size : w.heap.size ≤ w'.heap.size
  block : ∀ k, k < w.heap.size → ¬ S k → w'.heap[k]? = w.heap[k]?

section
variable {S T : Nat → Prop} {w w' a : World}
theorem Keeps.refl (S : Nat → Prop) (w : World) : Keeps S w w := ⟨rfl, rfl, rfl, Nat.le_refl _, fun _ _ _ => rfl⟩
theorem Keeps.then {w1 w2 : World} (h : Keeps S w w1) (k : Keeps T w1 w2) (hT : ∀ x, x < w.heap.size → T x → S x) : Keeps S w w2 :=
  ⟨k.os.trans h.os, k.tape.trans h.tape, k.output.trans h.output, Nat.le_trans h.size k.size, fun i hi hn => (k.block i (Nat.lt_of_lt_of_le hi h.size) (fun ht => hn (hT i hi ht))).trans (h.block i hi hn)⟩
theorem Keeps.trans {w1 w2 : World} (h : Keeps S w w1) (k : Keeps S w1 w2) : Keeps S w w2 := h.then k (fun _ _ h => h)
theorem Keeps.mono (h : Keeps S w w') (hS : ∀ x, S x → T x) : Keeps T w w' := ⟨h.os, h.tape, h.output, h.size, fun k hk hn => h.block k hk (fun hs => hn (hS k hs))⟩
theorem Keeps.alloc (S : Nat → Prop) (w : World) (o : Obj) : Keeps S w (w.alloc o) := ⟨rfl, rfl, rfl, by simp, fun k hk _ => Below.heap_alloc _ _ _ hk⟩
theorem Keeps.set (w : World) (g o : Nat) (v : Value) (hg : S g) : Keeps S w (w.setCell ⟨g, o, none⟩ v) := ⟨rfl, rfl, rfl, by simp, fun k hk hn => Below.heap_setCell _ _ _ _ (fun e => hn (by rw [e]; exact hg))⟩
theorem Keeps.drewN (S : Nat → Prop) (w : World) (q : Nat) : Keeps S w (w.drewN q) := ⟨rfl, rfl, rfl, Nat.le_refl _, fun _ _ _ => rfl⟩
theorem Keeps.drew (S : Nat → Prop) (w : World) : Keeps S w w.drew := ⟨rfl, rfl, rfl, Nat.le_refl _, fun _ _ _ => rfl⟩
theorem Keeps.of_below (S : Nat → Prop) (h : Below w.heap.size w w') : Keeps S w w' := ⟨h.os, h.tape, h.output, h.size, fun k hk _ => h.block k hk⟩
theorem Keeps.of_grown {row : Option Nat} (h : w.grownBy w' row) (hr : ∀ k, row = some k → S k) : Keeps S w w' := ⟨h.os, h.tape, h.output, h.size, fun k hk hn => h.block k hk (fun e => hn (hr k e.symm))⟩
theorem Keeps.below {B : Nat} (h : Keeps S w w') (hS : ∀ x, S x → B ≤ x) (hB : B ≤ w.heap.size) : Below B w w' := ⟨h.os, h.tape, h.output, h.size, fun k hk => h.block k (by omega) (fun hs => by have := hS k hs; omega)⟩
theorem Keeps.cell (h : Keeps S w w') {g : Nat} (hg : g < w.heap.size) (hn : ¬ S g) (o : Nat) : w'.cell? ⟨g, o, none⟩ = w.cell? ⟨g, o, none⟩ := World.cell?_of_block (h.block g hg hn)
theorem Keeps.frozen (h : Keeps S w w') {g : Nat} (hg : g < w.heap.size) (hn : ¬ S g) (o : Nat) : w'.frozen? ⟨g, o, none⟩ = w.frozen? ⟨g, o, none⟩ := World.frozen?_of_block (h.block g hg hn)
/-- nothing that was there turned -/
theorem Keeps.to_below (h : Keeps (fun _ => False) w w') : Below w.heap.size w w' := h.below (fun x hx => hx.elim) (Nat.le_refl _)
end

/-- A ROW OF NUMBERS THAT IS READ -/
def Rd (w : World) (k : IntKind) (g off n : Nat) (z : Nat → Int) : Prop := (0 < n → g < w.heap.size) ∧ ∀ i, i < n → w.cell? ⟨g, off + i, none⟩ = some (.int k (z i))
/-- A ROW OF NUMBERS OF THE CALL's OWN, from a block's head on -/
def Rw (w : World) (k : IntKind) (g n : Nat) (z : Nat → Int) : Prop := (0 < n → g < w.heap.size) ∧ (∀ i, i < n → w.cell? ⟨g, i, none⟩ = some (.int k (z i))) ∧ ∀ i, i < n → w.frozen? ⟨g, i, none⟩ = false

theorem Rd.keep {w w' : World} {S : Nat → Prop} {k : IntKind} {g off n : Nat} {z : Nat → Int} (h : Rd w k g off n z) (hk : Keeps S w w') (hn : ¬ S g) : Rd w' k g off n z :=
  ⟨fun h0 => Nat.lt_of_lt_of_le (h.1 h0) hk.size, fun i hi => (hk.cell (h.1 (by omega)) hn _).trans (h.2 i hi)⟩
theorem Rd.later {w w' : World} {k : IntKind} {g off n : Nat} {z : Nat → Int} (h : Rd w k g off n z) (hb : Below w.heap.size w w') : Rd w' k g off n z := h.keep (Keeps.of_below (fun _ => False) hb) (fun h => h)
theorem Rw.keep {w w' : World} {S : Nat → Prop} {k : IntKind} {g n : Nat} {z : Nat → Int} (h : Rw w k g n z) (hk : Keeps S w w') (hn : ¬ S g) : Rw w' k g n z :=
  ⟨fun h0 => Nat.lt_of_lt_of_le (h.1 h0) hk.size, fun i hi => (hk.cell (h.1 (by omega)) hn _).trans (h.2.1 i hi), fun i hi => (hk.frozen (h.1 (by omega)) hn _).trans (h.2.2 i hi)⟩
theorem Rw.later {w w' : World} {k : IntKind} {g n : Nat} {z : Nat → Int} (h : Rw w k g n z) (hb : Below w.heap.size w w') : Rw w' k g n z := h.keep (Keeps.of_below (fun _ => False) hb) (fun h => h)
theorem Rw.rd {w : World} {k : IntKind} {g n : Nat} {z : Nat → Int} (h : Rw w k g n z) : Rd w k g 0 n z := ⟨h.1, fun i hi => by rw [Nat.zero_add]; exact h.2.1 i hi⟩
theorem Rw.congr {w : World} {k : IntKind} {g n : Nat} {z y : Nat → Int} (h : Rw w k g n z) (e : ∀ i, i < n → z i = y i) : Rw w k g n y := ⟨h.1, fun i hi => by rw [← e i hi]; exact h.2.1 i hi, h.2.2⟩
theorem Rw.set {w : World} {k : IntKind} {g n i : Nat} {z : Nat → Int} (h : Rw w k g n z) (hi : i < n) (x : Int) : Rw (w.setCell ⟨g, i, none⟩ (.int k x)) k g n (fun j => if j = i then x else z j) := by
  refine ⟨fun h0 => by simpa using h.1 h0, fun j hj => ?_, fun j hj => by rw [World.frozen?_setCell]; exact h.2.2 j hj⟩
  by_cases e : j = i
  · subst e; rw [World.cell?_setCell_same _ _ _ (h.2.1 j hj)]; simp only [if_true]
  · rw [World.cell?_setCell_other _ _ _ _ (fun x => e (by injection x with _ x2; exact x2.symm))]; simp only [if_neg e]; exact h.2.1 j hj
theorem Rw.set_other {w : World} {k : IntKind} {g g' o n : Nat} {z : Nat → Int} (h : Rw w k g n z) (hne : g ≠ g') (v : Value) : Rw (w.setCell ⟨g', o, none⟩ v) k g n z := by
  refine ⟨fun h0 => by simpa using h.1 h0, fun j hj => ?_, fun j hj => by rw [World.frozen?_setCell]; exact h.2.2 j hj⟩
  rw [World.cell?_setCell_other _ _ _ _ (fun x => hne (by injection x with x1; exact x1.symm))]; exact h.2.1 j hj
theorem Rw.less {w : World} {k : IntKind} {g n m : Nat} {z : Nat → Int} (h : Rw w k g n z) (hm : m ≤ n) : Rw w k g m z := ⟨fun h0 => h.1 (by omega), fun i hi => h.2.1 i (by omega), fun i hi => h.2.2 i (by omega)⟩

/-- DUES AS TWO ROWS OF THE CALL's OWN -/
def Two (w : World) (ga gd n : Nat) (d : Nat → Due) : Prop := (0 < n → ga ≠ gd) ∧ Rw w .i64 ga n (fun i => (d i).1) ∧ Rw w .i32 gd n (fun i => (d i).2)
theorem Two.keep {w w' : World} {S : Nat → Prop} {ga gd n : Nat} {d : Nat → Due} (h : Two w ga gd n d) (hk : Keeps S w w') (h1 : ¬ S ga) (h2 : ¬ S gd) : Two w' ga gd n d := ⟨h.1, h.2.1.keep hk h1, h.2.2.keep hk h2⟩
theorem Two.later {w w' : World} {ga gd n : Nat} {d : Nat → Due} (h : Two w ga gd n d) (hb : Below w.heap.size w w') : Two w' ga gd n d := ⟨h.1, h.2.1.later hb, h.2.2.later hb⟩
theorem Two.congr {w : World} {ga gd n : Nat} {d e : Nat → Due} (h : Two w ga gd n d) (he : ∀ i, i < n → d i = e i) : Two w ga gd n e :=
  ⟨h.1, h.2.1.congr (fun i hi => by rw [he i hi]), h.2.2.congr (fun i hi => by rw [he i hi])⟩
/-- one place of both rows written -/
theorem Two.put {w : World} {ga gd n i : Nat} {d : Nat → Due} (h : Two w ga gd n d) (hi : i < n) (x : Due) : Two ((w.setCell ⟨ga, i, none⟩ (.int .i64 x.1)).setCell ⟨gd, i, none⟩ (.int .i32 x.2)) ga gd n (fun j => if j = i then x else d j) := by
  have hne := h.1 (by omega)
  refine ⟨h.1, ((h.2.1.set hi x.1).set_other hne _).congr (fun j hj => ?_), ((h.2.2.set_other (fun e => hne e.symm) _).set hi x.2).congr (fun j hj => ?_)⟩ <;> simp only [] <;> split <;> rfl
/-- two places exchanged: the times first, then the devices -/
theorem Two.swap {w : World} {ga gd n i j : Nat} {d : Nat → Due} (h : Two w ga gd n d) (hi : i < n) (hj : j < n) (hij : i ≠ j) :
    Two ((((w.setCell ⟨ga, i, none⟩ (.int .i64 (d j).1)).setCell ⟨ga, j, none⟩ (.int .i64 (d i).1)).setCell ⟨gd, i, none⟩ (.int .i32 (d j).2)).setCell ⟨gd, j, none⟩ (.int .i32 (d i).2)) ga gd n (Plain.swap d i j) := by
  have hne := h.1 (by omega)
  refine ⟨h.1, ((((h.2.1.set hi (d j).1).set hj (d i).1).set_other hne _).set_other hne _).congr (fun t ht => ?_), ((((h.2.2.set_other (fun e => hne e.symm) _).set_other (fun e => hne e.symm) _).set hi (d j).2).set hj (d i).2).congr (fun t ht => ?_)⟩
  all_goals
    simp only [Plain.swap]
    by_cases e1 : t = i
    · rw [if_neg (by omega), if_pos e1, if_pos e1]
    · by_cases e2 : t = j
      · rw [if_pos e2, if_neg e1, if_pos e2]
      · rw [if_neg e2, if_neg e1, if_neg e1, if_neg e2]
theorem keeps_swap (w : World) (ga gd i j : Nat) (v1 v2 v3 v4 : Value) : Keeps (fun k => k = ga ∨ k = gd) w ((((w.setCell ⟨ga, i, none⟩ v1).setCell ⟨ga, j, none⟩ v2).setCell ⟨gd, i, none⟩ v3).setCell ⟨gd, j, none⟩ v4) :=
  (((Keeps.set w ga i v1 (.inl rfl)).trans (Keeps.set _ ga j v2 (.inl rfl))).trans (Keeps.set _ gd i v3 (.inr rfl))).trans (Keeps.set _ gd j v4 (.inr rfl))

/-- DUES AS STRUCTS IN ONE BLOCK: room for n, the first k of them d -/
def Fill (w : World) (h n k : Nat) (d : Nat → Due) : Prop :=
  h < w.heap.size ∧ (∀ j, j < n * 2 → ∃ v, w.cell? ⟨h, j, none⟩ = some v) ∧ (∀ j, j < n * 2 → w.frozen? ⟨h, j, none⟩ = false) ∧
  ∀ i, i < k → w.cell? ⟨h, i * 2, none⟩ = some (.int .i64 (d i).1) ∧ w.cell? ⟨h, i * 2 + 1, none⟩ = some (.int .i32 (d i).2)
theorem Fill.keep {w w' : World} {S : Nat → Prop} {h n k : Nat} {d : Nat → Due} (H : Fill w h n k d) (hk : Keeps S w w') (hn : ¬ S h) : Fill w' h n k d :=
  ⟨Nat.lt_of_lt_of_le H.1 hk.size, fun j hj => by rw [hk.cell H.1 hn]; exact H.2.1 j hj, fun j hj => by rw [hk.frozen H.1 hn]; exact H.2.2.1 j hj, fun i hi => by rw [hk.cell H.1 hn, hk.cell H.1 hn]; exact H.2.2.2 i hi⟩
theorem Fill.later {w w' : World} {h n k : Nat} {d : Nat → Due} (H : Fill w h n k d) (hb : Below w.heap.size w w') : Fill w' h n k d := H.keep (Keeps.of_below (fun _ => False) hb) (fun h => h)
theorem Fill.congr {w : World} {h n k : Nat} {d e : Nat → Due} (H : Fill w h n k d) (he : ∀ i, i < k → d i = e i) : Fill w h n k e := ⟨H.1, H.2.1, H.2.2.1, fun i hi => by rw [← he i hi]; exact H.2.2.2 i hi⟩
/-- one struct written: place p gets x -/
theorem Fill.put {w : World} {h n k p : Nat} {d : Nat → Due} (H : Fill w h n k d) (hp : p < n) (x : Due) :
    Fill ((w.setCell ⟨h, p * 2, none⟩ (.int .i64 x.1)).setCell ⟨h, p * 2 + 1, none⟩ (.int .i32 x.2)) h n k (fun j => if j = p then x else d j) ∧
    (((w.setCell ⟨h, p * 2, none⟩ (.int .i64 x.1)).setCell ⟨h, p * 2 + 1, none⟩ (.int .i32 x.2)).cell? ⟨h, p * 2, none⟩ = some (.int .i64 x.1) ∧
     ((w.setCell ⟨h, p * 2, none⟩ (.int .i64 x.1)).setCell ⟨h, p * 2 + 1, none⟩ (.int .i32 x.2)).cell? ⟨h, p * 2 + 1, none⟩ = some (.int .i32 x.2)) := by
  obtain ⟨H1, H2, H3, H4⟩ := H
  obtain ⟨v0, hv0⟩ := H2 (p * 2) (by omega)
  obtain ⟨v1, hv1⟩ := H2 (p * 2 + 1) (by omega)
  have c0 : ((w.setCell ⟨h, p * 2, none⟩ (.int .i64 x.1)).setCell ⟨h, p * 2 + 1, none⟩ (.int .i32 x.2)).cell? ⟨h, p * 2, none⟩ = some (.int .i64 x.1) := by
    rw [World.cell?_setCell_other _ _ _ _ (fun e => by injection e with _ e2; omega), World.cell?_setCell_same _ _ _ hv0]
  have c1 : ((w.setCell ⟨h, p * 2, none⟩ (.int .i64 x.1)).setCell ⟨h, p * 2 + 1, none⟩ (.int .i32 x.2)).cell? ⟨h, p * 2 + 1, none⟩ = some (.int .i32 x.2) := by
    rw [World.cell?_setCell_same _ _ _ (u := v1)]
    rw [World.cell?_setCell_other _ _ _ _ (fun e => by injection e with _ e2; omega)]; exact hv1
  have co : ∀ j, j ≠ p * 2 → j ≠ p * 2 + 1 → ((w.setCell ⟨h, p * 2, none⟩ (.int .i64 x.1)).setCell ⟨h, p * 2 + 1, none⟩ (.int .i32 x.2)).cell? ⟨h, j, none⟩ = w.cell? ⟨h, j, none⟩ := fun j h1 h2 => by
    rw [World.cell?_setCell_other _ _ _ _ (fun e => by injection e with _ e2; omega), World.cell?_setCell_other _ _ _ _ (fun e => by injection e with _ e2; omega)]
  refine ⟨⟨by simpa using H1, fun j hj => ?_, fun j hj => by rw [World.frozen?_setCell, World.frozen?_setCell]; exact H3 j hj, fun i hi => ?_⟩, c0, c1⟩
  · by_cases e : j = p * 2
    · subst e; exact ⟨_, c0⟩
    · by_cases e2 : j = p * 2 + 1
      · subst e2; exact ⟨_, c1⟩
      · rw [co j e e2]; exact H2 j hj
  · by_cases e : i = p
    · subst e; simp only [if_true]; exact ⟨c0, c1⟩
    · rw [co _ (by omega) (by omega), co _ (by omega) (by omega)]; simp only [if_neg e]; exact H4 i hi
theorem Fill.next {w : World} {h n k : Nat} {d : Nat → Due} (H : Fill w h n k d) (hk : k < n) : Fill ((w.setCell ⟨h, k * 2, none⟩ (.int .i64 (d k).1)).setCell ⟨h, k * 2 + 1, none⟩ (.int .i32 (d k).2)) h n (k + 1) d := by
  obtain ⟨H', c0, c1⟩ := H.put hk (d k)
  refine ⟨H'.1, H'.2.1, H'.2.2.1, fun i hi => ?_⟩
  by_cases e : i = k
  · subst e; exact ⟨c0, c1⟩
  · have := H'.2.2.2 i (by omega)
    simp only [if_neg e] at this; exact this
/-- two structs exchanged, either store first -/
theorem Fill.swap {w : World} {h n i j : Nat} {d : Nat → Due} (H : Fill w h n n d) (hi : i < n) (hj : j < n) (hij : i ≠ j) :
    Fill ((((w.setCell ⟨h, i * 2, none⟩ (.int .i64 (d j).1)).setCell ⟨h, i * 2 + 1, none⟩ (.int .i32 (d j).2)).setCell ⟨h, j * 2, none⟩ (.int .i64 (d i).1)).setCell ⟨h, j * 2 + 1, none⟩ (.int .i32 (d i).2)) h n n (Plain.swap d i j) := by
  refine ((H.put hi (d j)).1.put hj (d i)).1.congr (fun t ht => ?_)
  simp only [Plain.swap]
  by_cases e1 : t = i
  · rw [if_neg (by omega), if_pos e1, if_pos e1]
  · by_cases e2 : t = j
    · rw [if_pos e2, if_neg e1, if_pos e2]
    · rw [if_neg e2, if_neg e1, if_neg e1, if_neg e2]
theorem Fill.swap' {w : World} {h n i j : Nat} {d : Nat → Due} (H : Fill w h n n d) (hi : i < n) (hj : j < n) (hij : i ≠ j) :
    Fill ((((w.setCell ⟨h, j * 2, none⟩ (.int .i64 (d i).1)).setCell ⟨h, j * 2 + 1, none⟩ (.int .i32 (d i).2)).setCell ⟨h, i * 2, none⟩ (.int .i64 (d j).1)).setCell ⟨h, i * 2 + 1, none⟩ (.int .i32 (d j).2)) h n n (Plain.swap d i j) := by
  refine ((H.put hj (d i)).1.put hi (d j)).1.congr (fun t ht => ?_)
  simp only [Plain.swap]
theorem keeps_four (w : World) (h a b c e : Nat) (v1 v2 v3 v4 : Value) : Keeps (fun k => k = h) w ((((w.setCell ⟨h, a, none⟩ v1).setCell ⟨h, b, none⟩ v2).setCell ⟨h, c, none⟩ v3).setCell ⟨h, e, none⟩ v4) :=
  (((Keeps.set (S := fun k => k = h) w h a v1 rfl).trans (Keeps.set _ h b v2 rfl)).trans (Keeps.set _ h c v3 rfl)).trans (Keeps.set _ h e v4 rfl)

end Go.Proofs.Qxb6617152a.W
