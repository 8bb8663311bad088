import Derived.Test.Qxb6617005aForget
namespace Go.Proofs.Qxb6617005a.W
open Go.ChangeShapes Go.WideShapes Go.ChangeAt Go.RowKit
open Go.Proofs.Qxb6617005a.Plain
set_option linter.unusedVariables false

theorem Vals.kept {w w' : World} {p g off n : Nat} {A R : Nat → Int} (h : Vals w g off n A R) (hg : w.grownBy w' (some p)) (hne : g ≠ p) : Vals w' g off n A R := by
  have k : ∀ o, w'.cell? ⟨g, o, none⟩ = w.cell? ⟨g, o, none⟩ := fun o => World.cell?_of_block (hg.block g h.1 (fun e => hne (Option.some.inj e)))
  refine ⟨Nat.lt_of_lt_of_le h.1 hg.size, fun i hi => ?_⟩
  rw [k, k, k, k, k]
  exact h.2 i hi

/-- A VARIABLE OF TYPE Values AT BLOCK p: a slice of l values from offset off of block g on -/
def Ptr (w : World) (p g off l : Nat) : Prop :=
  p < w.heap.size ∧ w.frozen? ⟨p, 0, none⟩ = false ∧ ∃ (a : Option Addr) (c : Nat), w.cell? ⟨p, 0, none⟩ = some (.slice a l c) ∧ l ≤ c ∧ c ≤ 65536 ∧ (0 < l → a = some ⟨g, off, none⟩)
theorem Ptr.later {w w' : World} {p g off l : Nat} (h : Ptr w p g off l) (hb : Below w.heap.size w w') : Ptr w' p g off l := by
  obtain ⟨h1, h2, a, c, h3, h4⟩ := h
  exact ⟨Nat.lt_of_lt_of_le h1 hb.size, (hb.frozen (p := ⟨p, 0, none⟩) h1).trans h2, a, c, (hb.cell (p := ⟨p, 0, none⟩) h1).trans h3, h4⟩
theorem Ptr.kept {w w' : World} {p q g off l : Nat} (h : Ptr w p g off l) (hg : w.grownBy w' (some q)) (hne : p ≠ q) : Ptr w' p g off l := by
  obtain ⟨h1, h2, a, c, h3, h4⟩ := h
  have hb := hg.block p h1 (fun e => hne (Option.some.inj e))
  exact ⟨Nat.lt_of_lt_of_le h1 hg.size, (World.frozen?_of_block (a := ⟨p, 0, none⟩) hb).trans h2, a, c, (World.cell?_of_block (a := ⟨p, 0, none⟩) hb).trans h3, h4⟩
theorem grown_of_below {w w' : World} (h : Below w.heap.size w w') (row : Option Nat) : w.grownBy w' row := ⟨h.os, h.tape, h.output, h.size, fun k hk _ => h.block k hk⟩
theorem grown_trans {w w1 w2 : World} {p : Nat} (h : w.grownBy w1 (some p)) (k : w1.grownBy w2 (some p)) : w.grownBy w2 (some p) :=
  ⟨k.os.trans h.os, k.tape.trans h.tape, k.output.trans h.output, Nat.le_trans h.size k.size, fun i hi hne => (k.block i (Nat.lt_of_lt_of_le hi h.size) hne).trans (h.block i hi hne)⟩
theorem grown_set (w : World) (p o : Nat) (v : Value) : w.grownBy (w.setCell ⟨p, o, none⟩ v) (some p) :=
  ⟨rfl, rfl, rfl, by simp, fun i hi hne => Below.heap_setCell _ _ _ _ (fun e => hne (by rw [e]))⟩
theorem below_grown {a w w' : World} {p : Nat} (h : Below a.heap.size a w) (hg : w.grownBy w' (some p)) (hp : a.heap.size ≤ p) : Below a.heap.size a w' :=
  h.grown hg h.size (fun k hk => by cases hk; exact hp)

theorem forget_end {w w1 : World} {p g off n f : Nat} {u : Value} (hb1 : Below w.heap.size w w1) (q1 : p < w.heap.size) (r2 : w1.frozen? ⟨p, 0, none⟩ = false) (r4 : w1.cell? ⟨p, 0, none⟩ = some u) (a : Option Addr) (c : Nat) (o : Obj)
    (h1 : n - f ≤ c) (h2 : c ≤ 65536) (h3 : 0 < n - f → a = some ⟨g, off + f * 5, none⟩) :
    Ptr ((w1.setCell ⟨p, 0, none⟩ (.slice a (n - f) c)).alloc o) p g (off + f * 5) (n - f) ∧ w.grownBy ((w1.setCell ⟨p, 0, none⟩ (.slice a (n - f) c)).alloc o) (some p) := by
  have hs := hb1.size
  have hg : w.grownBy (w1.setCell ⟨p, 0, none⟩ (.slice a (n - f) c)) (some p) := grown_trans (grown_of_below hb1 _) (grown_set _ _ _ _)
  have P1 : Ptr (w1.setCell ⟨p, 0, none⟩ (.slice a (n - f) c)) p g (off + f * 5) (n - f) :=
    ⟨by simp; omega, by rw [World.frozen?_setCell]; exact r2, a, c, World.cell?_setCell_same _ _ _ r4, h1, h2, h3⟩
  exact ⟨P1.later (below_new _ _), grown_trans hg (grown_of_below (below_new _ _) _)⟩
theorem dec_lt {a b : Nat} : decide (0 < b - a) = decide ((a : Int) < (b : Int)) := decide_eq_decide.2 (by omega)

set_option maxHeartbeats 1000000 in
/-- (*Values).Forget -/
theorem forget_any (p g off n : Nat) (A R : Nat → Int) (b : Int) (w : World) (hp : Ptr w p g off n) (hv : Vals w g off n A R) (hpg : g ≠ p) (hn : n ≤ 65536) (hS : Srt A n) (h0 : 0 ≤ b) (hb : b < 18446744073709551615) :
    Calls Try.prog 21 #[.pointer (some ⟨p, 0, none⟩), .int .u64 b] w fun e w' => e = .returned (.bool (decide ((fgt A R b n : Int) < (n : Int)))) ∧ Ptr w' p g (off + fgt A R b n * 5) (n - fgt A R b n) ∧ w.grownBy w' (some p) := by
  have P0 : Hid (Ptr w p g off n) := hp
  obtain ⟨q1, q2, a, c, q3, q4, q5, q6⟩ := hp
  have hc := written_any a g off n c A R b w q6 hn hv hS h0 hb
  have hl := cnt_le A b n
  have V0 : Hid (Vals w g off n A R) := hv
  clear hS hv
  match hm : cnt A b n with
  | 0 =>
    have e : fgt A R b n = 0 := by unfold fgt; rw [hm, if_neg (by omega)]
    rw [e]
    rw [hm] at hc
    clear e hm hl
    go_enter Try.func21, Try.ntmps21
    go_wp2_with (go_at_call 35; refine hc.mono ?_; rintro e w1 ⟨rfl, hb1⟩; obtain ⟨r1, r2, r3⟩ := P0.out.later hb1; have r4 := (hb1.cell (p := ⟨p, 0, none⟩) q1).trans q3)
    go_ret
    refine ⟨ret_bool (by simp), ?_, grown_of_below hb1 _⟩
    simpa using P0.out.later hb1
  | m + 1 =>
    rw [hm] at hc hl
    obtain rfl := q6 (by omega)
    have HV : Hid (∀ w1 : World, Below w.heap.size w w1 → _) := fun (w1 : World) (hb : Below w.heap.size w w1) => (V0.out.later hb).2 m (by omega)
    by_cases h1 : R m ≠ 0 ∧ R m ≤ b
    · have e : fgt A R b n = m + 1 := by unfold fgt; rw [hm, if_pos (by omega)]; show (if R m ≠ 0 ∧ R m ≤ b then m + 1 else m) = m + 1; rw [if_pos h1]
      obtain ⟨h1, h2⟩ := h1
      have h3 : (R m != 0) = true := by simp [h1]
      rw [e]
      clear e hm h1
      go_enter Try.func21, Try.ntmps21
      go_wp2_with (go_at_call 35; refine hc.mono ?_; rintro e w1 ⟨rfl, hb1⟩; have r1 := Nat.lt_of_lt_of_le q1 hb1.size; have r2 := (hb1.frozen (p := ⟨p, 0, none⟩) q1).trans q2; have r4 := (hb1.cell (p := ⟨p, 0, none⟩) q1).trans q3; obtain ⟨c0, c1, c2, c3, c4⟩ := HV.out _ hb1)
      all_goals
        go_ret
        refine ⟨ret_bool dec_lt, ?_⟩
        exact forget_end hb1 q1 r2 r4 _ _ _ (by omega) (by omega) (fun h => by first | rfl | (exfalso; omega))
    · have e : fgt A R b n = m := by unfold fgt; rw [hm, if_pos (by omega)]; show (if R m ≠ 0 ∧ R m ≤ b then m + 1 else m) = m; rw [if_neg h1]
      rw [e]
      clear e hm
      by_cases h2 : R m = 0
      · have h3 : (R m != 0) = false := by simp [h2]
        clear h1 h2
        go_enter Try.func21, Try.ntmps21
        go_wp2_with (go_at_call 35; refine hc.mono ?_; rintro e w1 ⟨rfl, hb1⟩; have r1 := Nat.lt_of_lt_of_le q1 hb1.size; have r2 := (hb1.frozen (p := ⟨p, 0, none⟩) q1).trans q2; have r4 := (hb1.cell (p := ⟨p, 0, none⟩) q1).trans q3; obtain ⟨c0, c1, c2, c3, c4⟩ := HV.out _ hb1)
        go_ret
        refine ⟨ret_bool dec_lt, ?_⟩
        exact forget_end hb1 q1 r2 r4 _ _ _ (by omega) (by omega) (fun h => by first | rfl | (exfalso; omega))
      · have h3 : (R m != 0) = true := by simp [h2]
        have h4 : ¬ R m ≤ b := fun h => h1 ⟨h2, h⟩
        clear h1 h2
        go_enter Try.func21, Try.ntmps21
        go_wp2_with (go_at_call 35; refine hc.mono ?_; rintro e w1 ⟨rfl, hb1⟩; have r1 := Nat.lt_of_lt_of_le q1 hb1.size; have r2 := (hb1.frozen (p := ⟨p, 0, none⟩) q1).trans q2; have r4 := (hb1.cell (p := ⟨p, 0, none⟩) q1).trans q3; obtain ⟨c0, c1, c2, c3, c4⟩ := HV.out _ hb1)
        go_ret
        refine ⟨ret_bool dec_lt, ?_⟩
        exact forget_end hb1 q1 r2 r4 _ _ _ (by omega) (by omega) (fun h => by first | rfl | (exfalso; omega))

end Go.Proofs.Qxb6617005a.W
