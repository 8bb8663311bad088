import Derived.Test.Qxb6617152aMem
namespace Go.Proofs.Qxb6617152a.W
open Go.RowKit
open Go.Proofs.Qxb6617152a.Plain
set_option linter.unusedVariables false

theorem ret_bool {a b : Bool} (h : a = b) : Ending.returned (.bool a) = .returned (.bool b) := by rw [h]
theorem lt_1 {x y : Due} (h : x.1 < y.1) : lt x y = true := lt_iff.2 (.inl h)
theorem lt_2 {x y : Due} (h : ¬ x.1 < y.1) (h2 : ¬ x.1 = y.1) : lt x y = false := nlt_iff.2 (by omega)
theorem lt_3 {x y : Due} (h2 : x.1 = y.1) (h3 : x.2 < y.2) : lt x y = true := lt_iff.2 (.inr ⟨h2, h3⟩)
theorem lt_4 {x y : Due} (h : ¬ x.1 < y.1) (h3 : ¬ x.2 < y.2) : lt x y = false := nlt_iff.2 (by omega)

/-- pairLess -/
theorem pairLess_any (x y : Due) (w : World) : Calls Try.prog 25 #[.int .i64 x.1, .int .i32 x.2, .int .i64 y.1, .int .i32 y.2] w fun e w' => e = .returned (.bool (lt x y)) ∧ w' = w := by
  obtain ⟨x1, x2⟩ := x
  obtain ⟨y1, y2⟩ := y
  by_cases h1 : x1 < y1
  · rw [lt_1 h1]
    show Calls Try.prog 25 #[.int .i64 x1, .int .i32 x2, .int .i64 y1, .int .i32 y2] w _
    go_enter Try.func25, Try.ntmps25
    go_wp2
    go_ret
    exact ⟨rfl, rfl⟩
  · by_cases h2 : x1 = y1
    · have h4 : (x1 == y1) = true := by simp [h2]
      by_cases h3 : x2 < y2
      · rw [lt_3 h2 h3]
        show Calls Try.prog 25 #[.int .i64 x1, .int .i32 x2, .int .i64 y1, .int .i32 y2] w _
        clear h2
        go_enter Try.func25, Try.ntmps25
        go_wp2
        go_ret
        exact ⟨rfl, rfl⟩
      · rw [lt_4 h1 h3]
        show Calls Try.prog 25 #[.int .i64 x1, .int .i32 x2, .int .i64 y1, .int .i32 y2] w _
        clear h2
        go_enter Try.func25, Try.ntmps25
        go_wp2
        go_ret
        exact ⟨ret_bool (by simp), rfl⟩
    · have h4 : (x1 == y1) = false := by simp [h2]
      rw [lt_2 h1 h2]
      show Calls Try.prog 25 #[.int .i64 x1, .int .i32 x2, .int .i64 y1, .int .i32 y2] w _
      clear h2
      go_enter Try.func25, Try.ntmps25
      go_wp2
      go_ret
      exact ⟨rfl, rfl⟩

/-- less -/
theorem less_any (h n c i j : Nat) (d : Nat → Due) (w : World) (H : Fill w h n n d) (hn : n ≤ 4096) (hi : i < n) (hj : j < n) :
    Calls Try.prog 30 #[.slice (some ⟨h, 0, none⟩) n c, .int .i64 i, .int .i64 j] w fun e w' => e = .returned (.bool (lt (d i) (d j))) ∧ ∃ q, w' = w.drewN q := by
  obtain ⟨a0, a1⟩ := H.2.2.2 i hi
  obtain ⟨b0, b1⟩ := H.2.2.2 j hj
  clear H
  generalize d i = x at *
  generalize d j = y at *
  obtain ⟨x1, x2⟩ := x
  obtain ⟨y1, y2⟩ := y
  have i0 : (0 : Int) ≤ (i : Int) := by omega
  have i1 : (i : Int) < n := by omega
  have i2 : (0 : Int) ≤ (j : Int) := by omega
  have i3 : (j : Int) < n := by omega
  by_cases h1 : x1 < y1
  · rw [lt_1 h1]
    go_enter Try.func30, Try.ntmps30
    go_wp2
    go_quiet (fail)
    go_wp2
    go_ret
    exact ⟨rfl, _, rfl⟩
  · have h1' : decide (x1 < y1) = false := decide_eq_false h1
    by_cases h2 : x1 = y1
    · have h4 : (x1 == y1) = true := by simp [h2]
      by_cases h3 : x2 < y2
      · rw [lt_3 h2 h3]
        clear h2
        go_enter Try.func30, Try.ntmps30
        go_wp2
        go_quiet (fail)
        go_wp2
        go_ret
        exact ⟨rfl, _, rfl⟩
      · rw [lt_4 h1 h3]
        clear h2
        go_enter Try.func30, Try.ntmps30
        go_wp2
        go_quiet (fail)
        go_wp2
        go_ret
        exact ⟨ret_bool (by simp; omega), _, rfl⟩
    · have h4 : (x1 == y1) = false := by simp [h2]
      rw [lt_2 h1 h2]
      clear h2
      go_enter Try.func30, Try.ntmps30
      go_wp2
      go_quiet (fail)
      go_wp2
      go_ret
      exact ⟨rfl, _, rfl⟩

end Go.Proofs.Qxb6617152a.W
