import Derived.Test.Qxb6617152aPlainB
import Derived.Test.Qxb6617152aDown
namespace Go.Proofs.Qxb6617152a.W
open Go.RowKit
open Go.Proofs.Qxb6617152a.Plain
set_option linter.unusedVariables false

theorem beq_cast (a b : Nat) : ((a : Int) == (b : Int)) = (a == b) := by
  by_cases h : a = b
  · subst h; simp
  · have h2 : ¬ (a : Int) = (b : Int) := by omega
    rw [beq_eq_false_iff_ne.2 h2, beq_eq_false_iff_ne.2 h]
/-- inSubtree -/
theorem inSub_any (i j : Nat) (w : World) (hi : i ≤ 4096) (hj : j ≤ 4096) : Calls Try.prog 13 #[.int .i64 i, .int .i64 j] w fun e w' => e = .returned (.bool (sub i j)) ∧ w' = w := by
  go_enter Try.func13, Try.ntmps13
  go_wp2
  go_loop [1] (fun s => ∃ k : Nat, k ≤ 4096 ∧ s = .int .i64 k ∧ Hid (sub i k = sub i j)) (fun s => (intOf s).toNat)
  case atStart => exact ⟨j, hj, rfl, rfl⟩
  case round =>
    obtain ⟨k, hk, rfl, S1⟩ := hrel
    by_cases hlt : i < k
    · have S2 : Hid (sub i ((k - 1) / 2) = sub i j) := (sub_up hlt).symm.trans S1.out
      go_wp2
      go_round
      case rel => exact ⟨(k - 1) / 2, by omega, by go_num, S2.out⟩
      case measure => simp [intOf]; omega
    · have S2 : Hid (sub i j = (k == i)) := S1.out.symm.trans (sub_end hlt)
      go_wp2
      go_ret
      exact ⟨ret_bool (a := ((k : Int) == (i : Int))) (by rw [S2.out, beq_cast]), rfl⟩

/-- DUES AS TWO ROWS THAT ARE READ -/
def Rd2 (w : World) (b1 o1 b2 o2 n : Nat) (d : Nat → Due) : Prop := Rd w .i64 b1 o1 n (fun i => (d i).1) ∧ Rd w .i32 b2 o2 n (fun i => (d i).2)
theorem Rd2.later {w w' : World} {b1 o1 b2 o2 n : Nat} {d : Nat → Due} (h : Rd2 w b1 o1 b2 o2 n d) (hb : Below w.heap.size w w') : Rd2 w' b1 o1 b2 o2 n d := ⟨h.1.later hb, h.2.later hb⟩
theorem Two.rd {w : World} {ga gd n : Nat} {d : Nat → Due} (h : Two w ga gd n d) : Rd2 w ga 0 gd 0 n d := ⟨h.2.1.rd, h.2.2.rd⟩

/-- what the scan has seen below j -/
def HobTo (d : Nat → Due) (n i : Nat) (root : Bool) (m : Nat) : Prop := ∀ j, i ≤ j → j < m → (j = i → root = true) → sub i j = true → ∀ c, c = 2 * j + 1 ∨ c = 2 * j + 2 → c < n → lt (d c) (d j) = false
theorem hobTo_skip {d : Nat → Due} {n i m : Nat} {root : Bool} (h : HobTo d n i root m) (hs : sub i m = true → m = i ∧ root = false) : HobTo d n i root (m + 1) := by
  intro j h1 h2 h3 h4 c h5 h6
  by_cases e : j = m
  · subst e
    have := hs h4
    have h7 := h3 this.1
    rw [this.2] at h7; cases h7
  · exact h j h1 (by omega) h3 h4 c h5 h6
theorem hobTo_next {d : Nat → Due} {n i m : Nat} {root : Bool} (h : HobTo d n i root m) (hs : ∀ u, u < 2 → 2 * m + 1 + u < n → lt (d (2 * m + 1 + u)) (d m) = false) : HobTo d n i root (m + 1) := by
  intro j h1 h2 h3 h4 c h5 h6
  by_cases e : j = m
  · subst e
    rcases h5 with h5 | h5
    · subst h5; exact hs 0 (by omega) (by omega)
    · subst h5; exact hs 1 (by omega) (by omega)
  · exact h j h1 (by omega) h3 h4 c h5 h6

set_option maxHeartbeats 1000000 in
/-- heapOrderedBelow -/
theorem hob_any (a1 a2 : Option Addr) (b1 o1 b2 o2 n c1 c2 i : Nat) (root : Bool) (d : Nat → Due) (w : World) (h1 : 0 < n → a1 = some ⟨b1, o1, none⟩) (h2 : 0 < n → a2 = some ⟨b2, o2, none⟩) (hn : n ≤ 4096) (hi : i < n) (H : Rd2 w b1 o1 b2 o2 n d) :
    Calls Try.prog 12 #[.slice a1 n c1, .slice a2 n c2, .int .i64 i, .bool root] w fun e w' => ∃ s : Bool, e = .returned (.bool s) ∧ (s = true ↔ Hob d n i root) ∧ Below w.heap.size w w' := by
  obtain rfl := h1 (by omega)
  obtain rfl := h2 (by omega)
  have H0 : Hid (Rd2 w b1 o1 b2 o2 n d) := H
  clear h1 h2 H
  go_enter Try.func12, Try.ntmps12
  go_wp2
  go_loopw [10] (fun s wr => ∃ j : Nat, i ≤ j ∧ j ≤ n ∧ s = .int .i64 j ∧ Hid (HobTo d n i root j) ∧ Hid (Below w.heap.size w wr)) (fun s _ => n - (intOf s).toNat)
  case atStart => exact ⟨i, Nat.le_refl _, by omega, rfl, fun j h1 h2 => by omega, Below.refl _ _⟩
  case round =>
    obtain ⟨j, hij, hj, rfl, A1, B1⟩ := hrel
    have hsub := fun W => inSub_any i j W (by omega) (by omega)
    by_cases hlt : j < n
    · by_cases hji : j = i
      · subst hji
        cases root with
        | false =>
          have A2 : Hid (HobTo d n j false (j + 1)) := hobTo_skip A1.out (fun _ => ⟨rfl, rfl⟩)
          clear hsub
          go_wp2_with fail
          go_roundw
          case rel => exact ⟨j + 1, by omega, by omega, by go_num, A2.out, B1.out⟩
          case measure => simp [intOf]; omega
        | true =>
          have hs := sub_self j
          rw [hs] at hsub
          have HS : Hid (sub j j = true) := hs
          clear hs
          obtain ⟨wo, rfl⟩ : ∃ wo : World, wo = wr := ⟨_, rfl⟩
          go_wp2_with (go_at_call 13; refine (hsub _).mono ?_; rintro e w' ⟨rfl, rfl⟩)
          obtain ⟨wo, rfl⟩ : ∃ wo : World, wo = w' := ⟨_, rfl⟩
          go_loopw [11] (fun s wr => ∃ t : Nat, t ≤ 2 ∧ s = .int .i64 (2 * (j : Int) + 1 + (t : Int)) ∧ Hid (∀ u, u < t → 2 * j + 1 + u < n → lt (d (2 * j + 1 + u)) (d j) = false) ∧ Hid (Below w.heap.size w wr)) (fun s _ => (2 * (j : Int) + 3 - intOf s).toNat)
          case atStart => exact ⟨0, by omega, by go_num, fun u hu => by omega, B1.out⟩
          case round =>
            clear hsub
            obtain ⟨t, ht, rfl, L1, B2⟩ := hrel
            by_cases ht2 : t < 2
            · by_cases hc : 2 * j + 1 + t < n
              · have R2 := H0.out.later B2.out
                have k0 := R2.1.2 (2 * j + 1 + t) hc
                have k1 := R2.2.2 (2 * j + 1 + t) hc
                have k2 := R2.1.2 j hlt
                have k3 := R2.2.2 j hlt
                have i0 : (0 : Int) ≤ 2 * (j : Int) + 1 + (t : Int) := by omega
                have i1 : 2 * (j : Int) + 1 + (t : Int) < n := by omega
                have i2 : (0 : Int) ≤ (j : Int) := by omega
                have i3 : (j : Int) < n := by omega
                have hpl := fun W => pairLess_any (d (2 * j + 1 + t)) (d j) W
                clear R2
                cases hl : lt (d (2 * j + 1 + t)) (d j) with
                | true =>
                  rw [hl] at hpl
                  have NO : Hid (¬ Hob d n j true) := fun h => by
                    have := h j (by omega) hlt (fun _ => rfl) HS.out (2 * j + 1 + t) (by omega) hc
                    rw [this] at hl; cases hl
                  clear hl
                  go_wp2_with fail
                  go_quiet ((go_at_call 25; exact Calls.quiet_of_same (hpl _)))
                  go_wp2
                  go_ret
                  exact ⟨false, rfl, ⟨fun h => (by cases h), fun h => absurd h NO.out⟩, below_drewN B2.out _⟩
                | false =>
                  rw [hl] at hpl
                  have L2 : Hid (∀ u, u < t + 1 → 2 * j + 1 + u < n → lt (d (2 * j + 1 + u)) (d j) = false) := fun u hu hc2 => by
                    by_cases e : u = t
                    · rw [e]; exact hl
                    · exact L1.out u (by omega) hc2
                  clear hl
                  go_wp2_with fail
                  go_quiet ((go_at_call 25; exact Calls.quiet_of_same (hpl _)))
                  go_wp2
                  go_roundw
                  case rel => exact ⟨t + 1, by omega, by go_num, L2.out, below_drewN B2.out _⟩
                  case measure => simp [intOf]; omega
              · have hd : decide (2 * (j : Int) + 1 + (t : Int) < (n : Int)) = false := decide_eq_false (by omega)
                have L2 : Hid (∀ u, u < t + 1 → 2 * j + 1 + u < n → lt (d (2 * j + 1 + u)) (d j) = false) := fun u hu hc2 => by
                  by_cases e : u = t
                  · rw [e] at hc2; exact absurd hc2 hc
                  · exact L1.out u (by omega) hc2
                go_wp2_with fail
                go_quiet (fail)
                go_wp2
                go_roundw
                case rel => exact ⟨t + 1, by omega, by go_num, L2.out, below_drewN B2.out _⟩
                case measure => simp [intOf]; omega
            · have A2 : Hid (HobTo d n j true (j + 1)) := hobTo_next A1.out (fun u hu => L1.out u (by omega))
              go_wp2_with fail
              go_roundw
              case rel => exact ⟨j + 1, by omega, by omega, by go_num, A2.out, B2.out⟩
              case measure => simp [intOf]; omega
      · have hne : ((j : Int) == (i : Int)) = false := by simp; omega
        cases hs : sub i j with
        | false =>
          rw [hs] at hsub
          have A2 : Hid (HobTo d n i root (j + 1)) := hobTo_skip A1.out (fun h => by rw [hs] at h; cases h)
          clear hs
          go_wp2_with (go_at_call 13; refine (hsub _).mono ?_; rintro e w' ⟨rfl, rfl⟩)
          go_roundw
          case rel => exact ⟨j + 1, by omega, by omega, by go_num, A2.out, B1.out⟩
          case measure => simp [intOf]; omega
        | true =>
          rw [hs] at hsub
          have HS : Hid (sub i j = true) := hs
          have HN : Hid (¬ j = i) := hji
          clear hs hji
          obtain ⟨wo, rfl⟩ : ∃ wo : World, wo = wr := ⟨_, rfl⟩
          go_wp2_with (go_at_call 13; refine (hsub _).mono ?_; rintro e w' ⟨rfl, rfl⟩)
          obtain ⟨wo, rfl⟩ : ∃ wo : World, wo = w' := ⟨_, rfl⟩
          go_loopw [11] (fun s wr => ∃ t : Nat, t ≤ 2 ∧ s = .int .i64 (2 * (j : Int) + 1 + (t : Int)) ∧ Hid (∀ u, u < t → 2 * j + 1 + u < n → lt (d (2 * j + 1 + u)) (d j) = false) ∧ Hid (Below w.heap.size w wr)) (fun s _ => (2 * (j : Int) + 3 - intOf s).toNat)
          case atStart => exact ⟨0, by omega, by go_num, fun u hu => by omega, B1.out⟩
          case round =>
            clear hsub
            obtain ⟨t, ht, rfl, L1, B2⟩ := hrel
            by_cases ht2 : t < 2
            · by_cases hc : 2 * j + 1 + t < n
              · have R2 := H0.out.later B2.out
                have k0 := R2.1.2 (2 * j + 1 + t) hc
                have k1 := R2.2.2 (2 * j + 1 + t) hc
                have k2 := R2.1.2 j hlt
                have k3 := R2.2.2 j hlt
                have i0 : (0 : Int) ≤ 2 * (j : Int) + 1 + (t : Int) := by omega
                have i1 : 2 * (j : Int) + 1 + (t : Int) < n := by omega
                have i2 : (0 : Int) ≤ (j : Int) := by omega
                have i3 : (j : Int) < n := by omega
                have hpl := fun W => pairLess_any (d (2 * j + 1 + t)) (d j) W
                clear R2
                cases hl : lt (d (2 * j + 1 + t)) (d j) with
                | true =>
                  rw [hl] at hpl
                  have NO : Hid (¬ Hob d n i root) := fun h => by
                    have := h j (by omega) hlt (fun e => absurd e HN.out) HS.out (2 * j + 1 + t) (by omega) hc
                    rw [this] at hl; cases hl
                  clear hl
                  go_wp2_with fail
                  go_quiet ((go_at_call 25; exact Calls.quiet_of_same (hpl _)))
                  go_wp2
                  go_ret
                  exact ⟨false, rfl, ⟨fun h => (by cases h), fun h => absurd h NO.out⟩, below_drewN B2.out _⟩
                | false =>
                  rw [hl] at hpl
                  have L2 : Hid (∀ u, u < t + 1 → 2 * j + 1 + u < n → lt (d (2 * j + 1 + u)) (d j) = false) := fun u hu hc2 => by
                    by_cases e : u = t
                    · rw [e]; exact hl
                    · exact L1.out u (by omega) hc2
                  clear hl
                  go_wp2_with fail
                  go_quiet ((go_at_call 25; exact Calls.quiet_of_same (hpl _)))
                  go_wp2
                  go_roundw
                  case rel => exact ⟨t + 1, by omega, by go_num, L2.out, below_drewN B2.out _⟩
                  case measure => simp [intOf]; omega
              · have hd : decide (2 * (j : Int) + 1 + (t : Int) < (n : Int)) = false := decide_eq_false (by omega)
                have L2 : Hid (∀ u, u < t + 1 → 2 * j + 1 + u < n → lt (d (2 * j + 1 + u)) (d j) = false) := fun u hu hc2 => by
                  by_cases e : u = t
                  · rw [e] at hc2; exact absurd hc2 hc
                  · exact L1.out u (by omega) hc2
                go_wp2_with fail
                go_quiet (fail)
                go_wp2
                go_roundw
                case rel => exact ⟨t + 1, by omega, by go_num, L2.out, below_drewN B2.out _⟩
                case measure => simp [intOf]; omega
            · have A2 : Hid (HobTo d n i root (j + 1)) := hobTo_next A1.out (fun u hu => L1.out u (by omega))
              go_wp2_with fail
              go_roundw
              case rel => exact ⟨j + 1, by omega, by omega, by go_num, A2.out, B2.out⟩
              case measure => simp [intOf]; omega
    · go_wp2_with fail
      go_ret
      have e : j = n := by omega
      have A2 := A1.out
      rw [e] at A2
      exact ⟨true, rfl, ⟨fun _ => A2, fun _ => rfl⟩, B1.out⟩

end Go.Proofs.Qxb6617152a.W
