import Derived.Test.Qxb6617005aZero
namespace Go.Proofs.Qxb6617005a.W
open Go.ChangeShapes Go.WideShapes Go.ChangeAt Go.RowKit
open Go.Proofs.Qxb6617005a.Plain
set_option linter.unusedVariables false

/-- zzEndsNoEarlier -/
theorem ends_any (a : Option Addr) (b off n c : Nat) (A R : Nat → Int) (w : World) (ha : 0 < n → a = some ⟨b, off, none⟩) (hn : n ≤ 65536) (hs : Spans w b off n A R) :
    Calls Try.prog 24 #[.slice a n c] w fun e w' => ∃ (s : Bool), e = .returned (.bool s) ∧ (s = true ↔ Plain.Ends A R n) ∧ Below w.heap.size w w' := by
  go_enter Try.func24, Try.ntmps24
  go_wp2
  go_loopw [3] (fun i wr => ∃ k : Nat, k ≤ n ∧ i = .int .i64 k ∧ Below w.heap.size w wr ∧ ∀ j, j < k → R j ≠ 0 → A j ≤ R j) (fun i _ => n - (intOf i).toNat)
  case atStart => exact ⟨0, by omega, rfl, Below.refl _ _, fun j hj => by omega⟩
  case round =>
    obtain ⟨k, hk, rfl, hbel, hsrt⟩ := hrel
    have S1 : Hid (Spans wr b off n A R) := hs.later hbel
    have B1 : Hid (Below w.heap.size w wr) := hbel
    have T1 : Hid (∀ j, j < k → R j ≠ 0 → A j ≤ R j) := hsrt
    clear hbel hsrt hs
    by_cases hlt : k < n
    · obtain rfl := ha (by omega)
      have c0 := S1.out.2.1 k hlt
      have c1 := S1.out.2.2 k hlt
      have i2 : (0 : Int) ≤ (k : Int) := by omega
      have i3 : (k : Int) < n := by omega
      by_cases h0 : R k = 0
      · have h5 : (R k != 0) = false := by simp [h0]
        have H0 : Hid (R k = 0) := h0
        clear h0
        go_wp2
        go_quiet (fail)
        go_wp2
        go_roundw
        case rel =>
          refine ⟨k + 1, by omega, by go_num, below_drewN B1.out _, fun j hj hr => ?_⟩
          by_cases e : j = k
          · rw [e] at hr; exact absurd H0.out hr
          · exact T1.out j (by omega) hr
        case measure => simp [intOf]; omega
      · have h5 : (R k != 0) = true := by simp [h0]
        by_cases h1 : R k < A k
        · go_wp2
          go_quiet (fail)
          go_wp2
          go_ret
          refine ⟨false, rfl, ⟨fun h => (by cases h), fun h => ?_⟩, below_drewN B1.out _⟩
          have := h k hlt h0
          omega
        · go_wp2
          go_quiet (fail)
          go_wp2
          go_roundw
          case rel =>
            refine ⟨k + 1, by omega, by go_num, below_drewN B1.out _, fun j hj hr => ?_⟩
            by_cases e : j = k
            · rw [e]; omega
            · exact T1.out j (by omega) hr
          case measure => simp [intOf]; omega
    · go_wp2
      go_ret
      exact ⟨true, rfl, ⟨fun _ j hj => T1.out j (by omega), fun _ => rfl⟩, B1.out⟩
theorem ends_yes (a : Option Addr) (b off n c : Nat) (A R : Nat → Int) (w : World) (ha : 0 < n → a = some ⟨b, off, none⟩) (hn : n ≤ 65536) (hs : Spans w b off n A R) (hS : Plain.Ends A R n) :
    Calls Try.prog 24 #[.slice a n c] w fun e w' => e = .returned (.bool true) ∧ Below w.heap.size w w' :=
  (ends_any a b off n c A R w ha hn hs).mono fun e w' ⟨s, h1, h2, h3⟩ => ⟨by rw [h1, h2.2 hS], h3⟩
theorem ends_no (a : Option Addr) (b off n c : Nat) (A R : Nat → Int) (w : World) (ha : 0 < n → a = some ⟨b, off, none⟩) (hn : n ≤ 65536) (hs : Spans w b off n A R) (hS : ¬ Plain.Ends A R n) :
    Calls Try.prog 24 #[.slice a n c] w fun e w' => e = .returned (.bool false) ∧ Below w.heap.size w w' :=
  (ends_any a b off n c A R w ha hn hs).mono fun e w' ⟨s, h1, h2, h3⟩ => ⟨by
    cases s with
    | false => rw [h1]
    | true => exact absurd (h2.1 rfl) hS, h3⟩

/-- zzEndedBy -/
theorem endedBy_any (b off n c i : Nat) (A R : Nat → Int) (r : Int) (w : World) (hn : n ≤ 65536) (hs : Spans w b off n A R) (hi : i < n) :
    Calls Try.prog 36 #[.slice (some ⟨b, off, none⟩) n c, .int .i64 i, .int .u64 r] w fun e w' => e = .returned (.bool (endB A R n r i)) ∧ w' = w := by
  have c2 := hs.2.2 i hi
  have S1 : Hid (Spans w b off n A R) := hs
  clear hs
  by_cases h1 : i + 1 < n
  · have c1 := S1.out.2.1 (i + 1) h1
    by_cases h2 : A (i + 1) ≤ r
    · have e : endB A R n r i = true := decide_eq_true (.inl ⟨h1, h2⟩)
      rw [e]; clear e
      go_enter Try.func36, Try.ntmps36
      go_wp2
      go_ret
      exact ⟨rfl, rfl⟩
    · by_cases h0 : R i = 0
      · have e : endB A R n r i = false := decide_eq_false (by omega)
        rw [e]; clear e
        have h5 : (R i != 0) = false := by simp [h0]
        clear h0
        go_enter Try.func36, Try.ntmps36
        go_wp2
        go_ret
        exact ⟨rfl, rfl⟩
      · have h5 : (R i != 0) = true := by simp [h0]
        by_cases h3 : R i ≤ r
        · have e : endB A R n r i = true := decide_eq_true (.inr ⟨h0, h3⟩)
          rw [e]; clear e h0
          go_enter Try.func36, Try.ntmps36
          go_wp2
          go_ret
          exact ⟨ret_bool (by simp), rfl⟩
        · have e : endB A R n r i = false := decide_eq_false (by omega)
          rw [e]; clear e h0
          go_enter Try.func36, Try.ntmps36
          go_wp2
          go_ret
          exact ⟨ret_bool (by simp), rfl⟩
  · by_cases h0 : R i = 0
    · have e : endB A R n r i = false := decide_eq_false (by omega)
      rw [e]; clear e
      have h5 : (R i != 0) = false := by simp [h0]
      clear h0
      go_enter Try.func36, Try.ntmps36
      go_wp2
      go_ret
      exact ⟨rfl, rfl⟩
    · have h5 : (R i != 0) = true := by simp [h0]
      by_cases h3 : R i ≤ r
      · have e : endB A R n r i = true := decide_eq_true (.inr ⟨h0, h3⟩)
        rw [e]; clear e h0
        go_enter Try.func36, Try.ntmps36
        go_wp2
        go_ret
        exact ⟨ret_bool (by simp), rfl⟩
      · have e : endB A R n r i = false := decide_eq_false (by omega)
        rw [e]; clear e h0
        go_enter Try.func36, Try.ntmps36
        go_wp2
        go_ret
        exact ⟨ret_bool (by simp), rfl⟩

/-- zzCountEnded -/
theorem countEnded_any (a : Option Addr) (b off n c : Nat) (A R : Nat → Int) (r : Int) (w : World) (ha : 0 < n → a = some ⟨b, off, none⟩) (hn : n ≤ 65536) (hs : Spans w b off n A R) :
    Calls Try.prog 25 #[.slice a n c, .int .u64 r] w fun e w' => e = .returned (.int .i64 (ended A R n r n)) ∧ w' = w := by
  have S1 : Hid (Spans w b off n A R) := hs
  clear hs
  go_enter Try.func25, Try.ntmps25
  go_wp2
  go_loop [5, 6] (fun t i => ∃ k m : Nat, k ≤ n ∧ m ≤ k ∧ i = .int .i64 k ∧ t = .int .i64 m ∧ Hid (m = ended A R n r k)) (fun _ i => n - (intOf i).toNat)
  case atStart => exact ⟨0, 0, Nat.zero_le _, Nat.le_refl _, rfl, rfl, (rfl : 0 = ended A R n r 0)⟩
  case round =>
    obtain ⟨k, m, hk, hm, rfl, rfl, M⟩ := hrel
    by_cases hlt : k < n
    · obtain rfl := ha (by omega)
      have hc := fun w (hs : Spans w b off n A R) => endedBy_any b off n c k A R r w hn hs hlt
      cases he : endB A R n r k with
      | true =>
        rw [he] at hc
        have M2 : Hid (m + 1 = ended A R n r (k + 1)) := (by simp only [ended]; rw [if_pos he, M.out] : m + 1 = ended A R n r (k + 1))
        clear he
        go_wp2_with (go_at_call 36; refine (hc _ S1.out).mono ?_; rintro e w' ⟨rfl, rfl⟩)
        go_round
        case rel => exact ⟨k + 1, m + 1, by omega, by omega, by go_num, by go_num, M2.out⟩
        case measure => simp [intOf]; omega
      | false =>
        rw [he] at hc
        have M2 : Hid (m = ended A R n r (k + 1)) := (by simp only [ended]; rw [if_neg (by rw [he]; simp), M.out]; rfl : m = ended A R n r (k + 1))
        clear he
        go_wp2_with (go_at_call 36; refine (hc _ S1.out).mono ?_; rintro e w' ⟨rfl, rfl⟩)
        go_round
        case rel => exact ⟨k + 1, m, by omega, by omega, by go_num, rfl, M2.out⟩
        case measure => simp [intOf]; omega
    · go_wp2
      go_ret
      have : k = n := by omega
      have M2 := M.out
      rw [this] at M2
      exact ⟨ret_int (by rw [M2]), rfl⟩

end Go.Proofs.Qxb6617005a.W
