import Derived.Test.Qxb6617005aWalksC
namespace Go.Proofs.Qxb6617005a.W
open Go.RowKit
open Go.Proofs.Qxb6617005a.Plain
set_option linter.unusedVariables false

/-! ### the bounds on length, laid by program -/
theorem bytes26 (a : Option Addr) (n c : Nat) (x y : Int) (w : World) (hn : n ≤ maxLen) : Calls Try.prog 26 #[.slice a n c, .int .u64 x, .int .u64 y] w fun e w' => e = .returned (.bool (decide (n ≤ 1048576))) ∧ w' = w := by
  unfold maxLen at hn
  by_cases h : n ≤ 1048576
  · rw [decide_eq_true h]
    go_enter Try.func26, Try.ntmps26
    go_wp2
    go_ret
    exact ⟨rfl, rfl⟩
  · rw [decide_eq_false h]
    go_enter Try.func26, Try.ntmps26
    go_wp2
    go_ret
    exact ⟨rfl, rfl⟩
theorem bytes27 (a : Option Addr) (n c : Nat) (x y : Int) (w : World) (hn : n ≤ maxLen) : Calls Try.prog 27 #[.slice a n c, .int .i64 x, .int .u64 y] w fun e w' => e = .returned (.bool (decide (n ≤ 1048576))) ∧ w' = w := by
  unfold maxLen at hn
  by_cases h : n ≤ 1048576
  · rw [decide_eq_true h]
    go_enter Try.func27, Try.ntmps27
    go_wp2
    go_ret
    exact ⟨rfl, rfl⟩
  · rw [decide_eq_false h]
    go_enter Try.func27, Try.ntmps27
    go_wp2
    go_ret
    exact ⟨rfl, rfl⟩
theorem bytes28 (a : Option Addr) (n c : Nat) (y : Int) (w : World) (hn : n ≤ maxLen) : Calls Try.prog 28 #[.slice a n c, .int .u64 y] w fun e w' => e = .returned (.bool (decide (n ≤ 1048576))) ∧ w' = w := by
  unfold maxLen at hn
  by_cases h : n ≤ 1048576
  · rw [decide_eq_true h]
    go_enter Try.func28, Try.ntmps28
    go_wp2
    go_ret
    exact ⟨rfl, rfl⟩
  · rw [decide_eq_false h]
    go_enter Try.func28, Try.ntmps28
    go_wp2
    go_ret
    exact ⟨rfl, rfl⟩
theorem bytes29 (a : Option Addr) (n c : Nat) (x y : Int) (w : World) (hn : n ≤ maxLen) : Calls Try.prog 29 #[.slice a n c, .int .i64 x, .int .u64 y] w fun e w' => e = .returned (.bool (decide (n ≤ 1048576))) ∧ w' = w := by
  unfold maxLen at hn
  by_cases h : n ≤ 1048576
  · rw [decide_eq_true h]
    go_enter Try.func29, Try.ntmps29
    go_wp2
    go_ret
    exact ⟨rfl, rfl⟩
  · rw [decide_eq_false h]
    go_enter Try.func29, Try.ntmps29
    go_wp2
    go_ret
    exact ⟨rfl, rfl⟩
theorem bytes32 (a : Option Addr) (n c : Nat) (x y : Int) (w : World) (hn : n ≤ maxLen) : Calls Try.prog 32 #[.slice a n c, .int .u64 x, .int .u64 y] w fun e w' => e = .returned (.bool (decide (n ≤ 1048576))) ∧ w' = w := by
  unfold maxLen at hn
  by_cases h : n ≤ 1048576
  · rw [decide_eq_true h]
    go_enter Try.func32, Try.ntmps32
    go_wp2
    go_ret
    exact ⟨rfl, rfl⟩
  · rw [decide_eq_false h]
    go_enter Try.func32, Try.ntmps32
    go_wp2
    go_ret
    exact ⟨rfl, rfl⟩

/-- zzCountUpTo -/
theorem countUp_any (a : Option Addr) (b off n c : Nat) (A R : Nat → Int) (r : Int) (w : World) (ha : 0 < n → a = some ⟨b, off, none⟩) (hn : n ≤ 65536) (hs : Spans w b off n A R) :
    Calls Try.prog 31 #[.slice a n c, .int .u64 r] w fun e w' => e = .returned (.int .i64 (cnt A r n)) ∧ w' = w := by
  have S1 : Hid (Spans w b off n A R) := hs
  clear hs
  go_enter Try.func31, Try.ntmps31
  go_wp2
  go_loop [5, 6] (fun t i => ∃ k m : Nat, k ≤ n ∧ m ≤ k ∧ i = .int .i64 k ∧ t = .int .i64 m ∧ Hid (m = cnt A r k)) (fun _ i => n - (intOf i).toNat)
  case atStart => exact ⟨0, 0, Nat.zero_le _, Nat.le_refl _, rfl, rfl, (rfl : 0 = cnt A r 0)⟩
  case round =>
    obtain ⟨k, m, hk, hm, rfl, rfl, M⟩ := hrel
    by_cases hlt : k < n
    · obtain rfl := ha (by omega)
      have c0 := S1.out.2.1 k hlt
      by_cases h1 : A k ≤ r
      · go_wp2
        go_round
        case rel => exact ⟨k + 1, m + 1, by omega, by omega, by go_num, by go_num, (by simp only [cnt]; rw [if_pos h1, M.out] : m + 1 = cnt A r (k + 1))⟩
        case measure => simp [intOf]; omega
      · go_wp2
        go_round
        case rel => exact ⟨k + 1, m, by omega, by omega, by go_num, rfl, (by simp only [cnt]; rw [if_neg h1, M.out]; rfl : m = cnt A r (k + 1))⟩
        case measure => simp [intOf]; omega
    · go_wp2
      go_ret
      have : k = n := by omega
      have M2 := M.out
      rw [this] at M2
      exact ⟨ret_int (by rw [M2]), rfl⟩

/-- zzCountBetween -/
theorem countBtw_any (a : Option Addr) (b off n c : Nat) (A R : Nat → Int) (lo hi : Int) (w : World) (ha : 0 < n → a = some ⟨b, off, none⟩) (hn : n ≤ 65536) (hs : Spans w b off n A R) :
    Calls Try.prog 33 #[.slice a n c, .int .u64 lo, .int .u64 hi] w fun e w' => e = .returned (.int .i64 (btw A lo hi n)) ∧ w' = w := by
  have S1 : Hid (Spans w b off n A R) := hs
  clear hs
  go_enter Try.func33, Try.ntmps33
  go_wp2
  go_loop [7, 8] (fun t i => ∃ k m : Nat, k ≤ n ∧ m ≤ k ∧ i = .int .i64 k ∧ t = .int .i64 m ∧ Hid (m = btw A lo hi k)) (fun _ i => n - (intOf i).toNat)
  case atStart => exact ⟨0, 0, Nat.zero_le _, Nat.le_refl _, rfl, rfl, (rfl : 0 = btw A lo hi 0)⟩
  case round =>
    obtain ⟨k, m, hk, hm, rfl, rfl, M⟩ := hrel
    by_cases hlt : k < n
    · obtain rfl := ha (by omega)
      have c0 := S1.out.2.1 k hlt
      by_cases h1 : lo < A k
      · by_cases h2 : A k ≤ hi
        · go_wp2
          go_round
          case rel => exact ⟨k + 1, m + 1, by omega, by omega, by go_num, by go_num, (by simp only [btw]; rw [if_pos ⟨h1, h2⟩, M.out] : m + 1 = btw A lo hi (k + 1))⟩
          case measure => simp [intOf]; omega
        · go_wp2
          go_round
          case rel => exact ⟨k + 1, m, by omega, by omega, by go_num, rfl, (by simp only [btw]; rw [if_neg (by omega), M.out]; rfl : m = btw A lo hi (k + 1))⟩
          case measure => simp [intOf]; omega
      · go_wp2
        go_round
        case rel => exact ⟨k + 1, m, by omega, by omega, by go_num, rfl, (by simp only [btw]; rw [if_neg (by omega), M.out]; rfl : m = btw A lo hi (k + 1))⟩
        case measure => simp [intOf]; omega
    · go_wp2
      go_ret
      have : k = n := by omega
      have M2 := M.out
      rw [this] at M2
      exact ⟨ret_int (by rw [M2]), rfl⟩

end Go.Proofs.Qxb6617005a.W
