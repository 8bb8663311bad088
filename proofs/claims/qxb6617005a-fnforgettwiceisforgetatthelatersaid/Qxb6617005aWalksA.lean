import Derived.Test.Qxb6617005aProg
import Derived.Test.Qxb6617005aPlain
import Derived.WalkKit
import Derived.WalkLawsBesides
import Derived.WalkSpells
import Derived.Below
import Derived.Deep.LoopGhost
import Derived.BigQuiet
import Derived.Deep.QuietTactic
namespace Go.Proofs.Qxb6617005a.W
open Go.RowKit
open Go.Proofs.Qxb6617005a.Plain
set_option linter.unusedVariables false

/-! ### cmp.isNaN, cmp.Compare -/
theorem isNaN_any (x : Int) (w : World) : Calls Try.prog 40 #[.int .u64 x] w fun e w' => e = .returned (.bool false) ∧ w' = w := by
  go_enter Try.func40, Try.ntmps40
  go_wp2
  go_ret
  exact ⟨rfl, rfl⟩

def cmpI (x y : Int) : Int := if x < y then -1 else if y < x then 1 else 0

theorem compare_any (x y : Int) (w : World) : Calls Try.prog 39 #[.int .u64 x, .int .u64 y] w fun e w' => e = .returned (.int .i64 (cmpI x y)) ∧ w' = w := by
  by_cases h1 : x < y
  · have e : cmpI x y = -1 := by unfold cmpI; rw [if_pos h1]
    rw [e]; clear e
    go_enter Try.func39, Try.ntmps39
    go_wp2
    go_ret
    exact ⟨rfl, rfl⟩
  · by_cases h2 : y < x
    · have e : cmpI x y = 1 := by unfold cmpI; rw [if_neg h1, if_pos h2]
      rw [e]; clear e
      go_enter Try.func39, Try.ntmps39
      go_wp2
      go_ret
      exact ⟨rfl, rfl⟩
    · have e : cmpI x y = 0 := by unfold cmpI; rw [if_neg h1, if_neg h2]
      rw [e]; clear e
      go_enter Try.func39, Try.ntmps39
      go_wp2
      go_ret
      exact ⟨rfl, rfl⟩

/-- the closure of 'written': a struct by value, boxed -/
theorem closure_any (b added removed y : Int) (d : Bool) (w : World) :
    Calls Try.prog 38 #[.agg #[.int .u8 b, .bool d, .nilIface, .int .u64 added, .int .u64 removed], .int .u64 y] w fun e w' => e = .returned (.int .i64 (cmpI added y)) ∧ Below w.heap.size w w' := by
  go_enter Try.func38, Try.ntmps38
  go_wp2_with (go_at_call 39; refine (compare_any _ _ _).mono ?_; rintro e w' ⟨rfl, rfl⟩)
  go_ret
  exact ⟨rfl, (Below.refl _ _).alloc (Nat.le_refl _) _⟩

/-- ZZspan -/
theorem span_any (x y : Int) (w : World) :
    Calls Try.prog 34 #[.int .u64 x, .int .u64 y] w fun e w' => e = .returned (.agg #[.int .u8 0, .bool false, .nilIface, .int .u64 x, .int .u64 y]) ∧ Below w.heap.size w w' := by
  go_enter Try.func34, Try.ntmps34
  go_wp2
  exact bodyPost_ret (v := .agg #[.int .u8 0, .bool false, .nilIface, .int .u64 x, .int .u64 y]) (by simp [results, Try.results34, go_sem]) rfl ⟨rfl, (Below.refl _ _).alloc (Nat.le_refl _) _⟩

/-- SPANS IN MEMORY: n of them from offset off of block b on: the pairs (A i, R i). -/
def Spans (w : World) (b off n : Nat) (A R : Nat → Int) : Prop :=
  (0 < n → b < w.heap.size) ∧ (∀ i, i < n → w.cell? ⟨b, off + i * 2, none⟩ = some (.int .u64 (A i))) ∧ (∀ i, i < n → w.cell? ⟨b, off + i * 2 + 1, none⟩ = some (.int .u64 (R i)))
theorem Spans.later {w w' : World} {b off n : Nat} {A R : Nat → Int} (h : Spans w b off n A R) (hb : Below w.heap.size w w') : Spans w' b off n A R :=
  ⟨fun h0 => Nat.lt_of_lt_of_le (h.1 h0) hb.size, fun i hi => (hb.cell (p := ⟨b, _, none⟩) (h.1 (by omega))).trans (h.2.1 i hi), fun i hi => (hb.cell (p := ⟨b, _, none⟩) (h.1 (by omega))).trans (h.2.2 i hi)⟩

theorem below_self (w : World) : Below w.heap.size w w := Below.refl _ _
theorem below_then {w w1 w2 : World} (h : Below w.heap.size w w1) (h2 : Below w1.heap.size w1 w2) : Below w.heap.size w w2 := h.trans (h2.mono h.size)

/-- zzSorted -/
theorem sorted_any (a : Option Addr) (b off n c : Nat) (A R : Nat → Int) (w : World) (ha : 0 < n → a = some ⟨b, off, none⟩) (hn : n ≤ 65536) (hs : Spans w b off n A R) :
    Calls Try.prog 12 #[.slice a n c] w fun e w' => ∃ (s : Bool), e = .returned (.bool s) ∧ (s = true ↔ Srt A n) ∧ Below w.heap.size w w' := by
  go_enter Try.func12, Try.ntmps12
  go_wp2
  go_loopw [3] (fun i wr => ∃ k : Nat, 1 ≤ k ∧ (k ≤ n ∨ k = 1) ∧ i = .int .i64 k ∧ Below w.heap.size w wr ∧ ∀ j, j + 1 < k → A j ≤ A (j + 1)) (fun i _ => n + 1 - (intOf i).toNat)
  case atStart => exact ⟨1, by omega, by omega, rfl, Below.refl _ _, fun j hj => by omega⟩
  case round =>
    obtain ⟨k, h1, hk, rfl, hbel, hsrt⟩ := hrel
    have S1 : Hid _ := hs.later hbel
    have B1 : Hid _ := hbel
    have T1 : Hid _ := hsrt
    clear hbel hsrt hs
    by_cases hlt : k < n
    · obtain rfl := ha (by omega)
      have c0 := S1.out.2.1 (k - 1) (by omega)
      have c1 := S1.out.2.1 k (by omega)
      have i0 : (0 : Int) ≤ (k : Int) - 1 := by omega
      have i1 : (k : Int) - 1 < n := by omega
      have i2 : (0 : Int) ≤ (k : Int) := by omega
      have i3 : (k : Int) < n := by omega
      by_cases hgt : A k < A (k - 1)
      · go_wp2
        go_quiet (fail)
        go_wp2
        go_ret
        refine ⟨false, rfl, ⟨fun h => (by cases h), fun h => ?_⟩, below_drewN B1.out _⟩
        have := h (k - 1) (by omega)
        have e : k - 1 + 1 = k := by omega
        rw [e] at this; omega
      · go_wp2
        go_quiet (fail)
        go_wp2
        go_roundw
        case rel =>
          refine ⟨k + 1, by omega, by omega, by go_num, below_drewN B1.out _, fun j hj => ?_⟩
          by_cases e : j + 1 = k
          · have e2 : j = k - 1 := by omega
            rw [e, e2]; omega
          · exact T1.out j (by omega)
        case measure => simp [intOf]; omega
    · go_wp2
      go_ret
      exact ⟨true, rfl, ⟨fun _ j hj => T1.out j (by omega), fun _ => rfl⟩, B1.out⟩

theorem ret_bool {a b : Bool} (h : a = b) : Ending.returned (.bool a) = .returned (.bool b) := by rw [h]
theorem ret_int {k : IntKind} {a b : Int} (h : a = b) : Ending.returned (.int k a) = .returned (.int k b) := by rw [h]

/-- zzStandsAt -/
theorem stands_any (a : Option Addr) (b off n c : Nat) (A R : Nat → Int) (r : Int) (w : World) (ha : 0 < n → a = some ⟨b, off, none⟩) (hn : n ≤ 65536) (hs : Spans w b off n A R) (hS : Srt A n) :
    Calls Try.prog 15 #[.slice a n c, .int .u64 r] w fun e w' => e = .returned (.bool (atB A R r n)) ∧ w' = w := by
  have S1 : Hid (Spans w b off n A R) := hs
  have T1 : Hid (Srt A n) := hS
  clear hs hS
  go_enter Try.func15, Try.ntmps15
  go_wp2
  go_loop [5] (fun i => ∃ k : Nat, k ≤ n ∧ i = .int .i64 k ∧ Hid (∀ i, i < k → r < A i ∨ (i + 1 < n ∧ A (i + 1) ≤ r) ∨ (R i ≠ 0 ∧ R i ≤ r))) (fun i => n - (intOf i).toNat)
  case atStart => exact ⟨0, by omega, rfl, fun j hj => by omega⟩
  case round =>
    obtain ⟨k, hk, rfl, M⟩ := hrel
    by_cases hlt : k < n
    · obtain rfl := ha (by omega)
      have c0 := S1.out.2.1 k hlt
      have c2 := S1.out.2.2 k hlt
      have more : (r < A k ∨ (k + 1 < n ∧ A (k + 1) ≤ r) ∨ (R k ≠ 0 ∧ R k ≤ r)) → Hid (∀ i, i < k + 1 → r < A i ∨ (i + 1 < n ∧ A (i + 1) ≤ r) ∨ (R i ≠ 0 ∧ R i ≤ r)) := fun h j hj => by
        by_cases e : j = k
        · rw [e]; exact h
        · exact M.out j (by omega)
      have MM : Hid _ := more
      clear more
      by_cases h1 : r < A k
      · go_wp2
        go_round
        case rel => exact ⟨k + 1, by omega, by go_num, MM.out (.inl h1)⟩
        case measure => simp [intOf]; omega
      · by_cases h2 : k + 1 < n
        · have c1 := S1.out.2.1 (k + 1) h2
          by_cases h3 : A (k + 1) ≤ r
          · go_wp2
            go_round
            case rel => exact ⟨k + 1, by omega, by go_num, MM.out (.inr (.inl ⟨h2, h3⟩))⟩
            case measure => simp [intOf]; omega
          · by_cases h4 : R k = 0
            · have h5 : (R k != 0) = false := by simp [h4]
              have H4 : Hid (R k = 0) := h4
              clear h4
              go_wp2
              go_ret
              exact ⟨ret_bool (stand_hit T1.out hlt (by omega) (fun _ => by omega) (.inl H4.out)).symm, rfl⟩
            · have h5 : (R k != 0) = true := by simp [h4]
              by_cases h6 : R k ≤ r
              · go_wp2
                go_round
                case rel => exact ⟨k + 1, by omega, by go_num, MM.out (.inr (.inr ⟨h4, h6⟩))⟩
                case measure => simp [intOf]; omega
              · go_wp2
                go_ret
                exact ⟨ret_bool (stand_hit T1.out hlt (by omega) (fun _ => by omega) (.inr (by omega))).symm, rfl⟩
        · by_cases h4 : R k = 0
          · have h5 : (R k != 0) = false := by simp [h4]
            have H4 : Hid (R k = 0) := h4
            clear h4
            go_wp2
            go_ret
            exact ⟨ret_bool (stand_hit T1.out hlt (by omega) (fun _ => by omega) (.inl H4.out)).symm, rfl⟩
          · have h5 : (R k != 0) = true := by simp [h4]
            by_cases h6 : R k ≤ r
            · go_wp2
              go_round
              case rel => exact ⟨k + 1, by omega, by go_num, MM.out (.inr (.inr ⟨h4, h6⟩))⟩
              case measure => simp [intOf]; omega
            · go_wp2
              go_ret
              exact ⟨ret_bool (stand_hit T1.out hlt (by omega) (fun _ => by omega) (.inr (by omega))).symm, rfl⟩
    · go_wp2
      go_ret
      have : k = n := by omega
      have M2 := M.out
      rw [this] at M2
      exact ⟨ret_bool (stand_miss T1.out M2).symm, rfl⟩

end Go.Proofs.Qxb6617005a.W
