import Derived.Test.Qxb6617152aWalksB
namespace Go.Proofs.Qxb6617152a.W
open Go.RowKit
open Go.Proofs.Qxb6617152a.Plain
set_option linter.unusedVariables false

theorem below_then {w w1 w2 : World} (h : Below w.heap.size w w1) (h2 : Below w1.heap.size w1 w2) : Below w.heap.size w w2 := h.trans (h2.mono h.size)

theorem less_int (h n c i j : Nat) (x y : Int) (d : Nat → Due) (w : World) (hx : x = i) (hy : y = j) (H : Fill w h n n d) (hn : n ≤ 4096) (hi : i < n) (hj : j < n) :
    Calls Try.prog 30 #[.slice (some ⟨h, 0, none⟩) n c, .int .i64 x, .int .i64 y] w fun e w' => e = .returned (.bool (lt (d i) (d j))) ∧ Below w.heap.size w w' := by
  subst hx
  subst hy
  exact (less_any h n c i j d w H hn hi hj).mono fun e w' ⟨h1, q, h2⟩ => ⟨h1, by rw [h2]; exact below_drewN (Below.refl _ _) q⟩

/-- the least so far, behind t children -/
def lstT (d : Nat → Due) (n i : Nat) : Nat → Nat
  | 0 => i
  | 1 => lst1 d n i
  | _ => lst d n i
theorem lst1_lt {d : Nat → Due} {n i : Nat} (hi : i < n) : lst1 d n i < n := by unfold lst1; split <;> omega
theorem lst1_yes {d : Nat → Due} {n i : Nat} (h : 2 * i + 1 < n) (hl : lt (d (2 * i + 1)) (d i) = true) : lst1 d n i = 2 * i + 1 := by unfold lst1; rw [if_pos ⟨h, hl⟩]
theorem lst1_no {d : Nat → Due} {n i : Nat} (h : 2 * i + 1 < n → lt (d (2 * i + 1)) (d i) = false) : lst1 d n i = i := by
  unfold lst1; rw [if_neg]; rintro ⟨a, b⟩; rw [h a] at b; cases b
theorem lst_yes {d : Nat → Due} {n i : Nat} (h : 2 * i + 2 < n) (hl : lt (d (2 * i + 2)) (d (lst1 d n i)) = true) : lst d n i = 2 * i + 2 := by unfold lst; rw [if_pos ⟨h, hl⟩]
theorem lst_no {d : Nat → Due} {n i : Nat} (h : 2 * i + 2 < n → lt (d (2 * i + 2)) (d (lst1 d n i)) = false) : lst d n i = lst1 d n i := by
  unfold lst; rw [if_neg]; rintro ⟨a, b⟩; rw [h a] at b; cases b
theorem two_yes {d : Nat → Due} {n i ll : Nat} (h1 : ll = lstT d n i 1) (hc : 2 * i + 2 < n) (hl : lt (d (2 * i + 2)) (d ll) = true) : 2 * i + 2 = lstT d n i 2 := by subst h1; exact (lst_yes hc hl).symm
theorem two_no {d : Nat → Due} {n i ll : Nat} (h1 : ll = lstT d n i 1) (hl : 2 * i + 2 < n → lt (d (2 * i + 2)) (d ll) = false) : ll = lstT d n i 2 := by subst h1; exact (lst_no hl).symm
theorem one_yes {d : Nat → Due} {n i ll : Nat} (h1 : ll = lstT d n i 0) (hc : 2 * i + 1 < n) (hl : lt (d (2 * i + 1)) (d ll) = true) : 2 * i + 1 = lstT d n i 1 := by subst h1; exact (lst1_yes hc hl).symm
theorem one_no {d : Nat → Due} {n i ll : Nat} (h1 : ll = lstT d n i 0) (hl : 2 * i + 1 < n → lt (d (2 * i + 1)) (d ll) = false) : ll = lstT d n i 1 := by subst h1; exact (lst1_no hl).symm
theorem idx0 (x y : Int) (w : World) : (Instr.index 61 (.agg #[.int .i64 x, .int .i64 y]) (.int .i64 0)).run Try.prog w = .ok (.int .i64 x) w := by kernel_rfl
theorem idx1 (x y : Int) (w : World) : (Instr.index 61 (.agg #[.int .i64 x, .int .i64 y]) (.int .i64 1)).run Try.prog w = .ok (.int .i64 y) w := by kernel_rfl

theorem down_stop {n f i : Nat} {e : Nat → Due} (h : lst e n i = i) : down n f i e = e := by
  cases f with
  | zero => rfl
  | succ f => simp only [down, if_pos h]
theorem down_go {n f i l : Nat} {e : Nat → Due} (hf : 0 < f) (h : l = lst e n i) (hne : ¬ l = i) : down n f i e = down n (f - 1) l (Plain.swap e i l) := by
  obtain ⟨f', rfl⟩ : ∃ f', f = f' + 1 := ⟨f - 1, by omega⟩
  subst h
  simp only [down, if_neg hne, Nat.add_sub_cancel]

set_option maxHeartbeats 1000000 in
/-- (dueHeap).down -/
theorem down_any (h n c i0 : Nat) (d : Nat → Due) (w : World) (hn : n ≤ 4096) (hi0 : i0 < n) (H : Fill w h n n d) :
    Calls Try.prog 26 #[.slice (some ⟨h, 0, none⟩) n c, .int .i64 i0] w fun e w' => e = .returned (.tuple #[]) ∧ Fill w' h n n (down n n i0 d) ∧ Keeps (fun k => k = h) w w' := by
  go_enter Try.func26, Try.ntmps26
  go_wp2
  go_loopw [1] (fun s wr => ∃ (i f : Nat) (e : Nat → Due), i < n ∧ n ≤ f + i ∧ s = .int .i64 i ∧ Hid (Fill wr h n n e) ∧ Hid (down n f i e = down n n i0 d) ∧ Hid (Keeps (fun k => k = h) w wr)) (fun s _ => n - (intOf s).toNat)
  case atStart => exact ⟨i0, n, d, hi0, by omega, rfl, H, rfl, Keeps.refl _ _⟩
  case round =>
    clear H hi0
    obtain ⟨i, f, e, hi, hf, rfl, F1, D1, K1⟩ := hrel
    obtain ⟨wo, rfl⟩ : ∃ wo : World, wo = wr := ⟨_, rfl⟩
    go_wp2
    go_loopw [4, 15] (fun l t wr => ∃ (tt ll : Nat), tt ≤ 2 ∧ ll < n ∧ t = .int .i64 tt ∧ l = .int .i64 ll ∧ Hid (ll = lstT e n i tt) ∧ Hid (Below wo.heap.size wo wr)) (fun _ t _ => 2 - (intOf t).toNat)
    case atStart => exact ⟨0, i, by omega, hi, rfl, rfl, (rfl : i = lstT e n i 0), Below.refl _ _⟩
    case round =>
      obtain ⟨tt, ll, htt, hll, rfl, rfl, L1, B1⟩ := hrel
      have F2 : Hid (Fill wr h n n e) := F1.out.later B1.out
      have x0 := idx0
      have x1 := idx1
      by_cases h2 : tt = 2
      · subst h2
        clear x0 x1 htt
        by_cases hli : ll = i
        · subst hli
          go_wp2_with fail
          refine bodyPost_ret (results_none rfl _ _ _) rfl ?_
          have D2 := D1.out
          rw [down_stop (L1.out : ll = lst e n ll).symm] at D2
          rw [← D2]
          exact ⟨rfl, F2.out, K1.out.then (Keeps.of_below (fun _ => False) B1.out) (fun _ _ h => h.elim)⟩
        · have hne : ((ll : Int) == (i : Int)) = false := by simp; omega
          have hilt : i < ll := by have h1 := lst_cases e n i; have h2 : ll = lst e n i := L1.out; omega
          have K2 : Hid (Keeps (fun k => k = h) w wr) := K1.out.then (Keeps.of_below (fun _ => False) B1.out) (fun _ _ h => h.elim)
          have D2 : Hid (down n (f - 1) ll (Plain.swap e i ll) = down n n i0 d) := (down_go (by omega) (L1.out : ll = lst e n i) hli).symm.trans D1.out
          obtain ⟨c0, c1⟩ := F2.out.2.2.2 i hi
          obtain ⟨c2, c3⟩ := F2.out.2.2.2 ll hll
          have f0 := F2.out.2.2.1 (i * 2) (by omega)
          have f1 := F2.out.2.2.1 (i * 2 + 1) (by omega)
          have f2 := F2.out.2.2.1 (ll * 2) (by omega)
          have f3 := F2.out.2.2.1 (ll * 2 + 1) (by omega)
          have i2 : (0 : Int) ≤ (i : Int) := by omega
          have i3 : (i : Int) < n := by omega
          have i4 : (0 : Int) ≤ (ll : Int) := by omega
          have i5 : (ll : Int) < n := by omega
          clear hli
          go_wp2_with fail
          go_big_region
          go_wp2
          go_roundw
          case rel => exact ⟨ll, f - 1, _, hll, by omega, rfl, (F2.out.swap hi hll (by omega)).keep (Keeps.drew (fun _ => False) _) (fun h => h), D2.out, (K2.out.trans (keeps_four _ _ _ _ _ _ _ _ _ _)).trans (Keeps.drew _ _)⟩
          case measure => simp [intOf]; omega
      · by_cases h1 : tt = 1
        · subst h1
          by_cases hc : 2 * i + 2 < n
          · have hless := fun W (HF : Fill W h n n e) => less_int h n c (2 * i + 2) ll (2 * (i : Int) + 2) ll e W (by omega) rfl HF hn hc hll
            cases hl : lt (e (2 * i + 2)) (e ll) with
            | true =>
              rw [hl] at hless
              have HL : Hid (2 * i + 2 = lstT e n i 2) := two_yes L1.out hc hl
              clear hl
              go_wp2_with (go_at_call 30; refine (hless _ F2.out).mono ?_; rintro e' w' ⟨rfl, hb⟩)
              go_roundw
              case rel => exact ⟨2, 2 * i + 2, by omega, by omega, by go_num, by go_num, HL.out, below_then B1.out hb⟩
              case measure => simp [intOf]
            | false =>
              rw [hl] at hless
              have HL : Hid (ll = lstT e n i 2) := two_no L1.out (fun _ => hl)
              clear hl
              go_wp2_with (go_at_call 30; refine (hless _ F2.out).mono ?_; rintro e' w' ⟨rfl, hb⟩)
              go_roundw
              case rel => exact ⟨2, ll, by omega, hll, by go_num, rfl, HL.out, below_then B1.out hb⟩
              case measure => simp [intOf]
          · have HL : Hid (ll = lstT e n i 2) := two_no L1.out (fun h => absurd h hc)
            go_wp2_with fail
            go_roundw
            case rel => exact ⟨2, ll, by omega, hll, by go_num, rfl, HL.out, B1.out⟩
            case measure => simp [intOf]
        · obtain rfl : tt = 0 := by omega
          by_cases hc : 2 * i + 1 < n
          · have hless := fun W (HF : Fill W h n n e) => less_int h n c (2 * i + 1) ll (2 * (i : Int) + 1) ll e W (by omega) rfl HF hn hc hll
            cases hl : lt (e (2 * i + 1)) (e ll) with
            | true =>
              rw [hl] at hless
              have HL : Hid (2 * i + 1 = lstT e n i 1) := one_yes L1.out hc hl
              clear hl
              go_wp2_with (go_at_call 30; refine (hless _ F2.out).mono ?_; rintro e' w' ⟨rfl, hb⟩)
              go_roundw
              case rel => exact ⟨1, 2 * i + 1, by omega, by omega, by go_num, by go_num, HL.out, below_then B1.out hb⟩
              case measure => simp [intOf]
            | false =>
              rw [hl] at hless
              have HL : Hid (ll = lstT e n i 1) := one_no L1.out (fun _ => hl)
              clear hl
              go_wp2_with (go_at_call 30; refine (hless _ F2.out).mono ?_; rintro e' w' ⟨rfl, hb⟩)
              go_roundw
              case rel => exact ⟨1, ll, by omega, hll, by go_num, rfl, HL.out, below_then B1.out hb⟩
              case measure => simp [intOf]
          · have HL : Hid (ll = lstT e n i 1) := one_no L1.out (fun h => absurd h hc)
            go_wp2_with fail
            go_roundw
            case rel => exact ⟨1, ll, by omega, hll, by go_num, rfl, HL.out, B1.out⟩
            case measure => simp [intOf]

end Go.Proofs.Qxb6617152a.W
