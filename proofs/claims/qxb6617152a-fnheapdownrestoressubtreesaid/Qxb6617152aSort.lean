import Derived.Test.Qxb6617152aWalksB
namespace Go.Proofs.Qxb6617152a.W
open Go.RowKit
open Go.Proofs.Qxb6617152a.Plain
set_option linter.unusedVariables false

theorem ins_down {x p : Nat} {e : Nat → Due} (h0 : 0 < p) (hp : p ≤ x) (h : Ins x p e) (hl : lt (e (p - 1)) (e p) = true) : Ins x (p - 1) (Plain.swap e (p - 1) p) := by
  obtain ⟨q, rfl⟩ : ∃ q, p = q + 1 := ⟨p - 1, by omega⟩
  exact ins_step hp h hl

set_option maxHeartbeats 1000000 in
/-- sortPairsDescending -/
theorem sort_any (a1 a2 : Option Addr) (ga gd n ca cd : Nat) (d : Nat → Due) (w : World) (h1 : 0 < n → a1 = some ⟨ga, 0, none⟩) (h2 : 0 < n → a2 = some ⟨gd, 0, none⟩) (hn : n ≤ 4096) (H : Two w ga gd n d) :
    Calls Try.prog 9 #[.slice a1 n ca, .slice a2 n cd] w fun e w' => e = .returned (.tuple #[]) ∧ ∃ d', Two w' ga gd n d' ∧ Desc d' n ∧ (∀ y, cnt d' y n = cnt d y n) ∧ Keeps (fun k => k = ga ∨ k = gd) w w' := by
  go_enter Try.func9, Try.ntmps9
  go_wp2
  go_loopw [4] (fun i wr => ∃ (x : Nat) (d' : Nat → Due), 1 ≤ x ∧ (x ≤ n ∨ x = 1) ∧ i = .int .i64 x ∧ Hid (Two wr ga gd n d') ∧ Hid (Desc d' x) ∧ Hid (∀ y, cnt d' y n = cnt d y n) ∧ Hid (Keeps (fun k => k = ga ∨ k = gd) w wr)) (fun i _ => n + 1 - (intOf i).toNat)
  case atStart => exact ⟨1, d, Nat.le_refl _, .inr rfl, rfl, H, desc_one d, fun _ => rfl, Keeps.refl _ _⟩
  case round =>
    clear H
    obtain ⟨x, d', hx1, hx, rfl, T1, D1, C1, K1⟩ := hrel
    by_cases hlt : x < n
    · obtain rfl := h1 (by omega)
      obtain rfl := h2 (by omega)
      obtain ⟨wo, rfl⟩ : ∃ wo : World, wo = wr := ⟨_, rfl⟩
      go_wp2
      go_loopw [5] (fun j wr => ∃ (p : Nat) (e : Nat → Due), p ≤ x ∧ j = .int .i64 p ∧ Hid (Two wr ga gd n e) ∧ Hid (Ins x p e) ∧ Hid (∀ y, cnt e y n = cnt d y n) ∧ Hid (Keeps (fun k => k = ga ∨ k = gd) w wr)) (fun j _ => (intOf j).toNat)
      case atStart => exact ⟨x, d', Nat.le_refl _, rfl, T1.out, ins_start D1.out, C1.out, K1.out⟩
      case round =>
        obtain ⟨p, e, hp, rfl, T2, I2, C2, K2⟩ := hrel
        clear T1 D1 C1 K1
        by_cases hp0 : 0 < p
        · have hne := T2.out.1 (by omega)
          have c0 := T2.out.2.1.2.1 (p - 1) (by omega)
          have c1 := T2.out.2.1.2.1 p (by omega)
          have c2 := T2.out.2.2.2.1 (p - 1) (by omega)
          have c3 := T2.out.2.2.2.1 p (by omega)
          have f0 := T2.out.2.1.2.2 (p - 1) (by omega)
          have f1 := T2.out.2.1.2.2 p (by omega)
          have f2 := T2.out.2.2.2.2 (p - 1) (by omega)
          have f3 := T2.out.2.2.2.2 p (by omega)
          have i0 : (0 : Int) ≤ (p : Int) - 1 := by omega
          have i1 : (p : Int) - 1 < n := by omega
          have i2 : (0 : Int) ≤ (p : Int) := by omega
          have i3 : (p : Int) < n := by omega
          cases hl : lt (e (p - 1)) (e p) with
          | true =>
            have hc := fun W => pairLess_any (e (p - 1)) (e p) W
            rw [hl] at hc
            have HL : Hid (lt (e (p - 1)) (e p) = true) := hl
            clear hl
            go_wp2_with fail
            go_quiet ((go_at_call 25; exact Calls.quiet_of_same (hc _)))
            have T3 : Hid (Two (wr.drewN nq) ga gd n e) := T2.out.keep (Keeps.drewN (fun _ => False) _ _) (fun h => h) (fun h => h)
            have K3 : Hid (Keeps (fun k => k = ga ∨ k = gd) w (wr.drewN nq)) := K2.out.trans (Keeps.drewN _ _ _)
            clear c0 c1 c2 c3 f0 f1 f2 f3 T2 K2
            generalize wr.drewN nq = wq at T3 K3 ⊢
            have c0 := T3.out.2.1.2.1 (p - 1) (by omega)
            have c1 := T3.out.2.1.2.1 p (by omega)
            have c2 := T3.out.2.2.2.1 (p - 1) (by omega)
            have c3 := T3.out.2.2.2.1 p (by omega)
            have f0 := T3.out.2.1.2.2 (p - 1) (by omega)
            have f1 := T3.out.2.1.2.2 p (by omega)
            have f2 := T3.out.2.2.2.2 (p - 1) (by omega)
            have f3 := T3.out.2.2.2.2 p (by omega)
            have T4 : Hid _ := T3.out.swap (i := p - 1) (j := p) (by omega) (by omega) (by omega)
            have K4 : Hid _ := K3.out.trans (keeps_swap wq ga gd (p - 1) p (.int .i64 (e p).1) (.int .i64 (e (p - 1)).1) (.int .i32 (e p).2) (.int .i32 (e (p - 1)).2))
            have I4 : Hid (Ins x (p - 1) (Plain.swap e (p - 1) p)) := ins_down hp0 hp I2.out HL.out
            have C4 : Hid (∀ y, cnt (Plain.swap e (p - 1) p) y n = cnt d y n) := fun y => (cnt_swap (by omega) (by omega)).trans (C2.out y)
            go_wp2
            go_roundw
            case rel => first | exact ⟨p - 1, _, by omega, by go_num, T4.out, I4.out, C4.out, K4.out⟩ | ((repeat apply Exists.intro); exact ⟨⟨p - 1, _, by omega, by go_num, T4.out, I4.out, C4.out, K4.out⟩, rfl⟩)
            case measure => simp [intOf]; omega
          | false =>
            have hc := fun W => pairLess_any (e (p - 1)) (e p) W
            rw [hl] at hc
            have HL : Hid (lt (e (p - 1)) (e p) = false) := hl
            clear hl
            go_wp2_with fail
            go_quiet ((go_at_call 25; exact Calls.quiet_of_same (hc _)))
            go_wp2
            go_roundw
            case rel => exact ⟨x + 1, e, by omega, by omega, by go_num, T2.out.keep (Keeps.drewN (fun _ => False) _ _) (fun h => h) (fun h => h), ins_end I2.out (fun i hi => by have e : i = p - 1 := (by omega); rw [e]; exact HL.out), C2.out, K2.out.trans (Keeps.drewN _ _ _)⟩
            case measure => simp [intOf]; omega
        · have hd : decide (0 < (p : Int)) = false := decide_eq_false (by omega)
          go_wp2_with fail
          go_quiet (fail)
          go_wp2
          go_roundw
          case rel => exact ⟨x + 1, e, by omega, by omega, by go_num, T2.out.keep (Keeps.drewN (fun _ => False) _ _) (fun h => h) (fun h => h), ins_end I2.out (fun i hi => by omega), C2.out, K2.out.trans (Keeps.drewN _ _ _)⟩
          case measure => simp [intOf]; omega
    · go_wp2
      go_end0
      exact ⟨rfl, d', T1.out, fun i j a b => D1.out i j a (by omega), C1.out, K1.out⟩

end Go.Proofs.Qxb6617152a.W
