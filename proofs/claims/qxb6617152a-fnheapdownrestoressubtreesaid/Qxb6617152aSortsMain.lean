import Derived.Test.Qxb6617152aHeapDown
import Derived.Test.Qxb6617152aSort
namespace Go.Proofs.Qxb6617152a.W
open Go.RowKit
open Go.Proofs.Qxb6617152a.Plain
set_option linter.unusedVariables false

theorem Two.keep0 {w w' : World} {S : Nat → Prop} {ga gd n : Nat} {d : Nat → Due} (h : Two w ga gd n d) (hk : Keeps S w w') (h1 : 0 < n → ¬ S ga ∧ ¬ S gd) : Two w' ga gd n d := by
  by_cases h0 : 0 < n
  · exact h.keep hk (h1 h0).1 (h1 h0).2
  · exact ⟨fun h => absurd h h0, ⟨fun h => absurd h h0, fun i hi => by omega, fun i hi => by omega⟩, ⟨fun h => absurd h h0, fun i hi => by omega, fun i hi => by omega⟩⟩
theorem heapDown_int (ga gd N m ca cd i : Nat) (x : Int) (d : Nat → Due) (w : World) (hx : x = i) (hN : N ≤ 4096) (hm : m ≤ N) (hi : i < m) (H : Two w ga gd N d) :
    Calls Try.prog 10 #[.slice (some ⟨ga, 0, none⟩) m ca, .slice (some ⟨gd, 0, none⟩) m cd, .int .i64 x] w fun e w' => e = .returned (.tuple #[]) ∧ Two w' ga gd N (down m m i d) ∧ Keeps (fun k => k = ga ∨ k = gd) w w' := by
  subst hx
  exact heapDown_any ga gd N m ca cd i d w hN hm hi H
theorem heap_start {n : Nat} {d : Nat → Due} : Heap (fun p => n / 2 ≤ p) n d := fun c h0 hc hp => by
  have : n / 2 ≤ (c - 1) / 2 := hp
  omega
theorem heap_all {n : Nat} {d : Nat → Due} (h : Heap (fun p => 0 ≤ p) n d) : Heap (fun _ => True) n d := fun c h0 hc _ => h c h0 hc (Nat.zero_le _)
theorem build_at {n j : Nat} {d : Nat → Due} (hj : 0 < j) (h : Heap (fun p => j ≤ p) n d) : Heap (fun p => j - 1 ≤ p) n (down n n (j - 1) d) := by
  obtain ⟨i, rfl⟩ : ∃ i, j = i + 1 := ⟨j - 1, by omega⟩
  exact build_step (by omega) h
theorem pop_at {n m : Nat} {d : Nat → Due} (hm : 2 ≤ m) (h : Pop n m d) : Pop n (m - 1) (down (m - 1) (m - 1) 0 (Plain.swap d 0 (m - 1))) := by
  obtain ⟨i, rfl⟩ : ∃ i, m = i + 1 := ⟨m - 1, by omega⟩
  exact pop_step (by omega) (by omega) h
theorem desc_of {n m : Nat} {d : Nat → Due} (hm : m ≤ 1) (h0 : 0 < n → 1 ≤ m) (h : Pop n m d) : Desc d n := by
  by_cases hn : 0 < n
  · obtain rfl : m = 1 := by have := h0 hn; omega
    exact pop_end h
  · exact fun i j a b => by omega

set_option maxHeartbeats 2000000 in
theorem sorts_main (a1 a2 : Option Addr) (b1 o1 b2 o2 n c1 c2 : Nat) (zA zD : Nat → Int) (w : World) (hn : n ≤ 4096) (h1 : 0 < n → a1 = some ⟨b1, o1, none⟩) (h2 : 0 < n → a2 = some ⟨b2, o2, none⟩)
    (n1 : a1 = none → n = 0 ∧ c1 = 0) (n2 : a2 = none → n = 0 ∧ c2 = 0) (r1 : Rd w .i64 b1 o1 n zA) (r2 : Rd w .i32 b2 o2 n zD)
    (hb : ∀ w, Calls Try.prog 6 #[.slice a1 n c1, .slice a2 n c2] w fun e w' => e = .returned (.bool true) ∧ w' = w) :
    Calls Try.prog 3 #[.slice a1 n c1, .slice a2 n c2] w fun e w' => e = .returned (.bool true) ∧ Below w.heap.size w w' := by
  have hc1 := fun w (r1 : Rd w .i64 b1 o1 n zA) => clone64_any a1 b1 o1 n c1 zA w h1 n1 hn r1
  have hc2 := fun w (r2 : Rd w .i32 b2 o2 n zD) => clone32_any a2 b2 o2 n c2 zD w h2 n2 hn r2
  have R1 : Hid (Rd w .i64 b1 o1 n zA) := r1
  have R2 : Hid (Rd w .i32 b2 o2 n zD) := r2
  have hd : decide (4096 < (n : Int)) = false := decide_eq_false (by omega)
  clear r1 r2 n1 n2 h1 h2
  go_enter Try.func3, Try.ntmps3
  go_wp2_with (go_at_call 6; refine (hb _).mono ?_; rintro e w' ⟨rfl, rfl⟩)
  refine (hc1 _ R1.out).mono ?_
  rintro e w1 ⟨x1, y1, rfl, p1, q1, s1, t1, m1, hb1⟩
  have hz1 : w'.heap.size ≤ w1.heap.size := hb1.size
  have M1 : Hid (Rw w1 .i64 w'.heap.size n zA) := m1
  have R2' : Hid (Rd w1 .i32 b2 o2 n zD) := R2.out.later hb1
  have u1 : 0 < n → w'.heap.size < w1.heap.size := m1.1
  have BB1 : Hid (Below w'.heap.size w' w1) := hb1
  clear m1 hb1 hc1 hb
  go_wp2_with fail
  refine (hc2 _ R2'.out).mono ?_
  rintro e w2 ⟨x2, y2, rfl, p2, q2, s2, t2, m2, hb2⟩
  have hz2 : w'.heap.size ≤ w2.heap.size := Nat.le_trans hz1 hb2.size
  have M2 : Hid (Rw w2 .i32 w1.heap.size n zD) := m2
  have M1' : Hid (Rw w2 .i64 w'.heap.size n zA) := M1.out.later hb2
  have u2 : 0 < n → w1.heap.size < w2.heap.size := m2.1
  have BB2 : Hid (Below w'.heap.size w' w2) := below_then BB1.out hb2
  clear m2 hb2 hc2 M1 BB1 R1 R2 R2'
  go_wp2_with fail
  refine (clone64_any x1 w'.heap.size 0 n y1 zA _ p1 q1 hn M1'.out.rd).mono ?_
  rintro e w3 ⟨x3, y3, rfl, p3, q3, s3, t3, m3, hb3⟩
  have M3 : Hid (Rw w3 .i64 w2.heap.size n zA) := m3
  have M2' : Hid (Rw w3 .i32 w1.heap.size n zD) := M2.out.later hb3
  have M1'' : Hid (Rw w3 .i64 w'.heap.size n zA) := M1'.out.later hb3
  have u3 : 0 < n → w2.heap.size < w3.heap.size := m3.1
  have BB3 : Hid (Below w'.heap.size w' w3) := below_then BB2.out hb3
  clear m3 hb3 M1' M2 BB2
  go_wp2_with fail
  refine (clone32_any x2 w1.heap.size 0 n y2 zD _ p2 q2 hn M2'.out.rd).mono ?_
  rintro e w4 ⟨x4, y4, rfl, p4, q4, s4, t4, m4, hb4⟩
  have u4 : 0 < n → w3.heap.size < w4.heap.size := m4.1
  have T4 : Hid (Two w4 w'.heap.size w1.heap.size n (fun i => (zA i, zD i))) := ⟨fun h => by have := u1 h; omega, M1''.out.later hb4, M2'.out.later hb4⟩
  have V4 : Hid (Two w4 w2.heap.size w3.heap.size n (fun i => (zA i, zD i))) := ⟨fun h => by have := u3 h; omega, M3.out.later hb4, m4⟩
  have BB4 : Hid (Below w'.heap.size w' w4) := below_then BB3.out hb4
  have hz3 : w'.heap.size ≤ w3.heap.size := BB3.out.size
  clear m4 hb4 M1'' M2' M3 BB3
  generalize (fun i => (zA i, zD i)) = d at T4 V4
  generalize w1.heap.size = g2 at *
  generalize w2.heap.size = g3 at *
  generalize w3.heap.size = g4 at *
  go_wp2_with fail
  refine (sort_any x3 x4 g3 g4 n y3 y4 d _ p3 p4 hn V4.out).mono ?_
  rintro e w5 ⟨rfl, dd, T5, D5, C5, K5⟩
  have V5 : Hid (Two w5 g3 g4 n dd) := T5
  have DD : Hid (Desc dd n) := D5
  have CC : Hid (∀ y, cnt dd y n = cnt d y n) := C5
  have U5 : Hid (Two w5 w'.heap.size g2 n d) := T4.out.keep0 K5 (fun h => by have := u1 h; have := u2 h; have := u3 h; omega)
  have BB5 : Hid (Below w'.heap.size w' w5) := BB4.out.trans (K5.below (fun x hx => by omega) BB4.out.size)
  clear T5 D5 C5 K5 T4 V4 BB4
  go_wp2_with fail
  go_loopw [8] (fun s wr => ∃ (j : Nat) (x : Nat → Due), j ≤ n / 2 ∧ s = .int .i64 ((j : Int) - 1) ∧ Hid (Two wr w'.heap.size g2 n x) ∧ Hid (Two wr g3 g4 n dd) ∧ Hid (Heap (fun p => j ≤ p) n x) ∧ Hid (∀ y, cnt x y n = cnt d y n) ∧ Hid (Below w'.heap.size w' wr)) (fun s _ => (intOf s + 1).toNat)
  case atStart => exact ⟨n / 2, d, Nat.le_refl _, by go_num, U5.out, V5.out, heap_start, fun _ => rfl, BB5.out⟩
  case round =>
    clear U5 V5 BB5
    obtain ⟨j, x, hj, rfl, U6, V6, H6, C6, B6⟩ := hrel
    by_cases hj0 : 0 < j
    · obtain rfl := p1 (by omega)
      obtain rfl := p2 (by omega)
      have hd1 := heapDown_int w'.heap.size g2 n n y1 y2 (j - 1) ((j : Int) - 1) x wr (by omega) hn (Nat.le_refl _) (by omega) U6.out
      go_wp2_with (go_at_call 10; refine hd1.mono ?_; rintro e' w6 ⟨rfl, U7, K7⟩)
      go_roundw
      case rel => exact ⟨j - 1, _, by omega, by go_num, U7, V6.out.keep0 K7 (fun h => by have := u1 h; have := u2 h; have := u3 h; omega), build_at hj0 H6.out, fun y => (down_cnt n (j - 1) x (by omega)).trans (C6.out y), B6.out.trans (K7.below (fun x hx => by omega) B6.out.size)⟩
      case measure => simp [intOf]; omega
    · have P6 : Hid (Pop n n x) := by have := H6.out; have e : j = 0 := (by omega); rw [e] at this; exact pop_start (heap_all this)
      go_wp2_with fail
      go_loopw [9] (fun s wr => ∃ (m : Nat) (x : Nat → Due), m ≤ n ∧ (0 < n → 1 ≤ m) ∧ s = .int .i64 ((m : Int) - 1) ∧ Hid (Two wr w'.heap.size g2 n x) ∧ Hid (Two wr g3 g4 n dd) ∧ Hid (Pop n m x) ∧ Hid (∀ y, cnt x y n = cnt d y n) ∧ Hid (Below w'.heap.size w' wr)) (fun s _ => (intOf s).toNat)
      case atStart => exact ⟨n, x, Nat.le_refl _, fun h => h, rfl, U6.out, V6.out, P6.out, C6.out, B6.out⟩
      case round =>
        clear U6 V6 H6 C6 B6 P6
        obtain ⟨m, z, hm, hm1, rfl, U8, V8, P8, C8, B8⟩ := hrel
        by_cases hm2 : 2 ≤ m
        · obtain rfl := p1 (by omega)
          obtain rfl := p2 (by omega)
          have hne := U8.out.1 (by omega)
          have k0 := U8.out.2.1.2.1 0 (by omega)
          have k1 := U8.out.2.1.2.1 (m - 1) (by omega)
          have k2 := U8.out.2.2.2.1 0 (by omega)
          have k3 := U8.out.2.2.2.1 (m - 1) (by omega)
          have f0 := U8.out.2.1.2.2 0 (by omega)
          have f1 := U8.out.2.1.2.2 (m - 1) (by omega)
          have f2 := U8.out.2.2.2.2 0 (by omega)
          have f3 := U8.out.2.2.2.2 (m - 1) (by omega)
          go_wp2_with fail
          have W9 : Hid (Two ((((wr.setCell ⟨w'.heap.size, 0, none⟩ (.int .i64 (z (m - 1)).1)).setCell ⟨w'.heap.size, m - 1, none⟩ (.int .i64 (z 0).1)).setCell ⟨g2, 0, none⟩ (.int .i32 (z (m - 1)).2)).setCell ⟨g2, m - 1, none⟩ (.int .i32 (z 0).2)) w'.heap.size g2 n (Plain.swap z 0 (m - 1))) := U8.out.swap (by omega) (by omega) (by omega)
          have K9 : Hid (Keeps (fun k => k = w'.heap.size ∨ k = g2) wr ((((wr.setCell ⟨w'.heap.size, 0, none⟩ (.int .i64 (z (m - 1)).1)).setCell ⟨w'.heap.size, m - 1, none⟩ (.int .i64 (z 0).1)).setCell ⟨g2, 0, none⟩ (.int .i32 (z (m - 1)).2)).setCell ⟨g2, m - 1, none⟩ (.int .i32 (z 0).2))) := keeps_swap _ _ _ _ _ _ _ _ _
          clear k0 k1 k2 k3 f0 f1 f2 f3
          generalize ((((wr.setCell ⟨w'.heap.size, 0, none⟩ (.int .i64 (z (m - 1)).1)).setCell ⟨w'.heap.size, m - 1, none⟩ (.int .i64 (z 0).1)).setCell ⟨g2, 0, none⟩ (.int .i32 (z (m - 1)).2)).setCell ⟨g2, m - 1, none⟩ (.int .i32 (z 0).2)) = wx at W9 K9 ⊢
          have hd2 := fun W (HT : Two W w'.heap.size g2 n (Plain.swap z 0 (m - 1))) => heapDown_any w'.heap.size g2 n (m - 1) y1 y2 0 (Plain.swap z 0 (m - 1)) W hn (by omega) (by omega) HT
          have i0 : (0 : Int) ≤ (m : Int) - 1 := by omega
          have i1 : (m : Int) - 1 ≤ y1 := by omega
          have i2 : (m : Int) - 1 ≤ y2 := by omega
          have V9 : Hid (Two wx g3 g4 n dd) := V8.out.keep0 K9.out (fun h => by have := u1 h; have := u2 h; have := u3 h; omega)
          have B9 : Hid (Below w'.heap.size w' wx) := B8.out.trans (K9.out.below (fun x hx => by omega) B8.out.size)
          go_region_with (go_at_call 10; refine (hd2 _ (W9.out.keep (Keeps.drew (fun _ => False) _) (fun h => h) (fun h => h))).mono ?_; rintro e' w6 ⟨rfl, U9, K10⟩)
          all_goals
            go_wp2
            go_roundw
            case rel => exact ⟨m - 1, _, by omega, fun _ => by omega, by go_num, U9, (V9.out.keep0 (Keeps.drew (fun _ => False) _) (fun _ => ⟨fun h => h, fun h => h⟩)).keep0 K10 (fun h => by have := u1 h; have := u2 h; have := u3 h; omega), pop_at hm2 P8.out, fun y => (cnt_down_swap (by omega) (by omega)).trans (C8.out y), B9.out.drew.trans (K10.below (fun x hx => by omega) B9.out.size)⟩
            case measure => simp [intOf]; omega
        · have DZ : Desc z n := desc_of (by omega) hm1 P8.out
          have EQ : ∀ i, i < n → dd i = z i := fun i hi => (desc_unique DZ DD.out (fun y => (C8.out y).trans (CC.out y).symm) i hi).symm
          have V10 : Hid (Two wr g3 g4 n z) := V8.out.congr EQ
          clear DZ EQ
          obtain ⟨wo, rfl⟩ : ∃ wo : World, wo = wr := ⟨_, rfl⟩
          go_wp2_with fail
          go_loopw [12] (fun s wr => ∃ (k : Nat), k ≤ n ∧ s = .int .i64 k ∧ Hid (Below wo.heap.size wo wr)) (fun s _ => n - (intOf s).toNat)
          case atStart => exact ⟨0, Nat.zero_le _, rfl, Below.refl _ _⟩
          case round =>
            obtain ⟨k, hk, rfl, B10⟩ := hrel
            by_cases hlt : k < n
            · obtain rfl := p1 (by omega)
              obtain rfl := p2 (by omega)
              obtain rfl := p3 (by omega)
              obtain rfl := p4 (by omega)
              have U11 := U8.out.later B10.out
              have V11 := V10.out.later B10.out
              have k0 := U11.2.1.2.1 k hlt
              have k1 := U11.2.2.2.1 k hlt
              have k2 := V11.2.1.2.1 k hlt
              have k3 := V11.2.2.2.1 k hlt
              have i0 : (0 : Int) ≤ (k : Int) := by omega
              have i1 : (k : Int) < n := by omega
              have e1 : ((z k).1 != (z k).1) = false := by simp
              have e2 : ((z k).2 != (z k).2) = false := by simp
              clear U11 V11
              go_wp2_with fail
              go_quiet (fail)
              go_wp2
              go_roundw
              case rel => exact ⟨k + 1, by omega, by go_num, below_drewN B10.out _⟩
              case measure => simp [intOf]; omega
            · go_wp2
              go_ret
              exact ⟨rfl, below_then B8.out B10.out⟩

end Go.Proofs.Qxb6617152a.W
