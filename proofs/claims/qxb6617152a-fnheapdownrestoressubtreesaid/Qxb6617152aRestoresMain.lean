import Derived.Test.Qxb6617152aFour
import Derived.Test.Qxb6617152aSortsMain
namespace Go.Proofs.Qxb6617152a.W
open Go.RowKit
open Go.Proofs.Qxb6617152a.Plain
set_option linter.unusedVariables false

theorem bytes11 (a b : Option Addr) (n c m e : Nat) (x : Int) (w : World) (hn : n ≤ maxLen) (hm : m ≤ maxLen) : Calls Try.prog 11 #[.slice a n c, .slice b m e, .int .i64 x] w fun e w' => ∃ s : Bool, e = .returned (.bool s) ∧ ((n ≤ 4096 ∧ m ≤ 4096) → s = true) ∧ w' = w := by
  unfold maxLen at hn hm
  by_cases h1 : n ≤ 1048576
  · by_cases h2 : m ≤ 1048576
    · by_cases h3 : n + m ≤ 1048576
      · go_enter Try.func11, Try.ntmps11
        go_wp2
        go_ret
        exact ⟨true, rfl, fun _ => rfl, rfl⟩
      · go_enter Try.func11, Try.ntmps11
        go_wp2
        go_ret
        exact ⟨false, rfl, fun h => by omega, rfl⟩
    · go_enter Try.func11, Try.ntmps11
      go_wp2
      go_ret
      exact ⟨false, rfl, fun h => by omega, rfl⟩
  · go_enter Try.func11, Try.ntmps11
    go_wp2
    go_ret
    exact ⟨false, rfl, fun h => by omega, rfl⟩

theorem hob_yes (a1 a2 : Option Addr) (b1 o1 b2 o2 n c1 c2 i : Nat) (root : Bool) (d : Nat → Due) (w : World) (h1 : 0 < n → a1 = some ⟨b1, o1, none⟩) (h2 : 0 < n → a2 = some ⟨b2, o2, none⟩) (hn : n ≤ 4096) (hi : i < n) (H : Rd2 w b1 o1 b2 o2 n d) (hh : Hob d n i root) :
    Calls Try.prog 12 #[.slice a1 n c1, .slice a2 n c2, .int .i64 i, .bool root] w fun e w' => e = .returned (.bool true) ∧ Below w.heap.size w w' :=
  (hob_any a1 a2 b1 o1 b2 o2 n c1 c2 i root d w h1 h2 hn hi H).mono fun e w' ⟨s, e1, e2, e3⟩ => ⟨by rw [e1, e2.2 hh], e3⟩
theorem hob_no (a1 a2 : Option Addr) (b1 o1 b2 o2 n c1 c2 i : Nat) (root : Bool) (d : Nat → Due) (w : World) (h1 : 0 < n → a1 = some ⟨b1, o1, none⟩) (h2 : 0 < n → a2 = some ⟨b2, o2, none⟩) (hn : n ≤ 4096) (hi : i < n) (H : Rd2 w b1 o1 b2 o2 n d) (hh : ¬ Hob d n i root) :
    Calls Try.prog 12 #[.slice a1 n c1, .slice a2 n c2, .int .i64 i, .bool root] w fun e w' => e = .returned (.bool false) ∧ Below w.heap.size w w' :=
  (hob_any a1 a2 b1 o1 b2 o2 n c1 c2 i root d w h1 h2 hn hi H).mono fun e w' ⟨s, e1, e2, e3⟩ => ⟨by
    cases s with
    | false => rw [e1]
    | true => exact absurd (e2.1 rfl) hh, e3⟩

theorem Own.row' {w : World} {base m : Nat} {v : Value} {e : TypeId} {k : IntKind} {l : List Int} {z : Nat → Int} (h : Own w base ⟨v, e, k, l⟩) (hm : l.length = m) (hz : ∀ t, t < m → l.getD t 0 = z t) :
    ∃ (a : Option Addr) (c g : Nat), v = .slice a m c ∧ (0 < m → a = some ⟨g, 0, none⟩ ∧ v.ownBlock = some g ∧ base ≤ g) ∧ Rw w k g m z := by
  subst hm
  obtain ⟨a, c, g, h1, h2, h3⟩ := h.row
  exact ⟨a, c, g, h1, h2, h3.congr hz⟩
theorem fst_of (P : List Due) {t : Nat} (h : t < P.length) : (P.map (·.1)).getD t 0 = (fnOf P t).1 := by simp [fnOf, h]
theorem snd_of (P : List Due) {t : Nat} (h : t < P.length) : (P.map (·.2)).getD t 0 = (fnOf P t).2 := by simp [fnOf, h]
theorem map_push (P : List Due) (x : Due) : ((P ++ [x]).map (·.1) = P.map (·.1) ++ [x.1]) ∧ ((P ++ [x]).map (·.2) = P.map (·.2) ++ [x.2]) := by simp

theorem pick_pos (d : Nat → Due) {i : Nat} : ∀ {n : Nat}, i < n → 0 < (pick d i n).length
  | 0, h => by omega
  | n + 1, h => by
    by_cases e : i = n
    · subst e; rw [pick_yes (sub_self i), List.length_append]; simp
    · have := pick_pos d (i := i) (n := n) (by omega)
      cases hs : sub i n with
      | true => rw [pick_yes hs, List.length_append]; omega
      | false => rw [pick_no hs]; exact this
theorem four_yes {w : World} {base : Nat} {v1 v2 v3 v4 : Value} {d e : Nat → Due} {i k : Nat} (hs : sub i k = true)
    (h : Four w base ⟨v1, 2, .i64, (pick d i k).map (·.1) ++ [(d k).1]⟩ ⟨v3, 21, .i32, (pick d i k).map (·.2) ++ [(d k).2]⟩ ⟨v2, 2, .i64, (pick e i k).map (·.1) ++ [(e k).1]⟩ ⟨v4, 21, .i32, (pick e i k).map (·.2) ++ [(e k).2]⟩) :
    Four w base ⟨v1, 2, .i64, (pick d i (k + 1)).map (·.1)⟩ ⟨v3, 21, .i32, (pick d i (k + 1)).map (·.2)⟩ ⟨v2, 2, .i64, (pick e i (k + 1)).map (·.1)⟩ ⟨v4, 21, .i32, (pick e i (k + 1)).map (·.2)⟩ := by
  rw [pick_yes hs, pick_yes hs, (map_push _ _).1, (map_push _ _).2, (map_push _ _).1, (map_push _ _).2]
  exact h
theorem own_at {w : World} {base : Nat} {v : Value} {e : TypeId} {k : IntKind} {l : List Int} (h : Own w base ⟨v, e, k, l⟩) : w.ownsRow base e 1 v l.length (l.map (Value.int k)) := h
theorem one_ok (k : IntKind) (x : Int) : ∀ u ∈ [Value.int k x], u.oneCell' = true := fun u hu => by simp at hu; subst hu; rfl
theorem new_cell (w : World) (v : Value) (t : TypeId) : ∀ j u, [v][j]? = some u → (w.alloc (.cells #[v] t)).cell? ((⟨w.heap.size, 0, none⟩ : Addr).add j) = some u := by
  intro j u hj
  match j, hj with
  | 0, hj => simp at hj; subst hj; simp [Addr.add]

set_option maxRecDepth 100000 in
set_option maxHeartbeats 4000000 in
theorem restores_main (a1 a2 : Option Addr) (b1 o1 b2 o2 n c1 c2 i : Nat) (d : Nat → Due) (w : World) (hn : n ≤ 4096) (hi : i < n) (h1 : 0 < n → a1 = some ⟨b1, o1, none⟩) (h2 : 0 < n → a2 = some ⟨b2, o2, none⟩)
    (n1 : a1 = none → n = 0 ∧ c1 = 0) (n2 : a2 = none → n = 0 ∧ c2 = 0) (r : Rd2 w b1 o1 b2 o2 n d)
    (hb : ∀ w, Calls Try.prog 11 #[.slice a1 n c1, .slice a2 n c2, .int .i64 i] w fun e w' => e = .returned (.bool true) ∧ w' = w) (hh : Hob d n i false) :
    Calls Try.prog 4 #[.slice a1 n c1, .slice a2 n c2, .int .i64 i] w fun e w' => e = .returned (.bool true) ∧ Below w.heap.size w w' := by
  have hc0 := fun w (r : Rd2 w b1 o1 b2 o2 n d) => hob_yes a1 a2 b1 o1 b2 o2 n c1 c2 i false d w h1 h2 hn hi r hh
  have hc1 := fun w (r1 : Rd w .i64 b1 o1 n (fun i => (d i).1)) => clone64_any a1 b1 o1 n c1 (fun i => (d i).1) w h1 n1 hn r1
  have hc2 := fun w (r2 : Rd w .i32 b2 o2 n (fun i => (d i).2)) => clone32_any a2 b2 o2 n c2 (fun i => (d i).2) w h2 n2 hn r2
  have R0 : Hid (Rd2 w b1 o1 b2 o2 n d) := r
  have hd : decide (4096 < (n : Int)) = false := decide_eq_false (by omega)
  have hd2 : decide ((i : Int) < 0) = false := decide_eq_false (by omega)
  have HH : Hid (Hob d n i false) := hh
  clear r n1 n2 h1 h2 hh
  go_enter Try.func4, Try.ntmps4
  go_wp2_with (go_at_call 11; refine (hb _).mono ?_; rintro e w' ⟨rfl, rfl⟩)
  refine (hc0 _ R0.out).mono ?_
  rintro e w0 ⟨rfl, hb0⟩
  have R1 : Hid (Rd2 w0 b1 o1 b2 o2 n d) := R0.out.later hb0
  have BB0 : Hid (Below w'.heap.size w' w0) := hb0
  have hz0 : w'.heap.size ≤ w0.heap.size := hb0.size
  clear hb0 hc0 hb R0
  go_wp2_with fail
  refine (hc1 _ R1.out.1).mono ?_
  rintro e w1 ⟨x1, y1, rfl, p1, q1, s1, t1, m1, hb1⟩
  obtain rfl := p1 (by omega)
  have M1 : Hid (Rw w1 .i64 w0.heap.size n (fun i => (d i).1)) := m1
  have R2' : Hid (Rd w1 .i32 b2 o2 n (fun i => (d i).2)) := R1.out.2.later hb1
  have u1 : w0.heap.size < w1.heap.size := m1.1 (by omega)
  have BB1 : Hid (Below w'.heap.size w' w1) := below_then BB0.out hb1
  clear m1 hb1 hc1 p1 q1 BB0 R1
  go_wp2_with fail
  refine (hc2 _ R2'.out).mono ?_
  rintro e w2 ⟨x2, y2, rfl, p2, q2, s2, t2, m2, hb2⟩
  obtain rfl := p2 (by omega)
  have M2 : Hid (Rw w2 .i32 w1.heap.size n (fun i => (d i).2)) := m2
  have M1' : Hid (Rw w2 .i64 w0.heap.size n (fun i => (d i).1)) := M1.out.later hb2
  have u2 : w1.heap.size < w2.heap.size := m2.1 (by omega)
  have BB2 : Hid (Below w'.heap.size w' w2) := below_then BB1.out hb2
  clear m2 hb2 hc2 M1 BB1 R2' p2 q2
  go_wp2_with fail
  refine (clone64_any (some ⟨w0.heap.size, 0, none⟩) w0.heap.size 0 n y1 (fun i => (d i).1) _ (fun _ => rfl) (fun h => (by cases h)) hn M1'.out.rd).mono ?_
  rintro e w3 ⟨x3, y3, rfl, p3, q3, s3, t3, m3, hb3⟩
  obtain rfl := p3 (by omega)
  have M3 : Hid (Rw w3 .i64 w2.heap.size n (fun i => (d i).1)) := m3
  have M2' : Hid (Rw w3 .i32 w1.heap.size n (fun i => (d i).2)) := M2.out.later hb3
  have M1'' : Hid (Rw w3 .i64 w0.heap.size n (fun i => (d i).1)) := M1'.out.later hb3
  have u3 : w2.heap.size < w3.heap.size := m3.1 (by omega)
  have BB3 : Hid (Below w'.heap.size w' w3) := below_then BB2.out hb3
  clear m3 hb3 M1' M2 BB2 p3 q3
  go_wp2_with fail
  refine (clone32_any (some ⟨w1.heap.size, 0, none⟩) w1.heap.size 0 n y2 (fun i => (d i).2) _ (fun _ => rfl) (fun h => (by cases h)) hn M2'.out.rd).mono ?_
  rintro e w4 ⟨x4, y4, rfl, p4, q4, s4, t4, m4, hb4⟩
  obtain rfl := p4 (by omega)
  have u4 : w3.heap.size < w4.heap.size := m4.1 (by omega)
  have T4 : Hid (Two w4 w0.heap.size w1.heap.size n d) := ⟨fun h => by omega, M1''.out.later hb4, M2'.out.later hb4⟩
  have V4 : Hid (Two w4 w2.heap.size w3.heap.size n d) := ⟨fun h => by omega, M3.out.later hb4, m4⟩
  have BB4 : Hid (Below w'.heap.size w' w4) := below_then BB3.out hb4
  clear m4 hb4 M1'' M2' M3 BB3 p4 q4
  generalize w0.heap.size = g1 at *
  generalize w1.heap.size = g2 at *
  generalize w2.heap.size = g3 at *
  generalize w3.heap.size = g4 at *
  go_wp2_with fail
  refine (hob_any (some ⟨g3, 0, none⟩) (some ⟨g4, 0, none⟩) g3 0 g4 0 n y3 y4 i true d _ (fun _ => rfl) (fun _ => rfl) hn hi V4.out.rd).mono ?_
  rintro e w5 ⟨wh, rfl, hwh, hb5⟩
  have T5 : Hid (Two w5 g1 g2 n d) := T4.out.later hb5
  have V5 : Hid (Two w5 g3 g4 n d) := V4.out.later hb5
  have BB5 : Hid (Below w'.heap.size w' w5) := below_then BB4.out hb5
  have u5 : g4 < w5.heap.size := Nat.lt_of_lt_of_le u4 hb5.size
  have SAME : Hid (wh = true → down n n i d = d) := fun h => hob_same hi (hwh.1 h)
  have OUT : Hid (∀ j, sub i j = false → down n n i d j = d j) := fun j hj => hob_outside hj
  have HOBE : Hid (Hob (down n n i d) n i true) := hob_of_heap (hob_heap HH.out)
  have CNT : Hid (∀ x, (pick (down n n i d) i n).count x = (pick d i n).count x) := fun x => pick_same hi
  have hdown := fun W (HT : Two W g1 g2 n d) => heapDown_any g1 g2 n n y1 y2 i d W hn (Nat.le_refl _) hi HT
  generalize down n n i d = ee at SAME OUT HOBE CNT hdown
  clear hb5 hwh T4 V4 BB4 HH u4
  go_wp2_with fail
  refine (hdown _ T5.out).mono ?_
  rintro e w6 ⟨rfl, T6, K6⟩
  have U6 : Hid (Two w6 g1 g2 n ee) := T6
  have V6 : Hid (Two w6 g3 g4 n d) := V5.out.keep K6 (by omega) (by omega)
  have BB6 : Hid (Below w'.heap.size w' w6) := BB5.out.trans (K6.below (fun x hx => by omega) BB5.out.size)
  have u6 : g4 < w6.heap.size := Nat.lt_of_lt_of_le u5 K6.size
  clear T6 K6 T5 V5 BB5 hdown
  go_wp2_with fail
  obtain ⟨jj, jji, jjz, jjs, jjb⟩ := info_parts info2
  obtain ⟨kk, kki, kkz, kks, kkb⟩ := info_parts info21
  go_loopg [11, 12, 13, 14, 15] n (fun kx v1 v2 v3 v4 s wr => ∃ k : Nat, k ≤ n ∧ n - k ≤ kx ∧ s = .int .i64 k ∧ Hid (Four wr w6.heap.size ⟨v1, 2, .i64, (pick d i k).map (·.1)⟩ ⟨v3, 21, .i32, (pick d i k).map (·.2)⟩ ⟨v2, 2, .i64, (pick ee i k).map (·.1)⟩ ⟨v4, 21, .i32, (pick ee i k).map (·.2)⟩) ∧ Hid (Below w6.heap.size w6 wr))
  case atStart => exact ⟨0, Nat.zero_le _, Nat.le_refl _, rfl, Four.start _ _ _ _ _ _ _ _ _ _, Below.refl _ _⟩
  case round =>
    obtain ⟨k, hk, hkx, rfl, F1, B1⟩ := hrel
    by_cases hlt : k < n
    · have hsub := fun W => inSub_any i k W (by omega) (by omega)
      have UU : Hid (∀ W, Below w6.heap.size w6 W → Two W g1 g2 n ee) := fun W h => U6.out.later h
      have VV : Hid (∀ W, Below w6.heap.size w6 W → Two W g3 g4 n d) := fun W h => V6.out.later h
      have i0 : (0 : Int) ≤ (k : Int) := by omega
      have i1 : (k : Int) < n := by omega
      have k0 := (UU.out _ B1.out).2.1.2.1 k hlt
      have k1 := (UU.out _ B1.out).2.2.2.1 k hlt
      have k2 := (VV.out _ B1.out).2.1.2.1 k hlt
      have k3 := (VV.out _ B1.out).2.2.2.1 k hlt
      cases hs : sub i k with
      | false =>
        rw [hs] at hsub
        have he := OUT.out k hs
        have e1 : ((ee k).1 == (d k).1) = true := by rw [he]; simp
        have e2 : ((ee k).2 == (d k).2) = true := by rw [he]; simp
        have F2 : Hid (Four wr w6.heap.size ⟨u11, 2, .i64, (pick d i (k + 1)).map (·.1)⟩ ⟨u13, 21, .i32, (pick d i (k + 1)).map (·.2)⟩ ⟨u12, 2, .i64, (pick ee i (k + 1)).map (·.1)⟩ ⟨u14, 21, .i32, (pick ee i (k + 1)).map (·.2)⟩) := by
          rw [pick_no hs, pick_no hs]; exact F1.out
        clear he hs
        cases wh
        all_goals
          go_wp2_with fail
          go_quiet (fail)
          go_wp2_with (go_at_call 13; refine (hsub _).mono ?_; rintro e wz ⟨rfl, hwz⟩; have hwz2 := hwz.symm; clear hwz; subst hwz2)
          go_roundg (n - (k + 1))
          case measure => omega
          case rel => exact ⟨k + 1, by omega, Nat.le_refl _, by go_num, F2.out.drewN _, below_drewN B1.out _⟩
      | true =>
        rw [hs] at hsub
        have HS : Hid (sub i k = true) := hs
        clear hs
        by_cases he : ee k = d k
        · have e1 : ((ee k).1 == (d k).1) = true := by rw [he]; simp
          have e2 : ((ee k).2 == (d k).2) = true := by rw [he]; simp
          clear he
          cases wh
          all_goals
            go_wp2_with fail
            go_quiet (fail)
            have F2 : Hid (Four (wr.drewN nq) w6.heap.size ⟨u11, 2, .i64, (pick d i k).map (·.1)⟩ ⟨u13, 21, .i32, (pick d i k).map (·.2)⟩ ⟨u12, 2, .i64, (pick ee i k).map (·.1)⟩ ⟨u14, 21, .i32, (pick ee i k).map (·.2)⟩) := F1.out.drewN nq
            have B2 : Hid (Below w6.heap.size w6 (wr.drewN nq)) := below_drewN B1.out nq
            clear k0 k1 k2 k3 F1 B1
            generalize wr.drewN nq = wq at F2 B2 ⊢
            have k4 := (VV.out _ B2.out).2.1.2.1 k hlt
            have hb2 : w6.heap.size ≤ wq.heap.size := B2.out.size
            have la : Hid (((pick d i k).map (·.1)).length ≤ 4096) := by have := pick_len_le d i k; show ((pick d i k).map (·.1)).length ≤ 4096; rw [List.length_map]; omega
            have lb : Hid (((pick d i k).map (·.2)).length ≤ 4096) := by have := pick_len_le d i k; show ((pick d i k).map (·.2)).length ≤ 4096; rw [List.length_map]; omega
            have lc : Hid (((pick ee i k).map (·.1)).length ≤ 4096) := by have := pick_len_le ee i k; show ((pick ee i k).map (·.1)).length ≤ 4096; rw [List.length_map]; omega
            have ld : Hid (((pick ee i k).map (·.2)).length ≤ 4096) := by have := pick_len_le ee i k; show ((pick ee i k).map (·.2)).length ≤ 4096; rw [List.length_map]; omega
            go_wp2_with (first
              | (go_at_call 13; refine (hsub _).mono ?_; rintro e wz ⟨rfl, hwz⟩; have hwz2 := hwz.symm; clear hwz; subst hwz2)
              | (at_builtin; (refine wpList_append_own_at _ rfl (.tmp 95) (.tmp 100) 22 rfl w6.heap.size 2 jj (.int .i64 0) 1 8 Try.underlying22 jji jjz jjs jjb rfl (by decide) _ _ _ rfl (World.ownsRow.alloc (own_at F2.out.o1) _) ⟨wq.heap.size, 0, none⟩ 1 1 [.int .i64 (d k).1] rfl rfl (new_cell _ _ _) (one_ok _ _) (by have := la.out; unfold maxLen; omega) (by have := la.out; omega) (by simp; omega) ?_; intro v1 z1 hown1 hgrow1 _ hat1); have F3 : Hid (Four z1 w6.heap.size ⟨u13, 21, .i32, (pick d i k).map (·.2)⟩ ⟨u12, 2, .i64, (pick ee i k).map (·.1)⟩ ⟨u14, 21, .i32, (pick ee i k).map (·.2)⟩ ⟨v1, 2, .i64, (pick d i k).map (·.1) ++ [(d k).1]⟩) := (F2.out.push _ hown1 hgrow1 hat1).rot; have B3 : Hid (Below w6.heap.size w6 z1) := F2.out.below _ hgrow1 B2.out hb2; have hb3 : w6.heap.size ≤ z1.heap.size := B3.out.size; have k5 := (VV.out _ B3.out).2.2.2.1 k hlt; clear hown1 hgrow1 hat1)
              | (at_builtin; (refine wpList_append_own_at _ rfl (.tmp 102) (.tmp 107) 23 rfl w6.heap.size 21 kk (.int .i32 0) 1 4 Try.underlying23 kki kkz kks kkb rfl (by decide) _ _ _ rfl (World.ownsRow.alloc (own_at F3.out.o1) _) ⟨z1.heap.size, 0, none⟩ 1 1 [.int .i32 (d k).2] rfl rfl (new_cell _ _ _) (one_ok _ _) (by have := lb.out; unfold maxLen; omega) (by have := lb.out; omega) (by simp; omega) ?_; intro v2 z2 hown2 hgrow2 _ hat2); have F4 : Hid (Four z2 w6.heap.size ⟨u12, 2, .i64, (pick ee i k).map (·.1)⟩ ⟨u14, 21, .i32, (pick ee i k).map (·.2)⟩ ⟨v1, 2, .i64, (pick d i k).map (·.1) ++ [(d k).1]⟩ ⟨v2, 21, .i32, (pick d i k).map (·.2) ++ [(d k).2]⟩) := (F3.out.push _ hown2 hgrow2 hat2).rot; have B4 : Hid (Below w6.heap.size w6 z2) := F3.out.below _ hgrow2 B3.out hb3; have hb4 : w6.heap.size ≤ z2.heap.size := B4.out.size; have k6 := (UU.out _ B4.out).2.1.2.1 k hlt; clear hown2 hgrow2 hat2)
              | (at_builtin; (refine wpList_append_own_at _ rfl (.tmp 109) (.tmp 114) 22 rfl w6.heap.size 2 jj (.int .i64 0) 1 8 Try.underlying22 jji jjz jjs jjb rfl (by decide) _ _ _ rfl (World.ownsRow.alloc (own_at F4.out.o1) _) ⟨z2.heap.size, 0, none⟩ 1 1 [.int .i64 (ee k).1] rfl rfl (new_cell _ _ _) (one_ok _ _) (by have := lc.out; unfold maxLen; omega) (by have := lc.out; omega) (by simp; omega) ?_; intro v3 z3 hown3 hgrow3 _ hat3); have F5 : Hid (Four z3 w6.heap.size ⟨u14, 21, .i32, (pick ee i k).map (·.2)⟩ ⟨v1, 2, .i64, (pick d i k).map (·.1) ++ [(d k).1]⟩ ⟨v2, 21, .i32, (pick d i k).map (·.2) ++ [(d k).2]⟩ ⟨v3, 2, .i64, (pick ee i k).map (·.1) ++ [(ee k).1]⟩) := (F4.out.push _ hown3 hgrow3 hat3).rot; have B5 : Hid (Below w6.heap.size w6 z3) := F4.out.below _ hgrow3 B4.out hb4; have hb5 : w6.heap.size ≤ z3.heap.size := B5.out.size; have k7 := (UU.out _ B5.out).2.2.2.1 k hlt; clear hown3 hgrow3 hat3)
              | (at_builtin; (refine wpList_append_own_at _ rfl (.tmp 116) (.tmp 121) 23 rfl w6.heap.size 21 kk (.int .i32 0) 1 4 Try.underlying23 kki kkz kks kkb rfl (by decide) _ _ _ rfl (World.ownsRow.alloc (own_at F5.out.o1) _) ⟨z3.heap.size, 0, none⟩ 1 1 [.int .i32 (ee k).2] rfl rfl (new_cell _ _ _) (one_ok _ _) (by have := ld.out; unfold maxLen; omega) (by have := ld.out; omega) (by simp; omega) ?_; intro v4 z4 hown4 hgrow4 _ hat4); have F6 : Hid (Four z4 w6.heap.size ⟨v1, 2, .i64, (pick d i k).map (·.1) ++ [(d k).1]⟩ ⟨v2, 21, .i32, (pick d i k).map (·.2) ++ [(d k).2]⟩ ⟨v3, 2, .i64, (pick ee i k).map (·.1) ++ [(ee k).1]⟩ ⟨v4, 21, .i32, (pick ee i k).map (·.2) ++ [(ee k).2]⟩) := (F5.out.push _ hown4 hgrow4 hat4).rot; have B6 : Hid (Below w6.heap.size w6 z4) := F5.out.below _ hgrow4 B5.out hb5; have hb6 : w6.heap.size ≤ z4.heap.size := B6.out.size; clear hown4 hgrow4 hat4))
            go_roundg (n - (k + 1))
            case measure => omega
            case rel => exact ⟨k + 1, by omega, Nat.le_refl _, by go_num, four_yes HS.out F6.out, B6.out⟩
        · have hw : wh = false := by
            cases wh with
            | false => rfl
            | true => exact absurd (congrFun (SAME.out rfl) k) he
          subst hw
          by_cases h1 : (ee k).1 = (d k).1
          · have e1 : ((ee k).1 == (d k).1) = true := by rw [h1]; simp
            have e2 : ((ee k).2 == (d k).2) = false := by
              refine beq_eq_false_iff_ne.2 (fun h2 => he (Prod.ext h1 h2))
            clear he h1
            go_wp2_with fail
            go_quiet (fail)
            have F2 : Hid (Four (wr.drewN nq) w6.heap.size ⟨u11, 2, .i64, (pick d i k).map (·.1)⟩ ⟨u13, 21, .i32, (pick d i k).map (·.2)⟩ ⟨u12, 2, .i64, (pick ee i k).map (·.1)⟩ ⟨u14, 21, .i32, (pick ee i k).map (·.2)⟩) := F1.out.drewN nq
            have B2 : Hid (Below w6.heap.size w6 (wr.drewN nq)) := below_drewN B1.out nq
            clear k0 k1 k2 k3 F1 B1
            generalize wr.drewN nq = wq at F2 B2 ⊢
            have k4 := (VV.out _ B2.out).2.1.2.1 k hlt
            have hb2 : w6.heap.size ≤ wq.heap.size := B2.out.size
            have la : Hid (((pick d i k).map (·.1)).length ≤ 4096) := by have := pick_len_le d i k; show ((pick d i k).map (·.1)).length ≤ 4096; rw [List.length_map]; omega
            have lb : Hid (((pick d i k).map (·.2)).length ≤ 4096) := by have := pick_len_le d i k; show ((pick d i k).map (·.2)).length ≤ 4096; rw [List.length_map]; omega
            have lc : Hid (((pick ee i k).map (·.1)).length ≤ 4096) := by have := pick_len_le ee i k; show ((pick ee i k).map (·.1)).length ≤ 4096; rw [List.length_map]; omega
            have ld : Hid (((pick ee i k).map (·.2)).length ≤ 4096) := by have := pick_len_le ee i k; show ((pick ee i k).map (·.2)).length ≤ 4096; rw [List.length_map]; omega
            go_wp2_with (first
              | (go_at_call 13; refine (hsub _).mono ?_; rintro e wz ⟨rfl, hwz⟩; have hwz2 := hwz.symm; clear hwz; subst hwz2)
              | (at_builtin; (refine wpList_append_own_at _ rfl (.tmp 95) (.tmp 100) 22 rfl w6.heap.size 2 jj (.int .i64 0) 1 8 Try.underlying22 jji jjz jjs jjb rfl (by decide) _ _ _ rfl (World.ownsRow.alloc (own_at F2.out.o1) _) ⟨wq.heap.size, 0, none⟩ 1 1 [.int .i64 (d k).1] rfl rfl (new_cell _ _ _) (one_ok _ _) (by have := la.out; unfold maxLen; omega) (by have := la.out; omega) (by simp; omega) ?_; intro v1 z1 hown1 hgrow1 _ hat1); have F3 : Hid (Four z1 w6.heap.size ⟨u13, 21, .i32, (pick d i k).map (·.2)⟩ ⟨u12, 2, .i64, (pick ee i k).map (·.1)⟩ ⟨u14, 21, .i32, (pick ee i k).map (·.2)⟩ ⟨v1, 2, .i64, (pick d i k).map (·.1) ++ [(d k).1]⟩) := (F2.out.push _ hown1 hgrow1 hat1).rot; have B3 : Hid (Below w6.heap.size w6 z1) := F2.out.below _ hgrow1 B2.out hb2; have hb3 : w6.heap.size ≤ z1.heap.size := B3.out.size; have k5 := (VV.out _ B3.out).2.2.2.1 k hlt; clear hown1 hgrow1 hat1)
              | (at_builtin; (refine wpList_append_own_at _ rfl (.tmp 102) (.tmp 107) 23 rfl w6.heap.size 21 kk (.int .i32 0) 1 4 Try.underlying23 kki kkz kks kkb rfl (by decide) _ _ _ rfl (World.ownsRow.alloc (own_at F3.out.o1) _) ⟨z1.heap.size, 0, none⟩ 1 1 [.int .i32 (d k).2] rfl rfl (new_cell _ _ _) (one_ok _ _) (by have := lb.out; unfold maxLen; omega) (by have := lb.out; omega) (by simp; omega) ?_; intro v2 z2 hown2 hgrow2 _ hat2); have F4 : Hid (Four z2 w6.heap.size ⟨u12, 2, .i64, (pick ee i k).map (·.1)⟩ ⟨u14, 21, .i32, (pick ee i k).map (·.2)⟩ ⟨v1, 2, .i64, (pick d i k).map (·.1) ++ [(d k).1]⟩ ⟨v2, 21, .i32, (pick d i k).map (·.2) ++ [(d k).2]⟩) := (F3.out.push _ hown2 hgrow2 hat2).rot; have B4 : Hid (Below w6.heap.size w6 z2) := F3.out.below _ hgrow2 B3.out hb3; have hb4 : w6.heap.size ≤ z2.heap.size := B4.out.size; have k6 := (UU.out _ B4.out).2.1.2.1 k hlt; clear hown2 hgrow2 hat2)
              | (at_builtin; (refine wpList_append_own_at _ rfl (.tmp 109) (.tmp 114) 22 rfl w6.heap.size 2 jj (.int .i64 0) 1 8 Try.underlying22 jji jjz jjs jjb rfl (by decide) _ _ _ rfl (World.ownsRow.alloc (own_at F4.out.o1) _) ⟨z2.heap.size, 0, none⟩ 1 1 [.int .i64 (ee k).1] rfl rfl (new_cell _ _ _) (one_ok _ _) (by have := lc.out; unfold maxLen; omega) (by have := lc.out; omega) (by simp; omega) ?_; intro v3 z3 hown3 hgrow3 _ hat3); have F5 : Hid (Four z3 w6.heap.size ⟨u14, 21, .i32, (pick ee i k).map (·.2)⟩ ⟨v1, 2, .i64, (pick d i k).map (·.1) ++ [(d k).1]⟩ ⟨v2, 21, .i32, (pick d i k).map (·.2) ++ [(d k).2]⟩ ⟨v3, 2, .i64, (pick ee i k).map (·.1) ++ [(ee k).1]⟩) := (F4.out.push _ hown3 hgrow3 hat3).rot; have B5 : Hid (Below w6.heap.size w6 z3) := F4.out.below _ hgrow3 B4.out hb4; have hb5 : w6.heap.size ≤ z3.heap.size := B5.out.size; have k7 := (UU.out _ B5.out).2.2.2.1 k hlt; clear hown3 hgrow3 hat3)
              | (at_builtin; (refine wpList_append_own_at _ rfl (.tmp 116) (.tmp 121) 23 rfl w6.heap.size 21 kk (.int .i32 0) 1 4 Try.underlying23 kki kkz kks kkb rfl (by decide) _ _ _ rfl (World.ownsRow.alloc (own_at F5.out.o1) _) ⟨z3.heap.size, 0, none⟩ 1 1 [.int .i32 (ee k).2] rfl rfl (new_cell _ _ _) (one_ok _ _) (by have := ld.out; unfold maxLen; omega) (by have := ld.out; omega) (by simp; omega) ?_; intro v4 z4 hown4 hgrow4 _ hat4); have F6 : Hid (Four z4 w6.heap.size ⟨v1, 2, .i64, (pick d i k).map (·.1) ++ [(d k).1]⟩ ⟨v2, 21, .i32, (pick d i k).map (·.2) ++ [(d k).2]⟩ ⟨v3, 2, .i64, (pick ee i k).map (·.1) ++ [(ee k).1]⟩ ⟨v4, 21, .i32, (pick ee i k).map (·.2) ++ [(ee k).2]⟩) := (F5.out.push _ hown4 hgrow4 hat4).rot; have B6 : Hid (Below w6.heap.size w6 z4) := F5.out.below _ hgrow4 B5.out hb5; have hb6 : w6.heap.size ≤ z4.heap.size := B6.out.size; clear hown4 hgrow4 hat4))
            all_goals
              go_roundg (n - (k + 1))
              case measure => omega
              case rel => exact ⟨k + 1, by omega, Nat.le_refl _, by go_num, four_yes HS.out F6.out, B6.out⟩
          · have e1 : ((ee k).1 == (d k).1) = false := beq_eq_false_iff_ne.2 h1
            clear he h1
            go_wp2_with fail
            go_quiet (fail)
            have F2 : Hid (Four (wr.drewN nq) w6.heap.size ⟨u11, 2, .i64, (pick d i k).map (·.1)⟩ ⟨u13, 21, .i32, (pick d i k).map (·.2)⟩ ⟨u12, 2, .i64, (pick ee i k).map (·.1)⟩ ⟨u14, 21, .i32, (pick ee i k).map (·.2)⟩) := F1.out.drewN nq
            have B2 : Hid (Below w6.heap.size w6 (wr.drewN nq)) := below_drewN B1.out nq
            clear k0 k1 k2 k3 F1 B1
            generalize wr.drewN nq = wq at F2 B2 ⊢
            have k4 := (VV.out _ B2.out).2.1.2.1 k hlt
            have hb2 : w6.heap.size ≤ wq.heap.size := B2.out.size
            have la : Hid (((pick d i k).map (·.1)).length ≤ 4096) := by have := pick_len_le d i k; show ((pick d i k).map (·.1)).length ≤ 4096; rw [List.length_map]; omega
            have lb : Hid (((pick d i k).map (·.2)).length ≤ 4096) := by have := pick_len_le d i k; show ((pick d i k).map (·.2)).length ≤ 4096; rw [List.length_map]; omega
            have lc : Hid (((pick ee i k).map (·.1)).length ≤ 4096) := by have := pick_len_le ee i k; show ((pick ee i k).map (·.1)).length ≤ 4096; rw [List.length_map]; omega
            have ld : Hid (((pick ee i k).map (·.2)).length ≤ 4096) := by have := pick_len_le ee i k; show ((pick ee i k).map (·.2)).length ≤ 4096; rw [List.length_map]; omega
            go_wp2_with (first
              | (go_at_call 13; refine (hsub _).mono ?_; rintro e wz ⟨rfl, hwz⟩; have hwz2 := hwz.symm; clear hwz; subst hwz2)
              | (at_builtin; (refine wpList_append_own_at _ rfl (.tmp 95) (.tmp 100) 22 rfl w6.heap.size 2 jj (.int .i64 0) 1 8 Try.underlying22 jji jjz jjs jjb rfl (by decide) _ _ _ rfl (World.ownsRow.alloc (own_at F2.out.o1) _) ⟨wq.heap.size, 0, none⟩ 1 1 [.int .i64 (d k).1] rfl rfl (new_cell _ _ _) (one_ok _ _) (by have := la.out; unfold maxLen; omega) (by have := la.out; omega) (by simp; omega) ?_; intro v1 z1 hown1 hgrow1 _ hat1); have F3 : Hid (Four z1 w6.heap.size ⟨u13, 21, .i32, (pick d i k).map (·.2)⟩ ⟨u12, 2, .i64, (pick ee i k).map (·.1)⟩ ⟨u14, 21, .i32, (pick ee i k).map (·.2)⟩ ⟨v1, 2, .i64, (pick d i k).map (·.1) ++ [(d k).1]⟩) := (F2.out.push _ hown1 hgrow1 hat1).rot; have B3 : Hid (Below w6.heap.size w6 z1) := F2.out.below _ hgrow1 B2.out hb2; have hb3 : w6.heap.size ≤ z1.heap.size := B3.out.size; have k5 := (VV.out _ B3.out).2.2.2.1 k hlt; clear hown1 hgrow1 hat1)
              | (at_builtin; (refine wpList_append_own_at _ rfl (.tmp 102) (.tmp 107) 23 rfl w6.heap.size 21 kk (.int .i32 0) 1 4 Try.underlying23 kki kkz kks kkb rfl (by decide) _ _ _ rfl (World.ownsRow.alloc (own_at F3.out.o1) _) ⟨z1.heap.size, 0, none⟩ 1 1 [.int .i32 (d k).2] rfl rfl (new_cell _ _ _) (one_ok _ _) (by have := lb.out; unfold maxLen; omega) (by have := lb.out; omega) (by simp; omega) ?_; intro v2 z2 hown2 hgrow2 _ hat2); have F4 : Hid (Four z2 w6.heap.size ⟨u12, 2, .i64, (pick ee i k).map (·.1)⟩ ⟨u14, 21, .i32, (pick ee i k).map (·.2)⟩ ⟨v1, 2, .i64, (pick d i k).map (·.1) ++ [(d k).1]⟩ ⟨v2, 21, .i32, (pick d i k).map (·.2) ++ [(d k).2]⟩) := (F3.out.push _ hown2 hgrow2 hat2).rot; have B4 : Hid (Below w6.heap.size w6 z2) := F3.out.below _ hgrow2 B3.out hb3; have hb4 : w6.heap.size ≤ z2.heap.size := B4.out.size; have k6 := (UU.out _ B4.out).2.1.2.1 k hlt; clear hown2 hgrow2 hat2)
              | (at_builtin; (refine wpList_append_own_at _ rfl (.tmp 109) (.tmp 114) 22 rfl w6.heap.size 2 jj (.int .i64 0) 1 8 Try.underlying22 jji jjz jjs jjb rfl (by decide) _ _ _ rfl (World.ownsRow.alloc (own_at F4.out.o1) _) ⟨z2.heap.size, 0, none⟩ 1 1 [.int .i64 (ee k).1] rfl rfl (new_cell _ _ _) (one_ok _ _) (by have := lc.out; unfold maxLen; omega) (by have := lc.out; omega) (by simp; omega) ?_; intro v3 z3 hown3 hgrow3 _ hat3); have F5 : Hid (Four z3 w6.heap.size ⟨u14, 21, .i32, (pick ee i k).map (·.2)⟩ ⟨v1, 2, .i64, (pick d i k).map (·.1) ++ [(d k).1]⟩ ⟨v2, 21, .i32, (pick d i k).map (·.2) ++ [(d k).2]⟩ ⟨v3, 2, .i64, (pick ee i k).map (·.1) ++ [(ee k).1]⟩) := (F4.out.push _ hown3 hgrow3 hat3).rot; have B5 : Hid (Below w6.heap.size w6 z3) := F4.out.below _ hgrow3 B4.out hb4; have hb5 : w6.heap.size ≤ z3.heap.size := B5.out.size; have k7 := (UU.out _ B5.out).2.2.2.1 k hlt; clear hown3 hgrow3 hat3)
              | (at_builtin; (refine wpList_append_own_at _ rfl (.tmp 116) (.tmp 121) 23 rfl w6.heap.size 21 kk (.int .i32 0) 1 4 Try.underlying23 kki kkz kks kkb rfl (by decide) _ _ _ rfl (World.ownsRow.alloc (own_at F5.out.o1) _) ⟨z3.heap.size, 0, none⟩ 1 1 [.int .i32 (ee k).2] rfl rfl (new_cell _ _ _) (one_ok _ _) (by have := ld.out; unfold maxLen; omega) (by have := ld.out; omega) (by simp; omega) ?_; intro v4 z4 hown4 hgrow4 _ hat4); have F6 : Hid (Four z4 w6.heap.size ⟨v1, 2, .i64, (pick d i k).map (·.1) ++ [(d k).1]⟩ ⟨v2, 21, .i32, (pick d i k).map (·.2) ++ [(d k).2]⟩ ⟨v3, 2, .i64, (pick ee i k).map (·.1) ++ [(ee k).1]⟩ ⟨v4, 21, .i32, (pick ee i k).map (·.2) ++ [(ee k).2]⟩) := (F5.out.push _ hown4 hgrow4 hat4).rot; have B6 : Hid (Below w6.heap.size w6 z4) := F5.out.below _ hgrow4 B5.out hb5; have hb6 : w6.heap.size ≤ z4.heap.size := B6.out.size; clear hown4 hgrow4 hat4))
            all_goals
              go_roundg (n - (k + 1))
              case measure => omega
              case rel => exact ⟨k + 1, by omega, Nat.le_refl _, by go_num, four_yes HS.out F6.out, B6.out⟩
    · have F7 : Hid (Four wr w6.heap.size ⟨u11, 2, .i64, (pick d i n).map (·.1)⟩ ⟨u13, 21, .i32, (pick d i n).map (·.2)⟩ ⟨u12, 2, .i64, (pick ee i n).map (·.1)⟩ ⟨u14, 21, .i32, (pick ee i n).map (·.2)⟩) := by
        have e : k = n := by omega
        have := F1.out
        rw [e] at this
        exact this
      clear F1
      obtain ⟨m, hm⟩ : ∃ m, (pick d i n).length = m := ⟨_, rfl⟩
      have hm2 : (pick ee i n).length = m := (pick_len ee d i n).trans hm
      have hm4 : m ≤ 4096 := by have := pick_len_le d i n; omega
      have hm0 : 0 < m := by rw [← hm]; exact pick_pos d hi
      obtain ⟨A1, C1, G1, E1, P1, W1⟩ := Own.row' (z := fun t => (fnOf (pick d i n) t).1) F7.out.o1 (m := m) (by rw [List.length_map]; exact hm) (fun t ht => fst_of _ (by omega))
      obtain ⟨A2, C2, G2, E2, P2, W2⟩ := Own.row' (z := fun t => (fnOf (pick d i n) t).2) F7.out.o2 (m := m) (by rw [List.length_map]; exact hm) (fun t ht => snd_of _ (by omega))
      obtain ⟨A3, C3, G3, E3, P3, W3⟩ := Own.row' (z := fun t => (fnOf (pick ee i n) t).1) F7.out.o3 (m := m) (by rw [List.length_map]; exact hm2) (fun t ht => fst_of _ (by omega))
      obtain ⟨A4, C4, G4, E4, P4, W4⟩ := Own.row' (z := fun t => (fnOf (pick ee i n) t).2) F7.out.o4 (m := m) (by rw [List.length_map]; exact hm2) (fun t ht => snd_of _ (by omega))
      obtain ⟨P1a, P1b, P1c⟩ := P1 hm0
      obtain ⟨P2a, P2b, P2c⟩ := P2 hm0
      obtain ⟨P3a, P3b, P3c⟩ := P3 hm0
      obtain ⟨P4a, P4b, P4c⟩ := P4 hm0
      have n12 : G1 ≠ G2 := fun e => F7.out.s12 G1 P1b (by rw [e]; exact P2b)
      have n13 : G1 ≠ G3 := fun e => F7.out.s13 G1 P1b (by rw [e]; exact P3b)
      have n14 : G1 ≠ G4 := fun e => F7.out.s14 G1 P1b (by rw [e]; exact P4b)
      have n23 : G2 ≠ G3 := fun e => F7.out.s23 G2 P2b (by rw [e]; exact P3b)
      have n24 : G2 ≠ G4 := fun e => F7.out.s24 G2 P2b (by rw [e]; exact P4b)
      have n34 : G3 ≠ G4 := fun e => F7.out.s34 G3 P3b (by rw [e]; exact P4b)
      have TP : Hid (Two wr G1 G2 m (fnOf (pick d i n))) := ⟨fun _ => n12, W1, W2⟩
      have TQ : Hid (Two wr G3 G4 m (fnOf (pick ee i n))) := ⟨fun _ => n34, W3, W4⟩
      have CP : Hid (∀ y, cnt (fnOf (pick ee i n)) y m = cnt (fnOf (pick d i n)) y m) := fun y => by
        have q1 := cnt_fn (x := y) (pick d i n)
        have q2 := cnt_fn (x := y) (pick ee i n)
        rw [hm] at q1
        rw [hm2] at q2
        rw [q1, q2]; exact CNT.out y
      clear P1b P2b P3b P4b W1 W2 W3 W4 P1 P2 P3 P4 F7 hm hm2 CNT
      subst P1a
      subst P2a
      subst P3a
      subst P4a
      subst E1
      subst E2
      subst E3
      subst E4
      generalize fnOf (pick d i n) = fp at TP CP
      generalize fnOf (pick ee i n) = fq at TQ CP
      have UR : Hid (Two wr g1 g2 n ee) := U6.out.later B1.out
      have BR : Hid (Below w'.heap.size w' wr) := below_then BB6.out B1.out
      have hzz : w'.heap.size ≤ w6.heap.size := BB6.out.size
      clear U6 V6 B1 SAME OUT
      go_wp2_with fail
      refine (hob_yes (some ⟨g1, 0, none⟩) (some ⟨g2, 0, none⟩) g1 0 g2 0 n y1 y2 i true ee _ (fun _ => rfl) (fun _ => rfl) hn hi UR.out.rd HOBE.out).mono ?_
      rintro e w7 ⟨rfl, hb7⟩
      have TP7 : Hid (Two w7 G1 G2 m fp) := TP.out.later hb7
      have TQ7 : Hid (Two w7 G3 G4 m fq) := TQ.out.later hb7
      have B7 : Hid (Below w'.heap.size w' w7) := below_then BR.out hb7
      clear hb7 TP TQ UR BR
      go_wp2_with fail
      refine (sort_any (some ⟨G1, 0, none⟩) (some ⟨G2, 0, none⟩) G1 G2 m C1 C2 fp _ (fun _ => rfl) (fun _ => rfl) hm4 TP7.out).mono ?_
      rintro e w8 ⟨rfl, fp', T8, D8, N8, K8⟩
      have TP8 : Hid (Two w8 G1 G2 m fp') := T8
      have TQ8 : Hid (Two w8 G3 G4 m fq) := TQ7.out.keep K8 (by omega) (by omega)
      have B8 : Hid (Below w'.heap.size w' w8) := B7.out.trans (K8.below (fun x hx => by omega) B7.out.size)
      have D8' : Hid (Desc fp' m) := D8
      have N8' : Hid (∀ y, cnt fp' y m = cnt fp y m) := N8
      clear T8 D8 N8 K8 TP7 TQ7 B7
      go_wp2_with fail
      refine (sort_any (some ⟨G3, 0, none⟩) (some ⟨G4, 0, none⟩) G3 G4 m C3 C4 fq _ (fun _ => rfl) (fun _ => rfl) hm4 TQ8.out).mono ?_
      rintro e w9 ⟨rfl, fq', T9, D9, N9, K9⟩
      have EQ : ∀ t, t < m → fq' t = fp' t := fun t ht => (desc_unique D8'.out D9 (fun y => by rw [N8'.out y, N9 y, CP.out y]) t ht).symm
      have TQ9 : Hid (Two w9 G3 G4 m fp') := T9.congr EQ
      have TP9 : Hid (Two w9 G1 G2 m fp') := TP8.out.keep K9 (by omega) (by omega)
      have B9 : Hid (Below w'.heap.size w' w9) := B8.out.trans (K9.below (fun x hx => by omega) B8.out.size)
      clear T9 D9 N9 K9 EQ TP8 TQ8 B8 D8' N8' CP
      go_wp2_with fail
      go_loopw [17] (fun s wr => ∃ (t : Nat), t ≤ m ∧ s = .int .i64 t ∧ Hid (Below w9.heap.size w9 wr)) (fun s _ => m - (intOf s).toNat)
      case atStart => exact ⟨0, Nat.zero_le _, rfl, Below.refl _ _⟩
      case round =>
        obtain ⟨t, ht, rfl, B10⟩ := hrel
        by_cases htt : t < m
        · have U11 := TP9.out.later B10.out
          have V11 := TQ9.out.later B10.out
          have k0 := U11.2.1.2.1 t htt
          have k1 := U11.2.2.2.1 t htt
          have k2 := V11.2.1.2.1 t htt
          have k3 := V11.2.2.2.1 t htt
          have i0 : (0 : Int) ≤ (t : Int) := by omega
          have i1 : (t : Int) < m := by omega
          have e1 : ((fp' t).1 != (fp' t).1) = false := by simp
          have e2 : ((fp' t).2 != (fp' t).2) = false := by simp
          clear U11 V11
          go_wp2_with fail
          go_quiet (fail)
          go_wp2
          go_roundw
          case rel => exact ⟨t + 1, by omega, by go_num, below_drewN B10.out _⟩
          case measure => simp [intOf]; omega
        · go_wp2
          go_ret
          exact ⟨rfl, below_then B9.out B10.out⟩

end Go.Proofs.Qxb6617152a.W
