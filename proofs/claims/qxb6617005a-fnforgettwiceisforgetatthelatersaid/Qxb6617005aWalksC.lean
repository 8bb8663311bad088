import Derived.Test.Qxb6617005aWalksB
namespace Go.Proofs.Qxb6617005a.W
open Go.RowKit
open Go.Proofs.Qxb6617005a.Plain
set_option linter.unusedVariables false

theorem cmp_neg {x y : Int} (h : x < y) : cmpI x y < 0 := by unfold cmpI; rw [if_pos h]; omega
theorem cmp_pos {x y : Int} (h : ¬ x < y) : 0 ≤ cmpI x y := by unfold cmpI; rw [if_neg h]; split <;> omega
theorem cmp_small (x y : Int) : -1 ≤ cmpI x y ∧ cmpI x y ≤ 1 := by unfold cmpI; split <;> (try split) <;> omega

theorem ret_ib {a b : Int} {f : Bool} (h : a = b) : Ending.returned (.tuple #[.int .i64 a, .bool f]) = .returned (.tuple #[.int .i64 b, .bool f]) := by rw [h]
/-- slices.BinarySearchFunc at the closure of 'written' -/
theorem search_any (a : Option Addr) (g off n c : Nat) (A R : Nat → Int) (y : Int) (w : World) (ha : 0 < n → a = some ⟨g, off, none⟩) (hn : n ≤ 65536) (hv : Vals w g off n A R) (hS : Srt A n) :
    Calls Try.prog 37 #[.slice a n c, .int .u64 y, .func (.func 38) #[] #[]] w fun e w' => ∃ f : Bool, e = .returned (.tuple #[.int .i64 (cnt A (y - 1) n), .bool f]) ∧ Below w.heap.size w w' := by
  have V0 : Hid (Vals w g off n A R) := hv
  have T1 : Hid (Srt A n) := hS
  clear hv hS
  go_enter Try.func37, Try.ntmps37
  go_wp2
  go_loopw [9, 10] (fun i j wr => ∃ lo hi : Nat, lo ≤ hi ∧ hi ≤ n ∧ i = .int .i64 lo ∧ j = .int .i64 hi ∧ Hid (Below w.heap.size w wr) ∧ Hid (∀ t, t < lo → A t < y) ∧ Hid (∀ t, hi ≤ t → t < n → y ≤ A t)) (fun i j _ => (intOf j).toNat - (intOf i).toNat)
  case atStart => exact ⟨0, n, Nat.zero_le _, Nat.le_refl _, rfl, rfl, Below.refl _ _, fun t ht => by omega, fun t h1 h2 => by omega⟩
  case round =>
    obtain ⟨lo, hi, hlh, hhn, rfl, rfl, B1, L1, U1⟩ := hrel
    by_cases hlt : lo < hi
    · obtain rfl := ha (by omega)
      have V1 : Hid (Vals wr g off n A R) := V0.out.later B1.out
      have cc := V1.out.2 ((lo + hi) / 2) (by omega)
      obtain ⟨c0, c1, c2, c3, c4⟩ := cc
      obtain ⟨x, hx⟩ : ∃ x, x = A ((lo + hi) / 2) := ⟨_, rfl⟩
      obtain ⟨x2, hx2⟩ : ∃ x, x = R ((lo + hi) / 2) := ⟨_, rfl⟩
      rw [← hx] at c3
      rw [← hx2] at c4
      have X : Hid (x = A ((lo + hi) / 2)) := hx
      clear hx hx2
      by_cases hxy : x < y
      · have hc := cmp_neg hxy
        go_wp2_with (go_at_call 38; refine (closure_any _ _ _ _ _ _).mono ?_; rintro e w' ⟨rfl, hbs⟩)
        go_roundw
        case rel =>
          refine ⟨(lo + hi) / 2 + 1, hi, by omega, hhn, by go_num, rfl, below_then B1.out hbs, fun t ht => ?_, U1.out⟩
          have := srt_mono T1.out (i := t) (j := (lo + hi) / 2) (by omega) (by omega)
          have := X.out
          omega
        case measure => simp [intOf]; omega
      · have hc := cmp_pos hxy
        go_wp2_with (go_at_call 38; refine (closure_any _ _ _ _ _ _).mono ?_; rintro e w' ⟨rfl, hbs⟩)
        go_roundw
        case rel =>
          refine ⟨lo, (lo + hi) / 2, by omega, by omega, rfl, by go_num, below_then B1.out hbs, L1.out, fun t h1 h2 => ?_⟩
          have := srt_mono T1.out (i := (lo + hi) / 2) (j := t) (by omega) h2
          have := X.out
          omega
        case measure => simp [intOf]; omega
    · obtain rfl : hi = lo := by omega
      have ec : cnt A (y - 1) n = hi := cnt_of hhn (fun i hi => by have := L1.out i hi; omega) (fun i h1 h2 => by have := U1.out i h1 h2; omega)
      have EC : Hid (cnt A (y - 1) n = hi) := ec
      clear ec
      by_cases hz : hi < n
      · obtain rfl := ha (by omega)
        have V1 : Hid (Vals wr g off n A R) := V0.out.later B1.out
        obtain ⟨c0, c1, c2, c3, c4⟩ := V1.out.2 hi hz
        go_wp2_with (go_at_call 38; refine (closure_any _ _ _ _ _ _).mono ?_; rintro e w' ⟨rfl, hbs⟩)
        go_ret2
        exact ⟨_, ret_ib (by rw [EC.out]), below_then B1.out hbs⟩
      · go_wp2
        go_ret2
        exact ⟨_, ret_ib (by rw [EC.out]), B1.out⟩

/-- (Values).written -/
theorem written_any (a : Option Addr) (g off n c : Nat) (A R : Nat → Int) (r : Int) (w : World) (ha : 0 < n → a = some ⟨g, off, none⟩) (hn : n ≤ 65536) (hv : Vals w g off n A R) (hS : Srt A n) (h0 : 0 ≤ r) (hr : r < 18446744073709551615) :
    Calls Try.prog 35 #[.slice a n c, .int .u64 r] w fun e w' => e = .returned (.int .i64 (cnt A r n)) ∧ Below w.heap.size w w' := by
  have hc := search_any a g off n c A R (r + 1) w ha hn hv hS
  have e : r + 1 - 1 = r := by omega
  rw [e] at hc
  clear e
  have hl := cnt_le A r n
  generalize cnt A r n = m at *
  clear hS hv
  go_enter Try.func35, Try.ntmps35
  go_wp2_with (go_at_call 37; refine hc.mono ?_; rintro e w' ⟨f, rfl, hbs⟩)
  go_ret
  exact ⟨rfl, hbs⟩

/-- ZZwritten -/
theorem zzwritten_any (a : Option Addr) (g off n c : Nat) (A R : Nat → Int) (r : Int) (w : World) (ha : 0 < n → a = some ⟨g, off, none⟩) (hn : n ≤ 65536) (hv : Vals w g off n A R) (hS : Srt A n) (h0 : 0 ≤ r) (hr : r < 18446744073709551615) :
    Calls Try.prog 30 #[.slice a n c, .int .u64 r] w fun e w' => e = .returned (.int .i64 (cnt A r n)) ∧ Below w.heap.size w w' := by
  have hc := written_any a g off n c A R r w ha hn hv hS h0 hr
  generalize cnt A r n = m at *
  clear hS hv
  go_enter Try.func30, Try.ntmps30
  go_wp2_with (go_at_call 35; refine hc.mono ?_; rintro e w' ⟨rfl, hbs⟩)
  go_ret
  exact ⟨rfl, hbs⟩

/-- a new block's three cells, behind whatever keeps them -/
theorem three_of {w w' : World} {c0 c1 c2 : Value} {t : TypeId} (hb : Below (w.alloc (.cells #[c0, c1, c2] t)).heap.size (w.alloc (.cells #[c0, c1, c2] t)) w') :
    w'.cell? ⟨w.heap.size, 0, none⟩ = some c0 ∧ w'.cell? ⟨w.heap.size, 1, none⟩ = some c1 ∧ w'.cell? ⟨w.heap.size, 2, none⟩ = some c2 ∧
    w'.frozen? ⟨w.heap.size, 0, none⟩ = false ∧ w'.frozen? ⟨w.heap.size, 1, none⟩ = false ∧ w'.frozen? ⟨w.heap.size, 2, none⟩ = false ∧ w.heap.size < w'.heap.size := by
  have hs := hb.size
  simp only [World.size_alloc] at hs
  refine ⟨?_, ?_, ?_, ?_, ?_, ?_, by omega⟩
  all_goals first | rw [hb.cell (by simp)] | rw [hb.frozen (by simp)]
  all_goals simp

theorem set3_below {B : Nat} {a w : World} (h : Below B a w) {g : Nat} (hg : B ≤ g) (u0 u1 u2 : Value) (j0 j1 j2 : Nat) :
    Below B a (((w.setCell ⟨g, j0, none⟩ u0).setCell ⟨g, j1, none⟩ u1).setCell ⟨g, j2, none⟩ u2) := ((h.setCell hg u0).setCell hg u1).setCell hg u2
theorem set3_alloc_below {B : Nat} {a w : World} (h : Below B a w) (hB : B ≤ w.heap.size) {g : Nat} (hg : B ≤ g) (u0 u1 u2 : Value) (j0 j1 j2 : Nat) (o : Obj) :
    Below B a ((((w.setCell ⟨g, j0, none⟩ u0).setCell ⟨g, j1, none⟩ u1).setCell ⟨g, j2, none⟩ u2).alloc o) := (set3_below h hg u0 u1 u2 j0 j1 j2).alloc (by simp [World.setCell]; exact hB) o

/-- (Values).At -/
theorem at_any (a : Option Addr) (g off n c : Nat) (A R : Nat → Int) (r : Int) (w : World) (ha : 0 < n → a = some ⟨g, off, none⟩) (hn : n ≤ 65536) (hv : Vals w g off n A R) (hS : Srt A n) (h0 : 0 ≤ r) (hr : r < 18446744073709551615) :
    Calls Try.prog 19 #[.slice a n c, .int .u64 r] w fun e w' => e = .returned (.tuple #[.agg #[.int .u8 0, .bool false, .nilIface], .bool (atB A R r n)]) ∧ Below w.heap.size w w' := by
  have hc := fun (w1 : World) (hb : Below w.heap.size w w1) => written_any a g off n c A R r w1 ha hn (hv.later hb) hS h0 hr
  have HC : Hid _ := hc
  clear hc
  have hl := cnt_le A r n
  have V0 : Hid (Vals w g off n A R) := hv
  match hm : cnt A r n with
  | 0 =>
    rw [at_none hm]
    rw [hm] at HC
    clear hm hl hS hv
    go_enter Try.func19, Try.ntmps19
    go_wp2_with (go_at_call 35; refine (HC.out _ ((Below.refl _ _).alloc (Nat.le_refl _) _)).mono ?_; rintro e w' ⟨rfl, hbs⟩; obtain ⟨q0, q1, q2, q3, q4, q5, q6⟩ := three_of hbs; have hb0 := below_then ((Below.refl _ _).alloc (Nat.le_refl _) _) hbs)
    refine bodyPost_ret (v := .tuple #[.agg #[.int .u8 0, .bool false, .nilIface], .bool false]) (by simp [results, Try.results19, go_sem, q0, q1, q2]) rfl ⟨rfl, ?_⟩
    exact set3_below hb0 (Nat.le_refl _) _ _ _ _ _ _
  | m + 1 =>
    rw [hm] at HC hl
    obtain rfl := ha (by omega)
    have V1 := fun (w1 : World) (hb : Below w.heap.size w w1) => (hv.later hb).2 m (by omega)
    have HV : Hid _ := V1
    clear V1 hv hS
    by_cases h1 : R m = 0
    · rw [at_yes hm (.inl h1)]
      have h2 : (R m == 0) = true := by simp [h1]
      clear hm h1
      go_enter Try.func19, Try.ntmps19
      go_wp2_with (go_at_call 35; refine (HC.out _ ((Below.refl _ _).alloc (Nat.le_refl _) _)).mono ?_; rintro e w' ⟨rfl, hbs⟩; obtain ⟨q0, q1, q2, q3, q4, q5, q6⟩ := three_of hbs; have hb0 := below_then ((Below.refl _ _).alloc (Nat.le_refl _) _) hbs; obtain ⟨c0, c1, c2, c3, c4⟩ := HV.out _ hb0)
      refine bodyPost_ret (v := .tuple #[.agg #[.int .u8 0, .bool false, .nilIface], .bool true]) (by simp [results, Try.results19, go_sem, q0, q1, q2, q6]) rfl ⟨rfl, ?_⟩
      exact set3_alloc_below hb0 (Nat.le_of_lt q6) (Nat.le_refl _) _ _ _ _ _ _ _
    · have h2 : (R m == 0) = false := by simp [h1]
      by_cases h3 : r < R m
      · rw [at_yes hm (.inr h3)]
        clear hm h1
        go_enter Try.func19, Try.ntmps19
        go_wp2_with (go_at_call 35; refine (HC.out _ ((Below.refl _ _).alloc (Nat.le_refl _) _)).mono ?_; rintro e w' ⟨rfl, hbs⟩; obtain ⟨q0, q1, q2, q3, q4, q5, q6⟩ := three_of hbs; have hb0 := below_then ((Below.refl _ _).alloc (Nat.le_refl _) _) hbs; obtain ⟨c0, c1, c2, c3, c4⟩ := HV.out _ hb0)
        refine bodyPost_ret (v := .tuple #[.agg #[.int .u8 0, .bool false, .nilIface], .bool true]) (by simp [results, Try.results19, go_sem, q0, q1, q2, q6]) rfl ⟨rfl, ?_⟩
        exact set3_alloc_below hb0 (Nat.le_of_lt q6) (Nat.le_refl _) _ _ _ _ _ _ _
      · rw [at_no hm h1 (by omega)]
        clear hm h1
        go_enter Try.func19, Try.ntmps19
        go_wp2_with (go_at_call 35; refine (HC.out _ ((Below.refl _ _).alloc (Nat.le_refl _) _)).mono ?_; rintro e w' ⟨rfl, hbs⟩; obtain ⟨q0, q1, q2, q3, q4, q5, q6⟩ := three_of hbs; have hb0 := below_then ((Below.refl _ _).alloc (Nat.le_refl _) _) hbs; obtain ⟨c0, c1, c2, c3, c4⟩ := HV.out _ hb0)
        refine bodyPost_ret (v := .tuple #[.agg #[.int .u8 0, .bool false, .nilIface], .bool false]) (by simp [results, Try.results19, go_sem, q0, q1, q2, q6]) rfl ⟨rfl, ?_⟩
        exact set3_alloc_below hb0 (Nat.le_of_lt q6) (Nat.le_refl _) _ _ _ _ _ _ _

end Go.Proofs.Qxb6617005a.W
