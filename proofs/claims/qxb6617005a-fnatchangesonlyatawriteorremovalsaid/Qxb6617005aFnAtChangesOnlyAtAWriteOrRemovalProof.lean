import Derived.Test.Qxb6617005aZero
namespace Go.Proofs.Qxb6617005a.fnAtChangesOnlyAtAWriteOrRemoval
open Go.ChangeShapes Go.WideShapes Go.ChangeAt Go.RowKit
open Go.Proofs.Qxb6617005a.Plain Go.Proofs.Qxb6617005a.W
set_option linter.unusedVariables false

set_option maxHeartbeats 1000000 in
theorem walk_main (a : Option Addr) (b off n c : Nat) (A R : Nat → Int) (r : Int) (w : World) (ha : 0 < n → a = some ⟨b, off, none⟩) (hnc : n ≤ c) (hn : c ≤ 9223372036854775807) (h2 : n ≤ 65536) (hs : Spans w b off n A R)
    (hr0 : 0 ≤ r) (hr2 : r < 18446744073709551614) (hb : ∀ w, Calls Try.prog 28 #[.slice a n c, .int .u64 r] w fun e w' => e = .returned (.bool true) ∧ w' = w) (hS : Srt A n) :
    Calls Try.prog 8 #[.slice a n c, .int .u64 r] w fun e w' => e = .returned (.bool true) ∧ Below w.heap.size w w' := by
  have hc1 := fun w (hs : Spans w b off n A R) => sorted_yes a b off n c A R w ha h2 hs hS
  have S0 : Hid (Spans w b off n A R) := hs
  have hw1 := fun g w (hv : Vals w g 0 n A R) => at_any (some ⟨g, 0, none⟩) g 0 n n A R r w (fun _ => rfl) h2 hv hS hr0 (by omega)
  have hw2 := fun g w (hv : Vals w g 0 n A R) => at_any (some ⟨g, 0, none⟩) g 0 n n A R (r + 1) w (fun _ => rfl) h2 hv hS (by omega) (by omega)
  have hu1 := fun w (hs : Spans w b off n A R) => stands_any a b off n c A R r w ha h2 hs hS
  have hu2 := fun w (hs : Spans w b off n A R) => stands_any a b off n c A R (r + 1) w ha h2 hs hS
  have still : Hid ((∀ i, i < n → A i ≠ r + 1 ∧ R i ≠ r + 1) → atB A R (r + 1) n = atB A R r n) := fun h => at_still hS h
  generalize atB A R r n = ans at *
  generalize atB A R (r + 1) n = ans2 at *
  clear hs hS
  go_enter Try.func8, Try.ntmps8
  go_wp2_with (first | (go_at_call 28; refine (hb _).mono ?_; rintro e w' ⟨rfl, rfl⟩) | (go_at_call 12; refine (hc1 _ S0.out).mono ?_; rintro e w1 ⟨rfl, hb1⟩; have hb1' := hb1.alloc (by simpa using hb1.size) (.cells #[.int .u8 0, .bool false, .nilIface] 31)) | (go_at_call 14; refine (build_any _ b off n c A R _ ha h2 (S0.out.later hb1')).mono ?_; rintro e w2 ⟨rfl, hv2, hb2⟩))
  have V2 : Hid (Vals w2 (w1.heap.size + 1) 0 n A R) := hv2.at (World.size_alloc _ _)
  have Z2 : Hid (Z3 w2 w1.heap.size) := (Z3.new w1).later hb2
  have HB2 : Hid (Below w'.heap.size w' w2) := below_then hb1' hb2
  clear hv2 hb2 hb1 hb1'
  refine (hw1 _ _ V2.out).mono ?_
  rintro e w3 ⟨rfl, hb3⟩
  have HB3 : Hid (Below w'.heap.size w' w3) := below_then HB2.out hb3
  have V4 : Hid (Vals (w3.alloc (.cells #[.int .u8 0, .bool false, .nilIface] 31)) (w1.heap.size + 1) 0 n A R) := (V2.out.later hb3).later (below_new _ _)
  have Z4 : Hid (Z3 (w3.alloc (.cells #[.int .u8 0, .bool false, .nilIface] 31)) w1.heap.size) := (Z2.out.later hb3).later (below_new _ _)
  have Y4 : Hid (Z3 (w3.alloc (.cells #[.int .u8 0, .bool false, .nilIface] 31)) w3.heap.size) := Z3.new w3
  clear hb3
  go_wp2_with fail
  refine (hw2 _ _ V4.out).mono ?_
  rintro e w5 ⟨rfl, hb5⟩
  have HB5 : Hid (Below w'.heap.size w' w5) := below_then (below_then HB3.out (below_new _ _)) hb5
  have Z6 := (Z4.out.later hb5).later (below_new _ (.cells #[.int .u8 0, .bool false, .nilIface] 31))
  have Y6 := (Y4.out.later hb5).later (below_new _ (.cells #[.int .u8 0, .bool false, .nilIface] 31))
  have X6 := Z3.new w5
  have HB6 : Hid (Below w'.heap.size w' (w5.alloc (.cells #[.int .u8 0, .bool false, .nilIface] 31))) := below_then HB5.out (below_new _ _)
  clear hb5 Y4 Z4 V4
  go_wp2_with fail
  generalize w5.alloc (.cells #[.int .u8 0, .bool false, .nilIface] 31) = w6 at HB6 Z6 Y6 X6 ⊢
  have S6 : Hid (Spans w6 b off n A R) := S0.out.later HB6.out
  go_loop [11, 12] (fun t i => ∃ (k : Nat) (ed : Bool), k ≤ n ∧ i = .int .i64 k ∧ t = .bool ed ∧ Hid (ed = false → ∀ i, i < k → A i ≠ r + 1 ∧ R i ≠ r + 1)) (fun _ i => n - (intOf i).toNat)
  case atStart => exact ⟨0, false, Nat.zero_le _, rfl, rfl, fun _ i hi => by omega⟩
  case round =>
    obtain ⟨k, ed, hk, rfl, rfl, M⟩ := hrel
    by_cases hlt : k < n
    · obtain rfl := ha (by omega)
      have c0 := S6.out.2.1 k hlt
      have c1 := S6.out.2.2 k hlt
      by_cases hA : A k = r + 1
      · have h5 : (A k == r + 1) = true := by simp [hA]
        clear hA Z6 Y6 X6
        go_wp2
        go_round
        case rel => exact ⟨k + 1, true, by omega, by go_num, rfl, fun h => by cases h⟩
        case measure => simp [intOf]; omega
      · have h5 : (A k == r + 1) = false := by simp [hA]
        by_cases hR : R k = r + 1
        · have h7 : (R k == r + 1) = true := by simp [hR]
          clear hA hR Z6 Y6 X6
          go_wp2
          go_round
          case rel => exact ⟨k + 1, true, by omega, by go_num, rfl, fun h => by cases h⟩
          case measure => simp [intOf]; omega
        · have h7 : (R k == r + 1) = false := by simp [hR]
          have M2 : Hid (ed = false → ∀ i, i < k + 1 → A i ≠ r + 1 ∧ R i ≠ r + 1) := fun h i hi => by
            by_cases e : i = k
            · rw [e]; exact ⟨hA, hR⟩
            · exact M.out h i (by omega)
          clear hA hR Z6 Y6 X6
          go_wp2
          go_round
          case rel => exact ⟨k + 1, ed, by omega, by go_num, rfl, M2.out⟩
          case measure => simp [intOf]; omega
    · have hkn : k = n := by omega
      have M3 : Hid (ed = false → ans2 = ans) := fun h => still.out (by have := M.out h; rw [hkn] at this; exact this)
      clear hkn
      go_wp2_with fail
      refine (hu1 _ S6.out).mono ?_
      rintro e w7 ⟨rfl, rfl⟩
      go_wp2_with fail
      refine (hu2 _ S6.out).mono ?_
      rintro e w8 ⟨rfl, rfl⟩
      obtain ⟨z0, z1, z2, z3, z4, z5, z6⟩ := Z6
      obtain ⟨y0, y1, y2, y3, y4, y5, y6⟩ := Y6
      obtain ⟨x0, x1, x2, x3, x4, x5, x6⟩ := X6
      have hq := eq_zero
      cases ed with
      | true =>
        go_wp2
        go_ret
        exact ⟨rfl, HB6.out⟩
      | false =>
        have := M3.out rfl
        subst this
        go_wp2
        go_ret
        exact ⟨rfl, HB6.out⟩

theorem walk (a : Option Addr) (b off n c : Nat) (A R : Nat → Int) (r : Int) (w : World) (ha : 0 < n → a = some ⟨b, off, none⟩) (hnc : n ≤ c) (hn : c ≤ maxLen) (hac : a = none → c = 0) (hs : Spans w b off n A R)
    (hr0 : 0 ≤ r) (hr1 : r ≤ 18446744073709551615) :
    Calls Try.prog 8 #[.slice a n c, .int .u64 r] w fun e w' => e = .returned (.bool true) ∧ Below w.heap.size w w' := by
  have hb := fun w => bytes28 a n c r w (by omega)
  unfold maxLen at hn
  by_cases h1 : n ≤ 1048576
  · have hd : decide (n ≤ 1048576) = true := decide_eq_true h1
    rw [hd] at hb
    clear hd
    by_cases h2 : n ≤ 65536
    · by_cases h3 : 18446744073709551614 ≤ r
      · go_enter Try.func8, Try.ntmps8
        go_wp2_with (go_at_call 28; refine (hb _).mono ?_; rintro e w' ⟨rfl, rfl⟩)
        go_ret
        exact ⟨rfl, Below.refl _ _⟩
      · by_cases hS : Srt A n
        · exact walk_main a b off n c A R r w ha hnc hn h2 hs hr0 (by omega) hb hS
        · have hc1 := fun w (hs : Spans w b off n A R) => sorted_no a b off n c A R w ha h2 hs hS
          clear hS
          go_enter Try.func8, Try.ntmps8
          go_wp2_with (first | (go_at_call 28; refine (hb _).mono ?_; rintro e w' ⟨rfl, rfl⟩) | (go_at_call 12; refine (hc1 _ hs).mono ?_; rintro e w1 ⟨rfl, hb1⟩))
          go_ret
          exact ⟨rfl, hb1⟩
    · go_enter Try.func8, Try.ntmps8
      go_wp2_with (go_at_call 28; refine (hb _).mono ?_; rintro e w' ⟨rfl, rfl⟩)
      go_ret
      exact ⟨rfl, Below.refl _ _⟩
  · have hd : decide (n ≤ 1048576) = false := decide_eq_false h1
    rw [hd] at hb
    clear hd
    go_enter Try.func8, Try.ntmps8
    go_wp2_with (go_at_call 28; refine (hb _).mono ?_; rintro e w' ⟨rfl, rfl⟩)
    go_ret
    exact ⟨rfl, Below.refl _ _⟩

/-! ### THE ROW's STEP -/
set_option maxRecDepth 100000 in
theorem lifted (os : Os) (started : os.Started) (H : Type) (enc : TypeId × Value → H) :
    ReturnsInHanded {} Try.checked os 8 .any (Rows.fnAtChangesOnlyAtAWriteOrRemovalSpec.pre6 enc Try.prog Try.f8 Rows.fnAtChangesOnlyAtAWriteOrRemovalRow.domain false) (Rows.fnAtChangesOnlyAtAWriteOrRemovalSpec.post enc Try.prog Try.f8 false true false false) := by
  refine returnsInHanded_of_change (C := Try.checked) own started (by kernel_rfl) Try.func8
    (ChangeSpec.witness6 (enc := enc) (C := Try.checked) false ⟨#[], #[.slice none 0 0, .int .u64 0], []⟩ 8 (by kernel_rfl) (by kernel_rfl) (by kernel_rfl) (by kernel_rfl)) ?_
  intro W base args ds gs before hval0 hW hcnd _
  have hval : ∀ (j : Nat) t v, Try.f8.params[j]? = some t → args[j]? = some v → Value.okWide Try.prog W .any base t v := hval0
  have hW' := hW
  obtain ⟨p, q, hA0, hV, rfl, hfz, hnd⟩ := hW
  have hA : DataW.TrodAll enc Try.prog W 0 (fun _ => true) true Try.f8.params.toList args.toList ds p := hA0
  rw [Try.params8] at hA hval
  obtain ⟨v0, vs0, d0, ds0, p0, q0, hargs, rfl, rfl, h0, r0⟩ := trodAll_cons hA
  obtain ⟨v1, vs1, d1, ds1, p1, q1, rfl, rfl, rfl, h1, r1⟩ := trodAll_cons r0
  obtain ⟨rfl, rfl, rfl⟩ := trodAll_nil r1
  obtain rfl : args = #[v0, v1] := by cases args; simp_all
  obtain ⟨rfl, rfl⟩ := trodVars_none hV
  obtain ⟨a0, len0, cap0, rfl⟩ := okWide_slice Try.underlying22 (hval 0 22 v0 rfl rfl)
  have k0 := h0
  have lt0 : ∀ x ∈ p0, x.block < W.heap.size := by obtain ⟨m, hm⟩ := k0; exact DataW.trod_lt m _ _ _ hm
  obtain ⟨b, off, A, R, w0a, w0b, w0c, w0d, w0e⟩ : ∃ (b off : Nat) (A R : Nat → Int), (0 < len0 → a0 = some ⟨b, off, none⟩) ∧ len0 ≤ cap0 ∧ cap0 ≤ maxLen ∧ (a0 = none → cap0 = 0) ∧ Spans W b off len0 A R := by
    obtain ⟨fuel, hf⟩ := h0
    exact open_spans hf
  obtain ⟨x1, rfl, rfl, rfl, wx1⟩ := open_int Try.underlying23 (hval 1 23 v1 rfl rfl) h1
  have bd1 := bounds_u64 wx1
  clear hA0 hval0
  refine (walk a0 b off len0 cap0 A R x1 W w0a w0b w0c w0d w0e (by omega) (by omega)).mono fun e W' ⟨he, bel⟩ => ?_
  subst he
  exact ⟨_, rfl, _, _, _, [], _, [], hW', trodAll_mk1 (shut_bool Try.underlying4 _), (trodAll_cons_mk (Below.trod laidOut (by kernel_rfl) (of_decide_eq_true (by kernel_rfl)) k0 bel lt0) (trodAll_cons_mk (shut_int Try.underlying23 wx1) trodAll_mk0)), rfl, bel.frame _, fun h => by cases h⟩

theorem over : Rows.fnAtChangesOnlyAtAWriteOrRemovalRow.holds Try.pinned (OpenSpec.ofChange Rows.fnAtChangesOnlyAtAWriteOrRemovalSpec) :=
  OpenClaim.holds_of_wide 8 Try.f8 rfl rfl rfl rfl rfl rfl rfl ⟨rfl, rfl, rfl, rfl, rfl⟩ rfl rfl rfl rfl rfl (by kernel_rfl) Try.func8 (by kernel_rfl)
    (of_decide_eq_true (by kernel_rfl)) (by unfold Func.isWrapper; first | (rw [if_pos (by decide +kernel)]; kernel_rfl) | (rw [if_neg (by decide +kernel)]; exact ⟨rfl, rfl⟩))
    (fun os started H enc _ => lifted os started H enc)

/-- ████ THE STATEMENT ████ -/
theorem proved : Rows.FnAtChangesOnlyAtAWriteOrRemovalSaid := over
#print axioms proved
end Go.Proofs.Qxb6617005a.fnAtChangesOnlyAtAWriteOrRemoval
