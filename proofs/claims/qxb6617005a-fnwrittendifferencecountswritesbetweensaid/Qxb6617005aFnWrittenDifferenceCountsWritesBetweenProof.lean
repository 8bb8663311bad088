import Derived.Test.Qxb6617005aOpen
namespace Go.Proofs.Qxb6617005a.fnWrittenDifferenceCountsWritesBetween
open Go.ChangeShapes Go.WideShapes Go.ChangeAt Go.RowKit
open Go.Proofs.Qxb6617005a.Plain Go.Proofs.Qxb6617005a.W
set_option linter.unusedVariables false

theorem sub_beq (m1 m2 : Nat) : ((m1 : Int) + m2 - m1 == (m2 : Int)) = true := by
  have : (m1 : Int) + m2 - m1 = m2 := by omega
  rw [this]; simp

set_option maxHeartbeats 1000000 in
theorem walk_main (a : Option Addr) (b off n c : Nat) (A R : Nat → Int) (r1 r2 : Int) (w : World) (ha : 0 < n → a = some ⟨b, off, none⟩) (hnc : n ≤ c) (hn : c ≤ 9223372036854775807) (h2 : n ≤ 65536) (hs : Spans w b off n A R)
    (hr0 : 0 ≤ r1) (hr1 : r1 ≤ r2) (hr2 : r2 < 18446744073709551615) (h6 : (r2 == 18446744073709551615) = false) (hb : ∀ w, Calls Try.prog 32 #[.slice a n c, .int .u64 r1, .int .u64 r2] w fun e w' => e = .returned (.bool true) ∧ w' = w) (hS : Srt A n) :
    Calls Try.prog 10 #[.slice a n c, .int .u64 r1, .int .u64 r2] w fun e w' => e = .returned (.bool true) ∧ Below w.heap.size w w' := by
  have hc1 := fun w (hs : Spans w b off n A R) => sorted_yes a b off n c A R w ha h2 hs hS
  have S0 : Hid (Spans w b off n A R) := hs
  have HS : Hid (Srt A n) := hS
  have hl1 := cnt_le A r1 n
  have hl2 := btw_le A r1 r2 n
  have hcut := cnt_btw A r1 r2 hr1 n
  clear hs hS
  have hw1 := fun g w (hv : Vals w g 0 n A R) => zzwritten_any (some ⟨g, 0, none⟩) g 0 n n A R r1 w (fun _ => rfl) h2 hv HS.out hr0 (by omega)
  have hw2 := fun g w (hv : Vals w g 0 n A R) => zzwritten_any (some ⟨g, 0, none⟩) g 0 n n A R r2 w (fun _ => rfl) h2 hv HS.out (by omega) hr2
  have hu1 := fun w (hs : Spans w b off n A R) => countUp_any a b off n c A R r1 w ha h2 hs
  have hu2 := fun w (hs : Spans w b off n A R) => countBtw_any a b off n c A R r1 r2 w ha h2 hs
  rw [hcut] at hw2
  generalize cnt A r1 n = m1 at *
  generalize btw A r1 r2 n = m2 at *
  clear hcut
  go_enter Try.func10, Try.ntmps10
  go_wp2_with (first | (go_at_call 32; refine (hb _).mono ?_; rintro e w' ⟨rfl, rfl⟩) | (go_at_call 12; refine (hc1 _ S0.out).mono ?_; rintro e w1 ⟨rfl, hb1⟩) | (go_at_call 14; refine (build_any a b off n c A R _ ha h2 (S0.out.later hb1)).mono ?_; rintro e w2 ⟨rfl, hv2, hb2⟩))
  refine (hw1 _ _ hv2).mono ?_
  rintro e w3 ⟨rfl, hb3⟩
  have hv3 : Hid (Vals w3 w1.heap.size 0 n A R) := hv2.later hb3
  clear hv2
  go_wp2_with fail
  refine (hw2 _ _ hv3.out).mono ?_
  rintro e w4 ⟨rfl, hb4⟩
  have S5 : Hid (Spans w4 b off n A R) := (((S0.out.later hb1).later hb2).later hb3).later hb4
  go_wp2_with fail
  refine (hu1 _ S5.out).mono ?_
  rintro e w6 ⟨rfl, rfl⟩
  go_wp2_with fail
  refine (hu2 _ S5.out).mono ?_
  rintro e w7 ⟨rfl, rfl⟩
  go_wp2
  go_ret
  exact ⟨ret_bool (sub_beq m1 m2), below_then (below_then (below_then hb1 hb2) hb3) hb4⟩

theorem walk (a : Option Addr) (b off n c : Nat) (A R : Nat → Int) (r1 r2 : Int) (w : World) (ha : 0 < n → a = some ⟨b, off, none⟩) (hnc : n ≤ c) (hn : c ≤ maxLen) (hac : a = none → c = 0) (hs : Spans w b off n A R)
    (hk1 : 0 ≤ r1) (hk2 : r1 ≤ 18446744073709551615) (hr0 : 0 ≤ r2) (hr1 : r2 ≤ 18446744073709551615) :
    Calls Try.prog 10 #[.slice a n c, .int .u64 r1, .int .u64 r2] w fun e w' => e = .returned (.bool true) ∧ Below w.heap.size w w' := by
  have hb := fun w => bytes32 a n c r1 r2 w (by omega)
  unfold maxLen at hn
  by_cases h1 : n ≤ 1048576
  · have hd : decide (n ≤ 1048576) = true := decide_eq_true h1
    rw [hd] at hb
    clear hd
    by_cases h2 : n ≤ 65536
    · by_cases h3 : r2 < r1
      · go_enter Try.func10, Try.ntmps10
        go_wp2_with (go_at_call 32; refine (hb _).mono ?_; rintro e w' ⟨rfl, rfl⟩)
        go_ret
        exact ⟨rfl, Below.refl _ _⟩
      · by_cases h5 : r2 = 18446744073709551615
        · have h6 : (r2 == 18446744073709551615) = true := by simp [h5]
          clear h5
          go_enter Try.func10, Try.ntmps10
          go_wp2_with (go_at_call 32; refine (hb _).mono ?_; rintro e w' ⟨rfl, rfl⟩)
          go_ret
          exact ⟨rfl, Below.refl _ _⟩
        · have h6 : (r2 == 18446744073709551615) = false := by simp [h5]
          by_cases hS : Srt A n
          · exact walk_main a b off n c A R r1 r2 w ha hnc hn h2 hs hk1 (by omega) (by omega) h6 hb hS
          · have hc1 := fun w (hs : Spans w b off n A R) => sorted_no a b off n c A R w ha h2 hs hS
            clear hS h5
            go_enter Try.func10, Try.ntmps10
            go_wp2_with (first | (go_at_call 32; refine (hb _).mono ?_; rintro e w' ⟨rfl, rfl⟩) | (go_at_call 12; refine (hc1 _ hs).mono ?_; rintro e w1 ⟨rfl, hb1⟩))
            go_ret
            exact ⟨rfl, hb1⟩
    · go_enter Try.func10, Try.ntmps10
      go_wp2_with (go_at_call 32; refine (hb _).mono ?_; rintro e w' ⟨rfl, rfl⟩)
      go_ret
      exact ⟨rfl, Below.refl _ _⟩
  · have hd : decide (n ≤ 1048576) = false := decide_eq_false h1
    rw [hd] at hb
    clear hd
    go_enter Try.func10, Try.ntmps10
    go_wp2_with (go_at_call 32; refine (hb _).mono ?_; rintro e w' ⟨rfl, rfl⟩)
    go_ret
    exact ⟨rfl, Below.refl _ _⟩

/-! ### THE ROW's STEP -/
set_option maxRecDepth 100000 in
theorem lifted (os : Os) (started : os.Started) (H : Type) (enc : TypeId × Value → H) :
    ReturnsInHanded {} Try.checked os 10 .any (Rows.fnWrittenDifferenceCountsWritesBetweenSpec.pre6 enc Try.prog Try.f10 Rows.fnWrittenDifferenceCountsWritesBetweenRow.domain false) (Rows.fnWrittenDifferenceCountsWritesBetweenSpec.post enc Try.prog Try.f10 false true false false) := by
  refine returnsInHanded_of_change (C := Try.checked) own started (by kernel_rfl) Try.func10
    (ChangeSpec.witness6 (enc := enc) (C := Try.checked) false ⟨#[], #[.slice none 0 0, .int .u64 0, .int .u64 0], []⟩ 8 (by kernel_rfl) (by kernel_rfl) (by kernel_rfl) (by kernel_rfl)) ?_
  intro W base args ds gs before hval0 hW hcnd _
  have hval : ∀ (j : Nat) t v, Try.f10.params[j]? = some t → args[j]? = some v → Value.okWide Try.prog W .any base t v := hval0
  have hW' := hW
  obtain ⟨p, q, hA0, hV, rfl, hfz, hnd⟩ := hW
  have hA : DataW.TrodAll enc Try.prog W 0 (fun _ => true) true Try.f10.params.toList args.toList ds p := hA0
  rw [Try.params10] at hA hval
  obtain ⟨v0, vs0, d0, ds0, p0, q0, hargs, rfl, rfl, h0, r0⟩ := trodAll_cons hA
  obtain ⟨v1, vs1, d1, ds1, p1, q1, rfl, rfl, rfl, h1, r1⟩ := trodAll_cons r0
  obtain ⟨v2, vs2, d2, ds2, p2, q2, rfl, rfl, rfl, h2, r2⟩ := trodAll_cons r1
  obtain ⟨rfl, rfl, rfl⟩ := trodAll_nil r2
  obtain rfl : args = #[v0, v1, v2] := by cases args; simp_all
  obtain ⟨rfl, rfl⟩ := trodVars_none hV
  obtain ⟨a0, len0, cap0, rfl⟩ := okWide_slice Try.underlying22 (hval 0 22 v0 rfl rfl)
  have k0 := h0
  have lt0 : ∀ x ∈ p0, x.block < W.heap.size := by obtain ⟨m, hm⟩ := k0; exact DataW.trod_lt m _ _ _ hm
  obtain ⟨b, off, A, R, w0a, w0b, w0c, w0d, w0e⟩ : ∃ (b off : Nat) (A R : Nat → Int), (0 < len0 → a0 = some ⟨b, off, none⟩) ∧ len0 ≤ cap0 ∧ cap0 ≤ maxLen ∧ (a0 = none → cap0 = 0) ∧ Spans W b off len0 A R := by
    obtain ⟨fuel, hf⟩ := h0
    exact open_spans hf
  obtain ⟨x1, rfl, rfl, rfl, wx1⟩ := open_int Try.underlying23 (hval 1 23 v1 rfl rfl) h1
  obtain ⟨x2, rfl, rfl, rfl, wx2⟩ := open_int Try.underlying23 (hval 2 23 v2 rfl rfl) h2
  have bd1 := bounds_u64 wx1
  have bd2 := bounds_u64 wx2
  clear hA0 hval0
  refine (walk a0 b off len0 cap0 A R x1 x2 W w0a w0b w0c w0d w0e (by omega) (by omega) (by omega) (by omega)).mono fun e W' ⟨he, bel⟩ => ?_
  subst he
  exact ⟨_, rfl, _, _, _, [], _, [], hW', trodAll_mk1 (shut_bool Try.underlying4 _), (trodAll_cons_mk (Below.trod laidOut (by kernel_rfl) (of_decide_eq_true (by kernel_rfl)) k0 bel lt0) (trodAll_cons_mk (shut_int Try.underlying23 wx1) (trodAll_cons_mk (shut_int Try.underlying23 wx2) trodAll_mk0))), rfl, bel.frame _, fun h => by cases h⟩

theorem over : Rows.fnWrittenDifferenceCountsWritesBetweenRow.holds Try.pinned (OpenSpec.ofChange Rows.fnWrittenDifferenceCountsWritesBetweenSpec) :=
  OpenClaim.holds_of_wide 10 Try.f10 rfl rfl rfl rfl rfl rfl rfl ⟨rfl, rfl, rfl, rfl, rfl⟩ rfl rfl rfl rfl rfl (by kernel_rfl) Try.func10 (by kernel_rfl)
    (of_decide_eq_true (by kernel_rfl)) (by unfold Func.isWrapper; first | (rw [if_pos (by decide +kernel)]; kernel_rfl) | (rw [if_neg (by decide +kernel)]; exact ⟨rfl, rfl⟩))
    (fun os started H enc _ => lifted os started H enc)

/-- ████ THE STATEMENT ████ -/
theorem proved : Rows.FnWrittenDifferenceCountsWritesBetweenSaid := over
#print axioms proved
end Go.Proofs.Qxb6617005a.fnWrittenDifferenceCountsWritesBetween
