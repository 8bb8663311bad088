import Derived.Test.Qxb6617005aSame
namespace Go.Proofs.Qxb6617005a.fnForgetTwiceIsForgetAtTheLater
open Go.ChangeShapes Go.WideShapes Go.ChangeAt Go.RowKit
open Go.Proofs.Qxb6617005a.Plain Go.Proofs.Qxb6617005a.W
set_option linter.unusedVariables false

set_option maxHeartbeats 2000000 in
theorem walk_main (a : Option Addr) (b off n c : Nat) (A R : Nat → Int) (b1 b2 : Int) (w : World) (ha : 0 < n → a = some ⟨b, off, none⟩) (hnc : n ≤ c) (hn : c ≤ 9223372036854775807) (h2 : n ≤ 65536) (hs : Spans w b off n A R)
    (hr0 : 0 ≤ b1) (hr1 : b1 ≤ b2) (hr2 : b2 < 18446744073709551615) (h5 : (b1 == 18446744073709551615) = false) (h6 : (b2 == 18446744073709551615) = false) (hb : ∀ w, Calls Try.prog 26 #[.slice a n c, .int .u64 b1, .int .u64 b2] w fun e w' => e = .returned (.bool true) ∧ w' = w) (hS : Srt A n) (hE : Plain.Ends A R n) :
    Calls Try.prog 6 #[.slice a n c, .int .u64 b1, .int .u64 b2] w fun e w' => e = .returned (.bool true) ∧ Below w.heap.size w w' := by
  have hc1 := fun w (hs : Spans w b off n A R) => sorted_yes a b off n c A R w ha h2 hs hS
  have hc2 := fun w (hs : Spans w b off n A R) => ends_yes a b off n c A R w ha h2 hs hE
  have S0 : Hid (Spans w b off n A R) := hs
  have hu1 := fun w (hs : Spans w b off n A R) => countEnded_any a b off n c A R b1 w ha h2 hs
  have hu2 := fun w (hs : Spans w b off n A R) => countEnded_any a b off n c A R b2 w ha h2 hs
  rw [ended_fgt hS hE] at hu1 hu2
  obtain ⟨f1, e1⟩ : ∃ f, fgt A R b1 n = f := ⟨_, rfl⟩
  obtain ⟨f2, e2⟩ : ∃ f, fgt A R b2 n = f := ⟨_, rfl⟩
  have l1 : f1 ≤ n := by rw [← e1]; exact fgt_le A R b1 n
  have l2 : f2 ≤ n := by rw [← e2]; exact fgt_le A R b2 n
  rw [e1] at hu1
  rw [e2] at hu2
  have hf1 := fun p g w hp hv hpg => forget_once p g n f1 A R b1 w e1 hp hv hpg h2 hS hr0 (by omega)
  have hf2 := fun p g w hp hv hpg => forget_again p g n f1 f2 A R b1 b2 w hr1 e1 e2 hp hv hpg h2 hS (by omega) hr2
  have hf3 := fun p g w hp hv hpg => forget_once p g n f2 A R b2 w e2 hp hv hpg h2 hS (by omega) hr2
  have hm := fun x y g w hx hv hs => same_any x a g (0 + f2 * 5) (n - f2) y b off n c f2 A R w hx ha h2 l2 rfl (Vals.tail hv l2) hs
  clear hs hS hE e1 e2
  go_enter Try.func6, Try.ntmps6
  go_wp2_with (first | (go_at_call 26; refine (hb _).mono ?_; rintro e w' ⟨rfl, rfl⟩) | (go_at_call 12; refine (hc1 _ S0.out).mono ?_; rintro e w1 ⟨rfl, hb1⟩) | (go_at_call 24; refine (hc2 _ (S0.out.later hb1)).mono ?_; rintro e w2 ⟨rfl, hb2⟩) | (go_at_call 14; refine (build_any _ b off n c A R _ ha h2 ((S0.out.later hb1).later hb2)).mono ?_; rintro e w3 ⟨rfl, hv3, hb3⟩))
  have B3 : Hid (Below w'.heap.size w' w3) := below_then (below_then hb1 hb2) hb3
  have sz2 : w'.heap.size ≤ w2.heap.size := (below_then hb1 hb2).size
  have P3 := Ptr.new w3 w2.heap.size n h2
  have V3 : Vals (w3.alloc (.cells #[.slice (some ⟨w2.heap.size, 0, none⟩) n n] 33)) w2.heap.size 0 n A R := hv3.later (below_new _ _)
  have n3 : w2.heap.size < w3.heap.size := hv3.1
  have B3' : Hid (Below w'.heap.size w' (w3.alloc (.cells #[.slice (some ⟨w2.heap.size, 0, none⟩) n n] 33))) := below_then B3.out (below_new _ _)
  clear hv3 hb1 hb2 hb3
  refine (hf1 _ _ _ P3 V3 (by omega)).mono ?_
  rintro e w4 ⟨rfl, P4, g4⟩
  have V4 : Hid (Vals w4 w2.heap.size 0 n A R) := V3.kept g4 (by omega)
  have B4 : Hid (Below w'.heap.size w' w4) := below_grown B3'.out g4 (by omega)
  have P4' : Hid (Ptr w4 w3.heap.size w2.heap.size (0 + f1 * 5) (n - f1)) := P4
  clear P3 V3 g4 B3 B3' P4
  go_wp2_with fail
  refine (hf2 _ _ _ P4'.out V4.out (by omega)).mono ?_
  rintro e w5 ⟨rfl, P5, g5⟩
  have V5 : Hid (Vals w5 w2.heap.size 0 n A R) := V4.out.kept g5 (by omega)
  have B5 : Hid (Below w'.heap.size w' w5) := below_grown B4.out g5 (by omega)
  have P5' : Hid (Ptr w5 w3.heap.size w2.heap.size (0 + f2 * 5) (n - f2)) := P5
  have z5 : w3.heap.size < w5.heap.size := P5.1
  clear P4' V4 g5 B4 P5
  go_wp2_with fail
  refine (build_any _ b off n c A R _ ha h2 (S0.out.later B5.out)).mono ?_
  rintro e w6 ⟨rfl, hv6, hb6⟩
  have z6 : w5.heap.size < w6.heap.size := hv6.1
  have P6 := Ptr.new w6 w5.heap.size n h2
  have V6 : Vals (w6.alloc (.cells #[.slice (some ⟨w5.heap.size, 0, none⟩) n n] 33)) w5.heap.size 0 n A R := hv6.later (below_new _ _)
  have U6 : Vals (w6.alloc (.cells #[.slice (some ⟨w5.heap.size, 0, none⟩) n n] 33)) w2.heap.size 0 n A R := (V5.out.later hb6).later (below_new _ _)
  have Q6 : Ptr (w6.alloc (.cells #[.slice (some ⟨w5.heap.size, 0, none⟩) n n] 33)) w3.heap.size w2.heap.size (0 + f2 * 5) (n - f2) := (P5'.out.later hb6).later (below_new _ _)
  have B6 : Below w'.heap.size w' (w6.alloc (.cells #[.slice (some ⟨w5.heap.size, 0, none⟩) n n] 33)) := below_then (below_then B5.out hb6) (below_new _ _)
  have HP6 : Hid _ := P6
  have HV6 : Hid _ := V6
  have HU6 : Hid _ := U6
  have HQ6 : Hid _ := Q6
  have HB6 : Hid _ := B6
  clear P6 V6 U6 Q6 B6 hv6 hb6 P5' V5 B5
  go_wp2_with fail
  refine (hf3 _ _ _ HP6.out HV6.out (by omega)).mono ?_
  rintro e w7 ⟨rfl, P7, g7⟩
  have V7 : Hid (Vals w7 w5.heap.size 0 n A R) := Vals.kept HV6.out g7 (by omega)
  have U7 : Hid (Vals w7 w2.heap.size 0 n A R) := Vals.kept HU6.out g7 (by omega)
  have Q7 : Hid (Ptr w7 w3.heap.size w2.heap.size (0 + f2 * 5) (n - f2)) := Ptr.kept HQ6.out g7 (by omega)
  have B7 : Hid (Below w'.heap.size w' w7) := below_grown HB6.out g7 (by omega)
  have P7' : Hid (Ptr w7 w6.heap.size w5.heap.size (0 + f2 * 5) (n - f2)) := P7
  have S7 : Hid (Spans w7 b off n A R) := S0.out.later B7.out
  clear HP6 HV6 HU6 HQ6 HB6 P7 g7
  go_wp2_with fail
  refine (hu1 _ S7.out).mono ?_
  rintro e w8 ⟨rfl, rfl⟩
  go_wp2_with fail
  refine (hu2 _ S7.out).mono ?_
  rintro e w9 ⟨rfl, rfl⟩
  obtain ⟨_, _, x1, y1, q1, _, _, q2⟩ := Q7.out
  go_wp2_with fail
  refine (hm _ _ _ _ q2 U7.out S7.out).mono ?_
  rintro e w10 ⟨rfl, hb10⟩
  obtain ⟨_, _, x2, y2, t1, _, _, t2⟩ := P7'.out.later hb10
  have V10 : Hid (Vals w10 w5.heap.size 0 n A R) := V7.out.later hb10
  have S10 : Hid (Spans w10 b off n A R) := S7.out.later hb10
  go_wp2_with fail
  refine (hm _ _ _ _ t2 V10.out S10.out).mono ?_
  rintro e w11 ⟨rfl, hb11⟩
  go_wp2
  go_ret
  exact ⟨rfl, below_then (below_then B7.out hb10) hb11⟩

theorem walk (a : Option Addr) (b off n c : Nat) (A R : Nat → Int) (r1 r2 : Int) (w : World) (ha : 0 < n → a = some ⟨b, off, none⟩) (hnc : n ≤ c) (hn : c ≤ maxLen) (hac : a = none → c = 0) (hs : Spans w b off n A R)
    (hk1 : 0 ≤ r1) (hk2 : r1 ≤ 18446744073709551615) (hr0 : 0 ≤ r2) (hr1 : r2 ≤ 18446744073709551615) :
    Calls Try.prog 6 #[.slice a n c, .int .u64 r1, .int .u64 r2] w fun e w' => e = .returned (.bool true) ∧ Below w.heap.size w w' := by
  have hb := fun w => bytes26 a n c r1 r2 w (by omega)
  unfold maxLen at hn
  by_cases h1 : n ≤ 1048576
  · have hd : decide (n ≤ 1048576) = true := decide_eq_true h1
    rw [hd] at hb
    clear hd
    by_cases h2 : n ≤ 65536
    · by_cases h5 : r1 = 18446744073709551615
      · have h6 : (r1 == 18446744073709551615) = true := by simp [h5]
        clear h5
        go_enter Try.func6, Try.ntmps6
        go_wp2_with (go_at_call 26; refine (hb _).mono ?_; rintro e w' ⟨rfl, rfl⟩)
        go_ret
        exact ⟨rfl, Below.refl _ _⟩
      · have h6 : (r1 == 18446744073709551615) = false := by simp [h5]
        by_cases h7 : r2 = 18446744073709551615
        · have h8 : (r2 == 18446744073709551615) = true := by simp [h7]
          clear h7 h5
          go_enter Try.func6, Try.ntmps6
          go_wp2_with (go_at_call 26; refine (hb _).mono ?_; rintro e w' ⟨rfl, rfl⟩)
          go_ret
          exact ⟨rfl, Below.refl _ _⟩
        · have h8 : (r2 == 18446744073709551615) = false := by simp [h7]
          by_cases h9 : r2 < r1
          · clear h5 h7
            go_enter Try.func6, Try.ntmps6
            go_wp2_with (go_at_call 26; refine (hb _).mono ?_; rintro e w' ⟨rfl, rfl⟩)
            go_ret
            exact ⟨rfl, Below.refl _ _⟩
          · by_cases hS : Srt A n
            · by_cases hE : Plain.Ends A R n
              · exact walk_main a b off n c A R r1 r2 w ha hnc hn h2 hs hk1 (by omega) (by omega) h6 h8 hb hS hE
              · have hc1 := fun w (hs : Spans w b off n A R) => sorted_yes a b off n c A R w ha h2 hs hS
                have hc2 := fun w (hs : Spans w b off n A R) => ends_no a b off n c A R w ha h2 hs hE
                clear hS hE h5 h7
                go_enter Try.func6, Try.ntmps6
                go_wp2_with (first | (go_at_call 26; refine (hb _).mono ?_; rintro e w' ⟨rfl, rfl⟩) | (go_at_call 12; refine (hc1 _ hs).mono ?_; rintro e w1 ⟨rfl, hb1⟩) | (go_at_call 24; refine (hc2 _ (hs.later hb1)).mono ?_; rintro e w2 ⟨rfl, hb2⟩))
                go_ret
                exact ⟨rfl, below_then hb1 hb2⟩
            · have hc1 := fun w (hs : Spans w b off n A R) => sorted_no a b off n c A R w ha h2 hs hS
              clear hS h5 h7
              go_enter Try.func6, Try.ntmps6
              go_wp2_with (first | (go_at_call 26; refine (hb _).mono ?_; rintro e w' ⟨rfl, rfl⟩) | (go_at_call 12; refine (hc1 _ hs).mono ?_; rintro e w1 ⟨rfl, hb1⟩))
              go_ret
              exact ⟨rfl, hb1⟩
    · go_enter Try.func6, Try.ntmps6
      go_wp2_with (go_at_call 26; refine (hb _).mono ?_; rintro e w' ⟨rfl, rfl⟩)
      go_ret
      exact ⟨rfl, Below.refl _ _⟩
  · have hd : decide (n ≤ 1048576) = false := decide_eq_false h1
    rw [hd] at hb
    clear hd
    go_enter Try.func6, Try.ntmps6
    go_wp2_with (go_at_call 26; refine (hb _).mono ?_; rintro e w' ⟨rfl, rfl⟩)
    go_ret
    exact ⟨rfl, Below.refl _ _⟩

/-! ### THE ROW's STEP -/
set_option maxRecDepth 100000 in
theorem lifted (os : Os) (started : os.Started) (H : Type) (enc : TypeId × Value → H) :
    ReturnsInHanded {} Try.checked os 6 .any (Rows.fnForgetTwiceIsForgetAtTheLaterSpec.pre6 enc Try.prog Try.f6 Rows.fnForgetTwiceIsForgetAtTheLaterRow.domain false) (Rows.fnForgetTwiceIsForgetAtTheLaterSpec.post enc Try.prog Try.f6 false true false false) := by
  refine returnsInHanded_of_change (C := Try.checked) own started (by kernel_rfl) Try.func6
    (ChangeSpec.witness6 (enc := enc) (C := Try.checked) false ⟨#[], #[.slice none 0 0, .int .u64 0, .int .u64 0], []⟩ 8 (by kernel_rfl) (by kernel_rfl) (by kernel_rfl) (by kernel_rfl)) ?_
  intro W base args ds gs before hval0 hW hcnd _
  have hval : ∀ (j : Nat) t v, Try.f6.params[j]? = some t → args[j]? = some v → Value.okWide Try.prog W .any base t v := hval0
  have hW' := hW
  obtain ⟨p, q, hA0, hV, rfl, hfz, hnd⟩ := hW
  have hA : DataW.TrodAll enc Try.prog W 0 (fun _ => true) true Try.f6.params.toList args.toList ds p := hA0
  rw [Try.params6] at hA hval
  obtain ⟨v0, vs0, d0, ds0, p0, q0, hargs, rfl, rfl, h0, r0⟩ := trodAll_cons hA
  obtain ⟨v1, vs1, d1, ds1, p1, q1, rfl, rfl, rfl, h1, r1⟩ := trodAll_cons r0
  obtain ⟨v2, vs2, d2, ds2, p2, q2, rfl, rfl, rfl, h2, r2⟩ := trodAll_cons r1
  obtain ⟨rfl, rfl, rfl⟩ := trodAll_nil r2
  obtain rfl : args = #[v0, v1, v2] := by cases args; simp_all
  obtain ⟨rfl, rfl⟩ := trodVars_none hV
  obtain ⟨a0, len0, cap0, rfl⟩ := okWide_slice Try.underlying22 (hval 0 22 v0 rfl rfl)
  have k0 := h0
  have lt0 : ∀ x ∈ p0, x.block < W.heap.size := by obtain ⟨m, hm⟩ := k0; exact DataW.trod_lt m _ _ _ hm
  obtain ⟨b, off, A, R, w0a, w0b, w0c, w0d, w0e⟩ : ∃ (b off : Nat) (A R : Nat → Int), (0 < len0 → a0 = some ⟨b, off, none⟩) ∧ len0 ≤ cap0 ∧ cap0 ≤ maxLen ∧ (a0 = none → cap0 = 0) ∧ Spans W b off len0 A R := by
    obtain ⟨fuel, hf⟩ := h0
    exact open_spans hf
  obtain ⟨x1, rfl, rfl, rfl, wx1⟩ := open_int Try.underlying23 (hval 1 23 v1 rfl rfl) h1
  obtain ⟨x2, rfl, rfl, rfl, wx2⟩ := open_int Try.underlying23 (hval 2 23 v2 rfl rfl) h2
  have bd1 := bounds_u64 wx1
  have bd2 := bounds_u64 wx2
  clear hA0 hval0
  refine (walk a0 b off len0 cap0 A R x1 x2 W w0a w0b w0c w0d w0e (by omega) (by omega) (by omega) (by omega)).mono fun e W' ⟨he, bel⟩ => ?_
  subst he
  exact ⟨_, rfl, _, _, _, [], _, [], hW', trodAll_mk1 (shut_bool Try.underlying4 _), (trodAll_cons_mk (Below.trod laidOut (by kernel_rfl) (of_decide_eq_true (by kernel_rfl)) k0 bel lt0) (trodAll_cons_mk (shut_int Try.underlying23 wx1) (trodAll_cons_mk (shut_int Try.underlying23 wx2) trodAll_mk0))), rfl, bel.frame _, fun h => by cases h⟩

theorem over : Rows.fnForgetTwiceIsForgetAtTheLaterRow.holds Try.pinned (OpenSpec.ofChange Rows.fnForgetTwiceIsForgetAtTheLaterSpec) :=
  OpenClaim.holds_of_wide 6 Try.f6 rfl rfl rfl rfl rfl rfl rfl ⟨rfl, rfl, rfl, rfl, rfl⟩ rfl rfl rfl rfl rfl (by kernel_rfl) Try.func6 (by kernel_rfl)
    (of_decide_eq_true (by kernel_rfl)) (by unfold Func.isWrapper; first | (rw [if_pos (by decide +kernel)]; kernel_rfl) | (rw [if_neg (by decide +kernel)]; exact ⟨rfl, rfl⟩))
    (fun os started H enc _ => lifted os started H enc)

/-- ████ THE STATEMENT ████ -/
theorem proved : Rows.FnForgetTwiceIsForgetAtTheLaterSaid := over
#print axioms proved
end Go.Proofs.Qxb6617005a.fnForgetTwiceIsForgetAtTheLater
