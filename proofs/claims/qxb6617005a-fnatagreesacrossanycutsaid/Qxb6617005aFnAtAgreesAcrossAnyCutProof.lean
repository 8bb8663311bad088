import Derived.Test.Qxb6617005aZero
namespace Go.Proofs.Qxb6617005a.fnAtAgreesAcrossAnyCut
open Go.ChangeShapes Go.WideShapes Go.ChangeAt Go.RowKit
open Go.Proofs.Qxb6617005a.Plain Go.Proofs.Qxb6617005a.W
set_option linter.unusedVariables false

set_option maxHeartbeats 1000000 in
theorem walk_tail (a : Option Addr) (b off n c : Nat) (A R : Nat → Int) (kn : Nat) (r : Int) (w : World) (ha : 0 < n → a = some ⟨b, off, none⟩) (hnc : n ≤ c) (hn : c ≤ 9223372036854775807) (h2 : n ≤ 65536) (h4 : kn < n) (hak : A kn ≤ r) (hs : Spans w b off n A R)
    (hr0 : 0 ≤ r) (hr2 : r < 18446744073709551615) (h6 : (r == 18446744073709551615) = false) (hb : ∀ w, Calls Try.prog 27 #[.slice a n c, .int .i64 kn, .int .u64 r] w fun e w' => e = .returned (.bool true) ∧ w' = w) (hS : Srt A n) :
    Calls Try.prog 7 #[.slice a n c, .int .i64 kn, .int .u64 r] w fun e w' => e = .returned (.bool true) ∧ Below w.heap.size w w' := by
  have hc1 := fun w (hs : Spans w b off n A R) => sorted_yes a b off n c A R w ha h2 hs hS
  have S0 : Hid (Spans w b off n A R) := hs
  have hw1 := fun g w (hv : Vals w g 0 n A R) => at_any (some ⟨g, 0, none⟩) g 0 n n A R r w (fun _ => rfl) h2 hv hS hr0 hr2
  have hw2 := fun g c w (hv : Vals w g 0 n A R) => at_any (some ⟨g, 0 + kn * 5, none⟩) g (0 + kn * 5) (n - kn) c (fun i => A (kn + i)) (fun i => R (kn + i)) r w (fun _ => rfl) (by omega) (hv.tail (by omega)) (srt_shift hS) hr0 hr2
  have hu1 := fun w (hs : Spans w b off n A R) => stands_any a b off n c A R r w ha h2 hs hS
  rw [at_tail hS h4 hak] at hw2
  simp only [Nat.zero_add] at hw2
  generalize atB A R r n = ans at *
  obtain rfl := ha (by omega)
  clear hs hS
  go_enter Try.func7, Try.ntmps7
  go_wp2_with (first | (go_at_call 27; refine (hb _).mono ?_; rintro e w' ⟨rfl, rfl⟩) | (go_at_call 12; refine (hc1 _ S0.out).mono ?_; rintro e w1 ⟨rfl, hb1⟩; have hb1' := hb1.alloc (by simpa using hb1.size) (.cells #[.int .u8 0, .bool false, .nilIface] 31)) | (go_at_call 14; refine (build_any _ b off n c A R _ (fun _ => rfl) h2 (S0.out.later hb1')).mono ?_; rintro e w2 ⟨rfl, hv2, hb2⟩))
  have V2 : Hid (Vals w2 (w1.heap.size + 1) 0 n A R) := hv2.at (World.size_alloc _ _)
  have Z2 : Hid (Z3 w2 w1.heap.size) := (Z3.new w1).later hb2
  have HB2 : Hid (Below w'.heap.size w' w2) := below_then hb1' hb2
  clear hv2 hb2 hb1 hb1'
  refine (hw1 _ _ V2.out).mono ?_
  rintro e w3 ⟨rfl, hb3⟩
  have HB3 : Hid (Below w'.heap.size w' w3) := below_then HB2.out hb3
  have S3 : Hid (Spans w3 b off n A R) := S0.out.later HB3.out
  have c0 := S3.out.2.1 kn h4
  have hbs := S3.out.1 (by omega)
  have HB4 : Hid (Below w3.heap.size w3 ((w3.alloc (.cells #[.int .u8 0, .bool false, .nilIface] 31)).alloc (.cells #[.int .u8 0, .bool false, .nilIface] 31))) := below_then (below_new _ _) (below_new _ _)
  have V4 : Hid (Vals ((w3.alloc (.cells #[.int .u8 0, .bool false, .nilIface] 31)).alloc (.cells #[.int .u8 0, .bool false, .nilIface] 31)) (w1.heap.size + 1) 0 n A R) := (V2.out.later hb3).later HB4.out
  have Z4 : Hid (Z3 ((w3.alloc (.cells #[.int .u8 0, .bool false, .nilIface] 31)).alloc (.cells #[.int .u8 0, .bool false, .nilIface] 31)) w1.heap.size) := (Z2.out.later hb3).later HB4.out
  have Y4 : Hid (Z3 ((w3.alloc (.cells #[.int .u8 0, .bool false, .nilIface] 31)).alloc (.cells #[.int .u8 0, .bool false, .nilIface] 31)) w3.heap.size) := (Z3.new w3).later (below_new _ _)
  have X4 : Hid (Z3 ((w3.alloc (.cells #[.int .u8 0, .bool false, .nilIface] 31)).alloc (.cells #[.int .u8 0, .bool false, .nilIface] 31)) (w3.heap.size + 1)) := (Z3.new _).at (World.size_alloc _ _)
  go_wp2_with fail
  refine (hw2 _ _ _ V4.out).mono ?_
  rintro e w5 ⟨rfl, hb5⟩
  have HB5 : Hid (Below w'.heap.size w' w5) := below_then (below_then HB3.out HB4.out) hb5
  have S5 : Hid (Spans w5 b off n A R) := S0.out.later HB5.out
  have Z5 : Hid (Z3 w5 w1.heap.size) := Z4.out.later hb5
  have Y5 : Hid (Z3 w5 w3.heap.size) := Y4.out.later hb5
  have X5 : Hid (Z3 w5 (w3.heap.size + 1)) := X4.out.later hb5
  have hle : w1.heap.size < w3.heap.size := (Z2.out.later hb3).2.2.2.2.2.2
  obtain ⟨x0, x1, x2, x3, x4, x5, x6⟩ := X5.out
  clear hb5 c0 hbs
  go_wp2_with fail
  have HB6 : Hid (Below w'.heap.size w' (((w5.setCell ⟨w3.heap.size + 1, 0, none⟩ (.int .u8 0)).setCell ⟨w3.heap.size + 1, 1, none⟩ (.bool false)).setCell ⟨w3.heap.size + 1, 2, none⟩ .nilIface)) := set3_below HB5.out (Nat.le_succ_of_le HB3.out.size) _ _ _ _ _ _
  have Z6 := Z5.out.set_other (g := w3.heap.size + 1) (by omega) (.int .u8 0) (.bool false) .nilIface
  have Y6 := Y5.out.set_other (g := w3.heap.size + 1) (by omega) (.int .u8 0) (.bool false) .nilIface
  have X6 := X5.out.set_same
  clear x0 x1 x2 x3 x4 x5 x6 X5 Y5 Z5
  generalize (((w5.setCell ⟨w3.heap.size + 1, 0, none⟩ (.int .u8 0)).setCell ⟨w3.heap.size + 1, 1, none⟩ (.bool false)).setCell ⟨w3.heap.size + 1, 2, none⟩ .nilIface) = w6 at HB6 Z6 Y6 X6 ⊢
  refine (hu1 _ (S0.out.later HB6.out)).mono ?_
  rintro e w7 ⟨rfl, rfl⟩
  obtain ⟨z0, z1, z2, z3, z4, z5, z6⟩ := Z6
  obtain ⟨y0, y1, y2, y3, y4, y5, y6⟩ := Y6
  obtain ⟨x0, x1, x2, x3, x4, x5, x6⟩ := X6
  have hq := eq_zero
  go_wp2
  go_ret
  exact ⟨rfl, HB6.out⟩

set_option maxHeartbeats 1000000 in
theorem walk_head (a : Option Addr) (b off n c : Nat) (A R : Nat → Int) (kn : Nat) (r : Int) (w : World) (ha : 0 < n → a = some ⟨b, off, none⟩) (hnc : n ≤ c) (hn : c ≤ 9223372036854775807) (h2 : n ≤ 65536) (h4 : kn < n) (hak : r < A kn) (hs : Spans w b off n A R)
    (hr0 : 0 ≤ r) (hr2 : r < 18446744073709551615) (h6 : (r == 18446744073709551615) = false) (hb : ∀ w, Calls Try.prog 27 #[.slice a n c, .int .i64 kn, .int .u64 r] w fun e w' => e = .returned (.bool true) ∧ w' = w) (hS : Srt A n) :
    Calls Try.prog 7 #[.slice a n c, .int .i64 kn, .int .u64 r] w fun e w' => e = .returned (.bool true) ∧ Below w.heap.size w w' := by
  have hc1 := fun w (hs : Spans w b off n A R) => sorted_yes a b off n c A R w ha h2 hs hS
  have S0 : Hid (Spans w b off n A R) := hs
  have hw1 := fun g w (hv : Vals w g 0 n A R) => at_any (some ⟨g, 0, none⟩) g 0 n n A R r w (fun _ => rfl) h2 hv hS hr0 hr2
  have hw2 := fun g w (hv : Vals w g 0 n A R) => at_any (some ⟨g, 0, none⟩) g 0 kn n A R r w (fun _ => rfl) (by omega) (hv.head (by omega)) (srt_less hS (by omega)) hr0 hr2
  have hu1 := fun w (hs : Spans w b off n A R) => stands_any a b off n c A R r w ha h2 hs hS
  rw [at_head hS (by omega) (fun _ => hak)] at hw2
  generalize atB A R r n = ans at *
  obtain rfl := ha (by omega)
  clear hs hS
  go_enter Try.func7, Try.ntmps7
  go_wp2_with (first | (go_at_call 27; refine (hb _).mono ?_; rintro e w' ⟨rfl, rfl⟩) | (go_at_call 12; refine (hc1 _ S0.out).mono ?_; rintro e w1 ⟨rfl, hb1⟩; have hb1' := hb1.alloc (by simpa using hb1.size) (.cells #[.int .u8 0, .bool false, .nilIface] 31)) | (go_at_call 14; refine (build_any _ b off n c A R _ (fun _ => rfl) h2 (S0.out.later hb1')).mono ?_; rintro e w2 ⟨rfl, hv2, hb2⟩))
  have V2 : Hid (Vals w2 (w1.heap.size + 1) 0 n A R) := hv2.at (World.size_alloc _ _)
  have Z2 : Hid (Z3 w2 w1.heap.size) := (Z3.new w1).later hb2
  have HB2 : Hid (Below w'.heap.size w' w2) := below_then hb1' hb2
  clear hv2 hb2 hb1 hb1'
  refine (hw1 _ _ V2.out).mono ?_
  rintro e w3 ⟨rfl, hb3⟩
  have HB3 : Hid (Below w'.heap.size w' w3) := below_then HB2.out hb3
  have S3 : Hid (Spans w3 b off n A R) := S0.out.later HB3.out
  have c0 := S3.out.2.1 kn h4
  have hbs := S3.out.1 (by omega)
  have HB4 : Hid (Below w3.heap.size w3 ((w3.alloc (.cells #[.int .u8 0, .bool false, .nilIface] 31)).alloc (.cells #[.int .u8 0, .bool false, .nilIface] 31))) := below_then (below_new _ _) (below_new _ _)
  have V4 : Hid (Vals ((w3.alloc (.cells #[.int .u8 0, .bool false, .nilIface] 31)).alloc (.cells #[.int .u8 0, .bool false, .nilIface] 31)) (w1.heap.size + 1) 0 n A R) := (V2.out.later hb3).later HB4.out
  have Z4 : Hid (Z3 ((w3.alloc (.cells #[.int .u8 0, .bool false, .nilIface] 31)).alloc (.cells #[.int .u8 0, .bool false, .nilIface] 31)) w1.heap.size) := (Z2.out.later hb3).later HB4.out
  have Y4 : Hid (Z3 ((w3.alloc (.cells #[.int .u8 0, .bool false, .nilIface] 31)).alloc (.cells #[.int .u8 0, .bool false, .nilIface] 31)) w3.heap.size) := (Z3.new w3).later (below_new _ _)
  have X4 : Hid (Z3 ((w3.alloc (.cells #[.int .u8 0, .bool false, .nilIface] 31)).alloc (.cells #[.int .u8 0, .bool false, .nilIface] 31)) (w3.heap.size + 1)) := (Z3.new _).at (World.size_alloc _ _)
  go_wp2_with fail
  refine (hw2 _ _ V4.out).mono ?_
  rintro e w5 ⟨rfl, hb5⟩
  have HB5 : Hid (Below w'.heap.size w' w5) := below_then (below_then HB3.out HB4.out) hb5
  have S5 : Hid (Spans w5 b off n A R) := S0.out.later HB5.out
  have Z5 : Hid (Z3 w5 w1.heap.size) := Z4.out.later hb5
  have Y5 : Hid (Z3 w5 w3.heap.size) := Y4.out.later hb5
  have X5 : Hid (Z3 w5 (w3.heap.size + 1)) := X4.out.later hb5
  have hle : w1.heap.size < w3.heap.size := (Z2.out.later hb3).2.2.2.2.2.2
  obtain ⟨x0, x1, x2, x3, x4, x5, x6⟩ := X5.out
  clear hb5 c0 hbs
  go_wp2_with fail
  have HB6 : Hid (Below w'.heap.size w' (((w5.setCell ⟨w3.heap.size + 1, 0, none⟩ (.int .u8 0)).setCell ⟨w3.heap.size + 1, 1, none⟩ (.bool false)).setCell ⟨w3.heap.size + 1, 2, none⟩ .nilIface)) := set3_below HB5.out (Nat.le_succ_of_le HB3.out.size) _ _ _ _ _ _
  have Z6 := Z5.out.set_other (g := w3.heap.size + 1) (by omega) (.int .u8 0) (.bool false) .nilIface
  have Y6 := Y5.out.set_other (g := w3.heap.size + 1) (by omega) (.int .u8 0) (.bool false) .nilIface
  have X6 := X5.out.set_same
  clear x0 x1 x2 x3 x4 x5 x6 X5 Y5 Z5
  generalize (((w5.setCell ⟨w3.heap.size + 1, 0, none⟩ (.int .u8 0)).setCell ⟨w3.heap.size + 1, 1, none⟩ (.bool false)).setCell ⟨w3.heap.size + 1, 2, none⟩ .nilIface) = w6 at HB6 Z6 Y6 X6 ⊢
  refine (hu1 _ (S0.out.later HB6.out)).mono ?_
  rintro e w7 ⟨rfl, rfl⟩
  obtain ⟨z0, z1, z2, z3, z4, z5, z6⟩ := Z6
  obtain ⟨y0, y1, y2, y3, y4, y5, y6⟩ := Y6
  obtain ⟨x0, x1, x2, x3, x4, x5, x6⟩ := X6
  have hq := eq_zero
  go_wp2
  go_ret
  exact ⟨rfl, HB6.out⟩

set_option maxHeartbeats 1000000 in
theorem walk_full (a : Option Addr) (b off n c : Nat) (A R : Nat → Int) (r : Int) (w : World) (ha : 0 < n → a = some ⟨b, off, none⟩) (hnc : n ≤ c) (hn : c ≤ 9223372036854775807) (h2 : n ≤ 65536) (hs : Spans w b off n A R)
    (hr0 : 0 ≤ r) (hr2 : r < 18446744073709551615) (h6 : (r == 18446744073709551615) = false) (hb : ∀ w, Calls Try.prog 27 #[.slice a n c, .int .i64 n, .int .u64 r] w fun e w' => e = .returned (.bool true) ∧ w' = w) (hS : Srt A n) :
    Calls Try.prog 7 #[.slice a n c, .int .i64 n, .int .u64 r] w fun e w' => e = .returned (.bool true) ∧ Below w.heap.size w w' := by
  have hc1 := fun w (hs : Spans w b off n A R) => sorted_yes a b off n c A R w ha h2 hs hS
  have S0 : Hid (Spans w b off n A R) := hs
  have hw1 := fun g w (hv : Vals w g 0 n A R) => at_any (some ⟨g, 0, none⟩) g 0 n n A R r w (fun _ => rfl) h2 hv hS hr0 hr2
  have hw2 := fun g w (hv : Vals w g 0 n A R) => at_any (some ⟨g, 0, none⟩) g 0 n n A R r w (fun _ => rfl) (by omega) (hv.head (by omega)) (srt_less hS (by omega)) hr0 hr2
  have hu1 := fun w (hs : Spans w b off n A R) => stands_any a b off n c A R r w ha h2 hs hS
  generalize atB A R r n = ans at *
  clear hs hS
  go_enter Try.func7, Try.ntmps7
  go_wp2_with (first | (go_at_call 27; refine (hb _).mono ?_; rintro e w' ⟨rfl, rfl⟩) | (go_at_call 12; refine (hc1 _ S0.out).mono ?_; rintro e w1 ⟨rfl, hb1⟩; have hb1' := hb1.alloc (by simpa using hb1.size) (.cells #[.int .u8 0, .bool false, .nilIface] 31)) | (go_at_call 14; refine (build_any _ b off n c A R _ ha h2 (S0.out.later hb1')).mono ?_; rintro e w2 ⟨rfl, hv2, hb2⟩))
  have V2 : Hid (Vals w2 (w1.heap.size + 1) 0 n A R) := hv2.at (World.size_alloc _ _)
  have Z2 : Hid (Z3 w2 w1.heap.size) := (Z3.new w1).later hb2
  have HB2 : Hid (Below w'.heap.size w' w2) := below_then hb1' hb2
  clear hv2 hb2 hb1 hb1'
  refine (hw1 _ _ V2.out).mono ?_
  rintro e w3 ⟨rfl, hb3⟩
  have HB3 : Hid (Below w'.heap.size w' w3) := below_then HB2.out hb3
  have S3 : Hid (Spans w3 b off n A R) := S0.out.later HB3.out
  have HB4 : Hid (Below w3.heap.size w3 ((w3.alloc (.cells #[.int .u8 0, .bool false, .nilIface] 31)).alloc (.cells #[.int .u8 0, .bool false, .nilIface] 31))) := below_then (below_new _ _) (below_new _ _)
  have V4 : Hid (Vals ((w3.alloc (.cells #[.int .u8 0, .bool false, .nilIface] 31)).alloc (.cells #[.int .u8 0, .bool false, .nilIface] 31)) (w1.heap.size + 1) 0 n A R) := (V2.out.later hb3).later HB4.out
  have Z4 : Hid (Z3 ((w3.alloc (.cells #[.int .u8 0, .bool false, .nilIface] 31)).alloc (.cells #[.int .u8 0, .bool false, .nilIface] 31)) w1.heap.size) := (Z2.out.later hb3).later HB4.out
  have Y4 : Hid (Z3 ((w3.alloc (.cells #[.int .u8 0, .bool false, .nilIface] 31)).alloc (.cells #[.int .u8 0, .bool false, .nilIface] 31)) w3.heap.size) := (Z3.new w3).later (below_new _ _)
  have X4 : Hid (Z3 ((w3.alloc (.cells #[.int .u8 0, .bool false, .nilIface] 31)).alloc (.cells #[.int .u8 0, .bool false, .nilIface] 31)) (w3.heap.size + 1)) := (Z3.new _).at (World.size_alloc _ _)
  go_wp2_with fail
  refine (hw2 _ _ V4.out).mono ?_
  rintro e w5 ⟨rfl, hb5⟩
  have HB5 : Hid (Below w'.heap.size w' w5) := below_then (below_then HB3.out HB4.out) hb5
  have S5 : Hid (Spans w5 b off n A R) := S0.out.later HB5.out
  have Z5 : Hid (Z3 w5 w1.heap.size) := Z4.out.later hb5
  have Y5 : Hid (Z3 w5 w3.heap.size) := Y4.out.later hb5
  have X5 : Hid (Z3 w5 (w3.heap.size + 1)) := X4.out.later hb5
  have hle : w1.heap.size < w3.heap.size := (Z2.out.later hb3).2.2.2.2.2.2
  obtain ⟨x0, x1, x2, x3, x4, x5, x6⟩ := X5.out
  clear hb5
  go_wp2_with fail
  have HB6 : Hid (Below w'.heap.size w' (((w5.setCell ⟨w3.heap.size + 1, 0, none⟩ (.int .u8 0)).setCell ⟨w3.heap.size + 1, 1, none⟩ (.bool false)).setCell ⟨w3.heap.size + 1, 2, none⟩ .nilIface)) := set3_below HB5.out (Nat.le_succ_of_le HB3.out.size) _ _ _ _ _ _
  have Z6 := Z5.out.set_other (g := w3.heap.size + 1) (by omega) (.int .u8 0) (.bool false) .nilIface
  have Y6 := Y5.out.set_other (g := w3.heap.size + 1) (by omega) (.int .u8 0) (.bool false) .nilIface
  have X6 := X5.out.set_same
  clear x0 x1 x2 x3 x4 x5 x6 X5 Y5 Z5
  generalize (((w5.setCell ⟨w3.heap.size + 1, 0, none⟩ (.int .u8 0)).setCell ⟨w3.heap.size + 1, 1, none⟩ (.bool false)).setCell ⟨w3.heap.size + 1, 2, none⟩ .nilIface) = w6 at HB6 Z6 Y6 X6 ⊢
  refine (hu1 _ (S0.out.later HB6.out)).mono ?_
  rintro e w7 ⟨rfl, rfl⟩
  obtain ⟨z0, z1, z2, z3, z4, z5, z6⟩ := Z6
  obtain ⟨y0, y1, y2, y3, y4, y5, y6⟩ := Y6
  obtain ⟨x0, x1, x2, x3, x4, x5, x6⟩ := X6
  have hq := eq_zero
  go_wp2
  go_ret
  exact ⟨rfl, HB6.out⟩

theorem walk (a : Option Addr) (b off n c : Nat) (A R : Nat → Int) (k r : Int) (w : World) (ha : 0 < n → a = some ⟨b, off, none⟩) (hnc : n ≤ c) (hn : c ≤ maxLen) (hac : a = none → c = 0) (hs : Spans w b off n A R)
    (hk1 : -9223372036854775808 ≤ k) (hk2 : k ≤ 9223372036854775807) (hr0 : 0 ≤ r) (hr1 : r ≤ 18446744073709551615) :
    Calls Try.prog 7 #[.slice a n c, .int .i64 k, .int .u64 r] w fun e w' => e = .returned (.bool true) ∧ Below w.heap.size w w' := by
  have hb := fun w => bytes27 a n c k r w (by omega)
  unfold maxLen at hn
  by_cases h1 : n ≤ 1048576
  · have hd : decide (n ≤ 1048576) = true := decide_eq_true h1
    rw [hd] at hb
    clear hd
    by_cases h2 : n ≤ 65536
    · by_cases h3 : k < 0
      · go_enter Try.func7, Try.ntmps7
        go_wp2_with (go_at_call 27; refine (hb _).mono ?_; rintro e w' ⟨rfl, rfl⟩)
        go_ret
        exact ⟨rfl, Below.refl _ _⟩
      · by_cases h4 : (n : Int) < k
        · go_enter Try.func7, Try.ntmps7
          go_wp2_with (go_at_call 27; refine (hb _).mono ?_; rintro e w' ⟨rfl, rfl⟩)
          go_ret
          exact ⟨rfl, Below.refl _ _⟩
        · by_cases h5 : r = 18446744073709551615
          · have h6 : (r == 18446744073709551615) = true := by simp [h5]
            clear h5
            go_enter Try.func7, Try.ntmps7
            go_wp2_with (go_at_call 27; refine (hb _).mono ?_; rintro e w' ⟨rfl, rfl⟩)
            go_ret
            exact ⟨rfl, Below.refl _ _⟩
          · have h6 : (r == 18446744073709551615) = false := by simp [h5]
            obtain ⟨kn, rfl⟩ := Int.eq_ofNat_of_zero_le (Int.not_lt.1 h3)
            by_cases hS : Srt A n
            · by_cases h7 : kn < n
              · by_cases h8 : A kn ≤ r
                · exact walk_tail a b off n c A R kn r w ha hnc hn h2 h7 h8 hs hr0 (by omega) h6 hb hS
                · exact walk_head a b off n c A R kn r w ha hnc hn h2 h7 (by omega) hs hr0 (by omega) h6 hb hS
              · obtain rfl : kn = n := by omega
                exact walk_full a b off kn c A R r w ha hnc hn h2 hs hr0 (by omega) h6 hb hS
            · have hc1 := fun w (hs : Spans w b off n A R) => sorted_no a b off n c A R w ha h2 hs hS
              clear hS h5
              go_enter Try.func7, Try.ntmps7
              go_wp2_with (first | (go_at_call 27; refine (hb _).mono ?_; rintro e w' ⟨rfl, rfl⟩) | (go_at_call 12; refine (hc1 _ hs).mono ?_; rintro e w1 ⟨rfl, hb1⟩))
              go_ret
              exact ⟨rfl, hb1⟩
    · go_enter Try.func7, Try.ntmps7
      go_wp2_with (go_at_call 27; refine (hb _).mono ?_; rintro e w' ⟨rfl, rfl⟩)
      go_ret
      exact ⟨rfl, Below.refl _ _⟩
  · have hd : decide (n ≤ 1048576) = false := decide_eq_false h1
    rw [hd] at hb
    clear hd
    go_enter Try.func7, Try.ntmps7
    go_wp2_with (go_at_call 27; refine (hb _).mono ?_; rintro e w' ⟨rfl, rfl⟩)
    go_ret
    exact ⟨rfl, Below.refl _ _⟩

/-! ### THE ROW's STEP -/
set_option maxRecDepth 100000 in
theorem lifted (os : Os) (started : os.Started) (H : Type) (enc : TypeId × Value → H) :
    ReturnsInHanded {} Try.checked os 7 .any (Rows.fnAtAgreesAcrossAnyCutSpec.pre6 enc Try.prog Try.f7 Rows.fnAtAgreesAcrossAnyCutRow.domain false) (Rows.fnAtAgreesAcrossAnyCutSpec.post enc Try.prog Try.f7 false true false false) := by
  refine returnsInHanded_of_change (C := Try.checked) own started (by kernel_rfl) Try.func7
    (ChangeSpec.witness6 (enc := enc) (C := Try.checked) false ⟨#[], #[.slice none 0 0, .int .i64 0, .int .u64 0], []⟩ 8 (by kernel_rfl) (by kernel_rfl) (by kernel_rfl) (by kernel_rfl)) ?_
  intro W base args ds gs before hval0 hW hcnd _
  have hval : ∀ (j : Nat) t v, Try.f7.params[j]? = some t → args[j]? = some v → Value.okWide Try.prog W .any base t v := hval0
  have hW' := hW
  obtain ⟨p, q, hA0, hV, rfl, hfz, hnd⟩ := hW
  have hA : DataW.TrodAll enc Try.prog W 0 (fun _ => true) true Try.f7.params.toList args.toList ds p := hA0
  rw [Try.params7] at hA hval
  obtain ⟨v0, vs0, d0, ds0, p0, q0, hargs, rfl, rfl, h0, r0⟩ := trodAll_cons hA
  obtain ⟨v1, vs1, d1, ds1, p1, q1, rfl, rfl, rfl, h1, r1⟩ := trodAll_cons r0
  obtain ⟨v2, vs2, d2, ds2, p2, q2, rfl, rfl, rfl, h2, r2⟩ := trodAll_cons r1
  obtain ⟨rfl, rfl, rfl⟩ := trodAll_nil r2
  obtain rfl : args = #[v0, v1, v2] := by cases args; simp_all
  obtain ⟨rfl, rfl⟩ := trodVars_none hV
  obtain ⟨a0, len0, cap0, rfl⟩ := okWide_slice Try.underlying22 (hval 0 22 v0 rfl rfl)
  have k0 := h0
  have lt0 : ∀ x ∈ p0, x.block < W.heap.size := by obtain ⟨m, hm⟩ := k0; exact DataW.trod_lt m _ _ _ hm
  obtain ⟨b, off, A, R, w0a, w0b, w0c, w0d, w0e⟩ : ∃ (b off : Nat) (A R : Nat → Int), (0 < len0 → a0 = some ⟨b, off, none⟩) ∧ len0 ≤ cap0 ∧ cap0 ≤ maxLen ∧ (a0 = none → cap0 = 0) ∧ Spans W b off len0 A R := by
    obtain ⟨fuel, hf⟩ := h0
    exact open_spans hf
  obtain ⟨x1, rfl, rfl, rfl, wx1⟩ := open_int Try.underlying3 (hval 1 3 v1 rfl rfl) h1
  obtain ⟨x2, rfl, rfl, rfl, wx2⟩ := open_int Try.underlying23 (hval 2 23 v2 rfl rfl) h2
  have bd1 := bounds_i64 wx1
  have bd2 := bounds_u64 wx2
  clear hA0 hval0
  refine (walk a0 b off len0 cap0 A R x1 x2 W w0a w0b w0c w0d w0e (by omega) (by omega) (by omega) (by omega)).mono fun e W' ⟨he, bel⟩ => ?_
  subst he
  exact ⟨_, rfl, _, _, _, [], _, [], hW', trodAll_mk1 (shut_bool Try.underlying4 _), (trodAll_cons_mk (Below.trod laidOut (by kernel_rfl) (of_decide_eq_true (by kernel_rfl)) k0 bel lt0) (trodAll_cons_mk (shut_int Try.underlying3 wx1) (trodAll_cons_mk (shut_int Try.underlying23 wx2) trodAll_mk0))), rfl, bel.frame _, fun h => by cases h⟩

theorem over : Rows.fnAtAgreesAcrossAnyCutRow.holds Try.pinned (OpenSpec.ofChange Rows.fnAtAgreesAcrossAnyCutSpec) :=
  OpenClaim.holds_of_wide 7 Try.f7 rfl rfl rfl rfl rfl rfl rfl ⟨rfl, rfl, rfl, rfl, rfl⟩ rfl rfl rfl rfl rfl (by kernel_rfl) Try.func7 (by kernel_rfl)
    (of_decide_eq_true (by kernel_rfl)) (by unfold Func.isWrapper; first | (rw [if_pos (by decide +kernel)]; kernel_rfl) | (rw [if_neg (by decide +kernel)]; exact ⟨rfl, rfl⟩))
    (fun os started H enc _ => lifted os started H enc)

/-- ████ THE STATEMENT ████ -/
theorem proved : Rows.FnAtAgreesAcrossAnyCutSaid := over
#print axioms proved
end Go.Proofs.Qxb6617005a.fnAtAgreesAcrossAnyCut
