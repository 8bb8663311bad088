/-
  THE PROOF OF 'Rows.FnHeapDownRestoresSubtreeSaid': the frame is the given shell's own; the walk is filled.
-/
import Derived.Test.Qxb6617152aRestoresMain
import Derived.Test.Qxb6617152aRows
import Derived.WalkKit
import Derived.ProofKit
import Derived.OpenShut
import Derived.ShutString
import Derived.ChangeOld
import Derived.Below
namespace Go.Proofs.Qxb6617152a.fnHeapDownRestoresSubtree
open Go.ChangeShapes Go.WideShapes Go.ChangeAt Go.RowKit
open Go.ChangeMaps (open_string shut_string)
set_option linter.unusedVariables false

theorem own : ownKnob Try.prog.godebug = none := by kernel_rfl
theorem laidOut : laidOutB Try.prog = true := by kernel_rfl

/-- WHAT THE WALK IS TOLD OF A SLICE OF INTEGERS THAT CAME IN: it is nil; or it leads to a row of 'cap' cells, the numbers 'zs' (the first 'len' are its elements, the rest its spare room), each fitting its kind. -/
def IsRow (k : IntKind) (w : World) (a : Option Addr) (len cap : Nat) (zs : List Int) : Prop :=
  (a = none ∧ len = 0 ∧ cap = 0 ∧ zs = []) ∨
  ∃ x, a = some x ∧ len ≤ cap ∧ cap ≤ maxLen ∧ zs.length = cap ∧ (∀ i, i < zs.length → w.cell? (x.add i) = some (.int k (zs.getD i 0))) ∧ ∀ n ∈ zs, (Lit.int k n).wf = true

open Go.Proofs.Qxb6617152a.W Go.Proofs.Qxb6617152a.Plain
theorem row_of {k : IntKind} {w : World} {a : Option Addr} {len cap : Nat} {zs : List Int} (h : IsRow k w a len cap zs) :
    ∃ b off, (0 < len → a = some ⟨b, off, none⟩) ∧ (a = none → len = 0 ∧ cap = 0) ∧ len ≤ cap ∧ cap ≤ maxLen ∧ Rd w k b off len (fun i => zs.getD i 0) := by
  rcases h with ⟨rfl, rfl, rfl, rfl⟩ | ⟨x, rfl, hl, hm, hz, hc, _⟩
  · exact ⟨0, 0, fun h => by omega, fun _ => ⟨rfl, rfl⟩, Nat.le_refl _, Nat.zero_le _, fun h => by omega, fun i hi => by omega⟩
  · by_cases h0 : 0 < len
    · obtain ⟨b, off, rfl, hc'⟩ := ints_at hc (by omega)
      refine ⟨b, off, fun _ => rfl, fun h => (by cases h), hl, hm, fun _ => ?_, fun i hi => hc' i (by omega)⟩
      exact World.block_lt_of_cell? _ _ (hc' 0 (by omega))
    · exact ⟨0, 0, fun h => by omega, fun h => (by cases h), hl, hm, fun h => by omega, fun i hi => by omega⟩

set_option maxRecDepth 100000 in
set_option maxHeartbeats 1000000 in
theorem walk (a0 : Option Addr) (len0 cap0 : Nat) (z0 : List Int) (a1 : Option Addr) (len1 cap1 : Nat) (z1 : List Int) (a2 : Int) (w : World) (w0 : IsRow .i64 w a0 len0 cap0 z0) (w1 : IsRow .i32 w a1 len1 cap1 z1) (w2 : (Lit.int .i64 a2).wf = true) :
    Calls Try.prog 4 #[.slice a0 len0 cap0, .slice a1 len1 cap1, .int .i64 a2] w fun e w' => e = .returned (.bool true) ∧ Below w.heap.size w w' := by
  obtain ⟨b0, o0, p0, q0, l0, m0, r0⟩ := row_of w0
  obtain ⟨b1, o1, p1, q1, l1, m1, r1⟩ := row_of w1
  have hb := fun w => bytes11 a0 a1 len0 cap0 len1 cap1 a2 w (by omega) (by omega)
  have hb2 := bounds_i64 w2
  unfold maxLen at m0 m1
  clear w0 w1 w2
  by_cases h0 : len0 ≤ 4096
  · by_cases h1 : len1 ≤ 4096
    · have hb' : ∀ w, Calls Try.prog 11 #[.slice a0 len0 cap0, .slice a1 len1 cap1, .int .i64 a2] w fun e w' => e = .returned (.bool true) ∧ w' = w := fun w => (hb w).mono fun e w' ⟨s, e1, e2, e3⟩ => ⟨by rw [e1, e2 ⟨h0, h1⟩], e3⟩
      by_cases h2 : len0 = len1
      · subst h2
        have h3 : ((len0 : Int) != (len0 : Int)) = false := by simp
        by_cases h4 : a2 < 0
        · clear hb r0 r1
          go_enter Try.func4, Try.ntmps4
          go_wp2_with (go_at_call 11; refine (hb' _).mono ?_; rintro e w' ⟨rfl, rfl⟩)
          go_ret
          exact ⟨rfl, Below.refl _ _⟩
        · by_cases h5 : (len0 : Int) ≤ a2
          · clear hb r0 r1
            go_enter Try.func4, Try.ntmps4
            go_wp2_with (go_at_call 11; refine (hb' _).mono ?_; rintro e w' ⟨rfl, rfl⟩)
            go_ret
            exact ⟨rfl, Below.refl _ _⟩
          · obtain ⟨i, rfl⟩ := Int.eq_ofNat_of_zero_le (Int.not_lt.1 h4)
            have r : Rd2 w b0 o0 b1 o1 len0 (fun j => (z0.getD j 0, z1.getD j 0)) := ⟨r0, r1⟩
            by_cases hh : Hob (fun j => (z0.getD j 0, z1.getD j 0)) len0 i false
            · exact restores_main a0 a1 b0 o0 b1 o1 len0 cap0 cap1 i _ w h0 (by omega) p0 p1 q0 q1 r hb' hh
            · have hc := hob_no a0 a1 b0 o0 b1 o1 len0 cap0 cap1 i false _ w p0 p1 h0 (by omega) r hh
              clear hb r0 r1 r hh
              go_enter Try.func4, Try.ntmps4
              go_wp2_with (first | (go_at_call 11; refine (hb' _).mono ?_; rintro e w' ⟨rfl, hw⟩; have hw2 := hw.symm; clear hw; subst hw2) | (go_at_call 12; refine hc.mono ?_; rintro e w1 ⟨rfl, hb1⟩))
              go_ret
              exact ⟨rfl, hb1⟩
      · have h3 : ((len0 : Int) != (len1 : Int)) = true := by simp; omega
        clear h2 hb r0 r1
        go_enter Try.func4, Try.ntmps4
        go_wp2_with (go_at_call 11; refine (hb' _).mono ?_; rintro e w' ⟨rfl, rfl⟩)
        go_ret
        exact ⟨rfl, Below.refl _ _⟩
    · clear r0 r1
      go_enter Try.func4, Try.ntmps4
      go_wp2_with fail
      refine (hb _).mono ?_
      rintro e w' ⟨s, rfl, _, rfl⟩
      cases s <;> (go_wp2; go_ret; exact ⟨rfl, Below.refl _ _⟩)
  · clear r0 r1
    go_enter Try.func4, Try.ntmps4
    go_wp2_with fail
    refine (hb _).mono ?_
    rintro e w' ⟨s, rfl, _, rfl⟩
    cases s <;> (go_wp2; go_ret; exact ⟨rfl, Below.refl _ _⟩)

/-! ### THE ROW's STEP: WRITTEN OUT: LEAVE IT -/
set_option maxRecDepth 100000 in
theorem lifted (os : Os) (started : os.Started) (H : Type) (enc : TypeId × Value → H) :
    ReturnsInHanded {} Try.checked os 4 .any (Rows.fnHeapDownRestoresSubtreeSpec.pre6 enc Try.prog Try.f4 Rows.fnHeapDownRestoresSubtreeRow.domain false) (Rows.fnHeapDownRestoresSubtreeSpec.post enc Try.prog Try.f4 false true false false) := by
  refine returnsInHanded_of_change (C := Try.checked) own started (by kernel_rfl) Try.func4
    (ChangeSpec.witness6 (enc := enc) (C := Try.checked) false ⟨#[], #[.slice none 0 0, .slice none 0 0, .int .i64 0], []⟩ 8 (by kernel_rfl) (by kernel_rfl) (by kernel_rfl) (by kernel_rfl)) ?_
  intro W base args ds gs before hval0 hW hcnd _
  have hval : ∀ (j : Nat) t v, Try.f4.params[j]? = some t → args[j]? = some v → Value.okWide Try.prog W .any base t v := hval0
  have hW' := hW
  obtain ⟨p, q, hA0, hV, rfl, hfz, hnd⟩ := hW
  have hA : DataW.TrodAll enc Try.prog W 0 (fun _ => true) true Try.f4.params.toList args.toList ds p := hA0
  rw [Try.params4] at hA hval
  obtain ⟨v0, vs0, d0, ds0, p0, q0, hargs, rfl, rfl, h0, r0⟩ := trodAll_cons hA
  obtain ⟨v1, vs1, d1, ds1, p1, q1, rfl, rfl, rfl, h1, r1⟩ := trodAll_cons r0
  obtain ⟨v2, vs2, d2, ds2, p2, q2, rfl, rfl, rfl, h2, r2⟩ := trodAll_cons r1
  obtain ⟨rfl, rfl, rfl⟩ := trodAll_nil r2
  obtain rfl : args = #[v0, v1, v2] := by cases args; simp_all
  obtain ⟨rfl, rfl⟩ := trodVars_none hV
  obtain ⟨a0, len0, cap0, rfl⟩ := okWide_slice Try.underlying22 (hval 0 22 v0 rfl rfl)
  have k0 := h0
  have lt0 : ∀ x ∈ p0, x.block < W.heap.size := by obtain ⟨m, hm⟩ := k0; exact DataW.trod_lt m _ _ _ hm
  obtain ⟨z0, w0⟩ : ∃ zs, IsRow .i64 W a0 len0 cap0 zs := by
    obtain ⟨fuel, hf⟩ := h0
    rcases open_ints Try.underlying22 Try.underlying2 (by kernel_rfl) hf with ⟨hcs, _⟩ | ⟨x, l, c, zs, hcs, _, hl, hm, hz, _, hcell, hwz⟩
    · simp [Value.cells] at hcs
      obtain ⟨rfl, rfl, rfl⟩ := hcs
      exact ⟨[], .inl ⟨rfl, rfl, rfl, rfl⟩⟩
    · simp [Value.cells] at hcs
      obtain ⟨rfl, rfl, rfl⟩ := hcs
      exact ⟨zs, .inr ⟨_, rfl, hl, hm, by simpa using hz, hcell, hwz⟩⟩
  obtain ⟨a1, len1, cap1, rfl⟩ := okWide_slice Try.underlying23 (hval 1 23 v1 rfl rfl)
  have k1 := h1
  have lt1 : ∀ x ∈ p1, x.block < W.heap.size := by obtain ⟨m, hm⟩ := k1; exact DataW.trod_lt m _ _ _ hm
  obtain ⟨z1, w1⟩ : ∃ zs, IsRow .i32 W a1 len1 cap1 zs := by
    obtain ⟨fuel, hf⟩ := h1
    rcases open_ints Try.underlying23 Try.underlying21 (by kernel_rfl) hf with ⟨hcs, _⟩ | ⟨x, l, c, zs, hcs, _, hl, hm, hz, _, hcell, hwz⟩
    · simp [Value.cells] at hcs
      obtain ⟨rfl, rfl, rfl⟩ := hcs
      exact ⟨[], .inl ⟨rfl, rfl, rfl, rfl⟩⟩
    · simp [Value.cells] at hcs
      obtain ⟨rfl, rfl, rfl⟩ := hcs
      exact ⟨zs, .inr ⟨_, rfl, hl, hm, by simpa using hz, hcell, hwz⟩⟩
  obtain ⟨a2, rfl, rfl, rfl, w2⟩ := open_int Try.underlying3 (hval 2 3 v2 rfl rfl) h2
  clear hA0 hval0
  refine (walk a0 len0 cap0 z0 a1 len1 cap1 z1 a2 W w0 w1 w2).mono fun e W' ⟨he, bel⟩ => ?_
  subst he
  exact ⟨_, rfl, _, _, _, [], _, [], hW', trodAll_mk1 (shut_bool Try.underlying4 _), (trodAll_cons_mk (Below.trod laidOut (by kernel_rfl) (of_decide_eq_true (by kernel_rfl)) k0 bel lt0) (trodAll_cons_mk (Below.trod laidOut (by kernel_rfl) (of_decide_eq_true (by kernel_rfl)) k1 bel lt1) (trodAll_cons_mk (shut_int Try.underlying3 w2) trodAll_mk0))), rfl, bel.frame _, fun h => by cases h⟩

theorem over : Rows.fnHeapDownRestoresSubtreeRow.holds Try.pinned (OpenSpec.ofChange Rows.fnHeapDownRestoresSubtreeSpec) :=
  OpenClaim.holds_of_wide 4 Try.f4 rfl rfl rfl rfl rfl rfl rfl ⟨rfl, rfl, rfl, rfl, rfl⟩ rfl rfl rfl rfl rfl (by kernel_rfl) Try.func4 (by kernel_rfl)
    (of_decide_eq_true (by kernel_rfl)) (by unfold Func.isWrapper; first | (rw [if_pos (by decide +kernel)]; kernel_rfl) | (rw [if_neg (by decide +kernel)]; exact ⟨rfl, rfl⟩))
    (fun os started H enc _ => lifted os started H enc)

/-- ████ THE STATEMENT ████ -/
theorem proved : Rows.FnHeapDownRestoresSubtreeSaid := over
#print axioms proved
end Go.Proofs.Qxb6617152a.fnHeapDownRestoresSubtree
