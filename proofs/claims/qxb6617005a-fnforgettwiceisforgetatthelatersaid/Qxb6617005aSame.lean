import Derived.Test.Qxb6617005aForgetB
namespace Go.Proofs.Qxb6617005a.W
open Go.ChangeShapes Go.WideShapes Go.ChangeAt Go.RowKit
open Go.Proofs.Qxb6617005a.Plain
set_option linter.unusedVariables false

theorem added_at (g off l c k : Nat) (x : Int) (w : World) (hk : k < l) (hl : l ≤ 65536) (h : w.cell? ⟨g, off + k * 5 + 3, none⟩ = some (.int .u64 x)) :
    Calls Try.prog 17 #[.slice (some ⟨g, off, none⟩) l c, .int .i64 k] w fun e w' => e = .returned (.int .u64 x) ∧ w' = w := by
  go_enter Try.func17, Try.ntmps17
  go_wp2
  go_ret
  exact ⟨rfl, rfl⟩
theorem removed_at (g off l c k : Nat) (x : Int) (w : World) (hk : k < l) (hl : l ≤ 65536) (h : w.cell? ⟨g, off + k * 5 + 4, none⟩ = some (.int .u64 x)) :
    Calls Try.prog 18 #[.slice (some ⟨g, off, none⟩) l c, .int .i64 k] w fun e w' => e = .returned (.int .u64 x) ∧ w' = w := by
  go_enter Try.func18, Try.ntmps18
  go_wp2
  go_ret
  exact ⟨rfl, rfl⟩

/-- zzSameAs, where they are the same -/
theorem same_any (a sa : Option Addr) (g off l c b soff n sc f : Nat) (A R : Nat → Int) (w : World) (ha : 0 < l → a = some ⟨g, off, none⟩) (hsa : 0 < n → sa = some ⟨b, soff, none⟩) (hn : n ≤ 65536) (hf : f ≤ n) (hl : l = n - f)
    (hv : Vals w g off l (fun i => A (f + i)) (fun i => R (f + i))) (hs : Spans w b soff n A R) :
    Calls Try.prog 22 #[.slice a l c, .slice sa n sc, .int .i64 f] w fun e w' => e = .returned (.bool true) ∧ Below w.heap.size w w' := by
  have V0 : Hid (Vals w g off l (fun i => A (f + i)) (fun i => R (f + i))) := hv
  have S0 : Hid (Spans w b soff n A R) := hs
  have hl2 : ((l : Int) != (n : Int) - (f : Int)) = false := by
    have : (l : Int) = (n : Int) - (f : Int) := by omega
    rw [this]; simp
  have HL : Hid (l = n - f) := hl
  have hd : decide (n < f) = false := decide_eq_false (by omega)
  have hd2 : decide ((f : Int) < 0) = false := decide_eq_false (by omega)
  clear hv hs hl
  go_enter Try.func22, Try.ntmps22
  go_wp2
  go_loopw [7] (fun i wr => ∃ k : Nat, k ≤ l ∧ i = .int .i64 k ∧ Hid (Below w.heap.size w wr)) (fun i _ => l - (intOf i).toNat)
  case atStart => exact ⟨0, by omega, rfl, Below.refl _ _⟩
  case round =>
    obtain ⟨k, hk, rfl, B1⟩ := hrel
    by_cases hlt : k < l
    · have hle := HL.out
      obtain rfl := ha (by omega)
      obtain rfl := hsa (by omega)
      have hfk : f + k < n := by omega
      have hl5 : l ≤ 65536 := by omega
      clear hle
      obtain ⟨_, _, _, c3, c4⟩ := (V0.out.later B1.out).2 k hlt
      have S1 := S0.out.later B1.out
      have d0 := S1.2.1 (f + k) hfk
      have d1 := S1.2.2 (f + k) hfk
      have ca := fun W h => added_at g off l c k (A (f + k)) W hlt hl5 h
      have cr := fun W h => removed_at g off l c k (R (f + k)) W hlt hl5 h
      have i0 : (0 : Int) ≤ (f : Int) + (k : Int) := by omega
      have i1 : (f : Int) + (k : Int) < n := by omega
      clear S1
      go_wp2
      go_quiet ((go_at_call 17; exact Calls.quiet_of_same (ca _ (by exact c3))))
      go_wp2
      have B2 : Hid (Below w.heap.size w (wr.drewN nq)) := below_drewN B1.out _
      have c4' : (wr.drewN nq).cell? ⟨g, off + k * 5 + 4, none⟩ = some (.int .u64 (R (f + k))) := c4
      have d1' : (wr.drewN nq).cell? ⟨b, soff + (f + k) * 2 + 1, none⟩ = some (.int .u64 (R (f + k))) := d1
      clear c3 c4 d0 d1 ca
      generalize wr.drewN nq = wq at B2 c4' d1' ⊢
      go_quiet ((go_at_call 18; exact Calls.quiet_of_same (cr _ (by exact c4'))))
      go_wp2
      go_roundw
      case rel => first | exact ⟨k + 1, by omega, by go_num, below_drewN B2.out _⟩ | ((repeat apply Exists.intro); exact ⟨⟨k + 1, by omega, by go_num, below_drewN B2.out _⟩, rfl⟩)
      case measure => simp [intOf]; omega
    · go_wp2
      go_ret
      exact ⟨rfl, B1.out⟩

/-- Forget at b1 has let go of f1; Forget at b2 behind it: as Forget at b2 alone -/
theorem forget_again (p g n f1 f2 : Nat) (A R : Nat → Int) (b1 b2 : Int) (w : World) (h12 : b1 ≤ b2) (e1 : fgt A R b1 n = f1) (e2 : fgt A R b2 n = f2) (hp : Ptr w p g (0 + f1 * 5) (n - f1)) (hv : Vals w g 0 n A R) (hpg : g ≠ p) (hn : n ≤ 65536) (hS : Srt A n) (h0 : 0 ≤ b2) (hb : b2 < 18446744073709551615) :
    Calls Try.prog 21 #[.pointer (some ⟨p, 0, none⟩), .int .u64 b2] w fun e w' => e = .returned (.bool (decide ((f2 : Int) < (n : Int)))) ∧ Ptr w' p g (0 + f2 * 5) (n - f2) ∧ w.grownBy w' (some p) := by
  have hle : f1 ≤ n := by rw [← e1]; exact fgt_le A R b1 n
  have h2 := fgt_twice (R := R) (b1 := b1) (b2 := b2) hS h12
  rw [e1, e2] at h2
  have hle2 := fgt_le (fun i => A (f1 + i)) (fun i => R (f1 + i)) b2 (n - f1)
  refine (forget_any p g (0 + f1 * 5) (n - f1) (fun i => A (f1 + i)) (fun i => R (f1 + i)) b2 w hp (hv.tail hle) hpg (by omega) (srt_shift hS) h0 hb).mono ?_
  rintro e w' ⟨rfl, hp', hg⟩
  generalize fgt (fun i => A (f1 + i)) (fun i => R (f1 + i)) b2 (n - f1) = f at *
  refine ⟨ret_bool (decide_eq_decide.2 (by omega)), ?_, hg⟩
  have x1 : 0 + f1 * 5 + f * 5 = 0 + f2 * 5 := by omega
  have x2 : n - f1 - f = n - f2 := by omega
  rw [x1, x2] at hp'
  exact hp'
theorem forget_once (p g n f : Nat) (A R : Nat → Int) (b : Int) (w : World) (e1 : fgt A R b n = f) (hp : Ptr w p g 0 n) (hv : Vals w g 0 n A R) (hpg : g ≠ p) (hn : n ≤ 65536) (hS : Srt A n) (h0 : 0 ≤ b) (hb : b < 18446744073709551615) :
    Calls Try.prog 21 #[.pointer (some ⟨p, 0, none⟩), .int .u64 b] w fun e w' => e = .returned (.bool (decide ((f : Int) < (n : Int)))) ∧ Ptr w' p g (0 + f * 5) (n - f) ∧ w.grownBy w' (some p) := by
  subst e1
  exact forget_any p g 0 n A R b w hp hv hpg hn hS h0 hb
theorem Ptr.new (w : World) (g n : Nat) (hn : n ≤ 65536) : Ptr (w.alloc (.cells #[.slice (some ⟨g, 0, none⟩) n n] 33)) w.heap.size g 0 n :=
  ⟨by simp, by simp, _, n, by simp, Nat.le_refl _, hn, fun _ => rfl⟩

end Go.Proofs.Qxb6617005a.W
