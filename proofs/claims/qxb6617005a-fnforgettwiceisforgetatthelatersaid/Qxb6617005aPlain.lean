/-
  THE PLAIN LAWS OF THE SEAT b6617005a: no Go here. A span list is two functions A (added), R (removed) on the places below n.
-/
namespace Go.Proofs.Qxb6617005a.Plain

/-- how many of the first n were written at or before r -/
def cnt (A : Nat → Int) (r : Int) : Nat → Nat
  | 0 => 0
  | n + 1 => cnt A r n + if A n ≤ r then 1 else 0

/-- how many of the first n were written after lo, at or before hi -/
def btw (A : Nat → Int) (lo hi : Int) : Nat → Nat
  | 0 => 0
  | n + 1 => btw A lo hi n + if lo < A n ∧ A n ≤ hi then 1 else 0

def Srt (A : Nat → Int) (n : Nat) : Prop := ∀ i, i + 1 < n → A i ≤ A (i + 1)

theorem srt_le {A : Nat → Int} {n : Nat} (h : Srt A n) : ∀ (d i : Nat), i + d < n → A i ≤ A (i + d)
  | 0, _, _ => Int.le_refl _
  | d + 1, i, hd => by
    have h1 := srt_le h d i (by omega)
    have h2 := h (i + d) (by omega)
    have e : i + (d + 1) = i + d + 1 := by omega
    rw [e]; omega

theorem srt_mono {A : Nat → Int} {n i j : Nat} (h : Srt A n) (hij : i ≤ j) (hj : j < n) : A i ≤ A j := by
  have := srt_le h (j - i) i (by omega)
  have e : i + (j - i) = j := by omega
  rwa [e] at this

theorem srt_less {A : Nat → Int} {n k : Nat} (h : Srt A n) (hk : k ≤ n) : Srt A k := fun i hi => h i (by omega)
theorem srt_shift {A : Nat → Int} {n k : Nat} (h : Srt A n) : Srt (fun i => A (k + i)) (n - k) := fun i hi => by
  have := h (k + i) (by omega)
  have e : k + i + 1 = k + (i + 1) := by omega
  rw [e] at this; exact this

theorem cnt_le (A : Nat → Int) (r : Int) : ∀ n, cnt A r n ≤ n
  | 0 => Nat.le_refl _
  | n + 1 => by have := cnt_le A r n; simp only [cnt]; split <;> omega

/-- the boundary determines the count -/
theorem cnt_of {A : Nat → Int} {r : Int} {c : Nat} : ∀ {n : Nat}, c ≤ n → (∀ i, i < c → A i ≤ r) → (∀ i, c ≤ i → i < n → r < A i) → cnt A r n = c
  | 0, hc, _, _ => by simp only [cnt]; omega
  | n + 1, hc, h1, h2 => by
    by_cases e : c = n + 1
    · subst e
      have := cnt_of (A := A) (r := r) (c := n) (n := n) (Nat.le_refl _) (fun i hi => h1 i (by omega)) (fun i a b => by omega)
      simp only [cnt, this]
      rw [if_pos (h1 n (by omega))]
    · have := cnt_of (A := A) (r := r) (c := c) (n := n) (by omega) h1 (fun i a b => h2 i a (by omega))
      simp only [cnt, this]
      rw [if_neg (by have := h2 n (by omega) (by omega); omega)]; rfl

theorem cnt_bd {A : Nat → Int} {r : Int} : ∀ {n : Nat}, Srt A n → (∀ i, i < cnt A r n → A i ≤ r) ∧ (∀ i, cnt A r n ≤ i → i < n → r < A i)
  | 0, _ => ⟨fun i hi => by simp [cnt] at hi, fun i _ hi => by omega⟩
  | n + 1, h => by
    have ih := cnt_bd (r := r) (srt_less h (Nat.le_succ n))
    have hl := cnt_le A r n
    simp only [cnt]
    by_cases e : A n ≤ r
    · rw [if_pos e]
      have hn : cnt A r n = n := cnt_of (Nat.le_refl _) (fun i hi => by have := srt_mono h (i := i) (j := n) (by omega) (by omega); omega) (fun i a b => by omega)
      rw [hn]
      exact ⟨fun i hi => by have := srt_mono h (i := i) (j := n) (by omega) (by omega); omega, fun i a b => by omega⟩
    · rw [if_neg e]
      refine ⟨fun i hi => ih.1 i (by omega), fun i a b => ?_⟩
      by_cases hin : i = n
      · subst hin; omega
      · exact ih.2 i (by omega) (by omega)

/-- the sum over a cut -/
theorem cnt_cut (A : Nat → Int) (r : Int) (k : Nat) : ∀ m, cnt A r (k + m) = cnt A r k + cnt (fun i => A (k + i)) r m
  | 0 => by simp [cnt]
  | m + 1 => by
    have := cnt_cut A r k m
    show cnt A r (k + m + 1) = _
    simp only [cnt, this]; omega

theorem cnt_btw (A : Nat → Int) (lo hi : Int) (h : lo ≤ hi) : ∀ n, cnt A hi n = cnt A lo n + btw A lo hi n
  | 0 => rfl
  | n + 1 => by
    have := cnt_btw A lo hi h n
    simp only [cnt, btw, this]
    by_cases h1 : A n ≤ lo
    · rw [if_pos h1, if_pos (by omega), if_neg (by omega)]; omega
    · by_cases h2 : A n ≤ hi
      · rw [if_neg h1, if_pos h2, if_pos ⟨by omega, h2⟩]; omega
      · rw [if_neg h1, if_neg h2, if_neg (by omega)]; omega

theorem btw_le (A : Nat → Int) (lo hi : Int) : ∀ n, btw A lo hi n ≤ n
  | 0 => Nat.le_refl _
  | n + 1 => by have := btw_le A lo hi n; simp only [btw]; split <;> omega

/-- does a value stand at r? -/
def atB (A R : Nat → Int) (r : Int) (n : Nat) : Bool := decide (0 < cnt A r n ∧ (R (cnt A r n - 1) = 0 ∨ r < R (cnt A r n - 1)))

theorem at_none {A R : Nat → Int} {r : Int} {n : Nat} (h : cnt A r n = 0) : atB A R r n = false := by
  unfold atB; exact decide_eq_false (by omega)
theorem at_yes {A R : Nat → Int} {r : Int} {n c : Nat} (h : cnt A r n = c + 1) (hr : R c = 0 ∨ r < R c) : atB A R r n = true := by
  unfold atB; rw [h]; exact decide_eq_true ⟨by omega, hr⟩
theorem at_no {A R : Nat → Int} {r : Int} {n c : Nat} (h : cnt A r n = c + 1) (h0 : R c ≠ 0) (hr : R c ≤ r) : atB A R r n = false := by
  unfold atB; rw [h]; refine decide_eq_false ?_
  simp only [Nat.add_sub_cancel]; omega

/-- the linear scan's hit -/
theorem stand_hit {A R : Nat → Int} {r : Int} {n i : Nat} (h : Srt A n) (hi : i < n) (ha : A i ≤ r) (hb : i + 1 < n → r < A (i + 1)) (hr : R i = 0 ∨ r < R i) : atB A R r n = true :=
  at_yes (c := i) (cnt_of (by omega) (fun j hj => by have := srt_mono h (i := j) (j := i) (by omega) hi; omega)
    (fun j a b => by have := srt_mono h (i := i + 1) (j := j) a b; have := hb (by omega); omega)) hr
/-- the linear scan's miss -/
theorem stand_miss {A R : Nat → Int} {r : Int} {n : Nat} (h : Srt A n) (hm : ∀ i, i < n → r < A i ∨ (i + 1 < n ∧ A (i + 1) ≤ r) ∨ (R i ≠ 0 ∧ R i ≤ r)) : atB A R r n = false := by
  have hb := cnt_bd (r := r) h
  have hl := cnt_le A r n
  match hc : cnt A r n with
  | 0 => exact at_none hc
  | c + 1 =>
    rw [hc] at hb hl
    rcases hm c (by omega) with h1 | h1 | h1
    · have := hb.1 c (by omega); omega
    · have := hb.2 (c + 1) (by omega) h1.1; omega
    · exact at_no hc h1.1 h1.2

/-- At over the tail of a cut that holds r's value -/
theorem at_tail {A R : Nat → Int} {r : Int} {n k : Nat} (h : Srt A n) (hk : k < n) (ha : A k ≤ r) : atB (fun i => A (k + i)) (fun i => R (k + i)) r (n - k) = atB A R r n := by
  have hb := cnt_bd (r := r) h
  have hl := cnt_le A r n
  have hkc : k < cnt A r n := by
    by_cases hx : k < cnt A r n
    · exact hx
    · have := hb.2 k (by omega) hk; omega
  have e : cnt (fun i => A (k + i)) r (n - k) = cnt A r n - k :=
    cnt_of (by omega) (fun i hi => hb.1 (k + i) (by omega)) (fun i a b => hb.2 (k + i) (by omega) (by omega))
  unfold atB
  rw [e]
  have e2 : k + (cnt A r n - k - 1) = cnt A r n - 1 := by omega
  simp only [e2]
  have e3 : (0 < cnt A r n - k) ↔ (0 < cnt A r n) := by omega
  simp only [e3]
/-- At over the head of a cut behind which nothing was written by r -/
theorem at_head {A R : Nat → Int} {r : Int} {n k : Nat} (h : Srt A n) (hk : k ≤ n) (ha : k < n → r < A k) : atB A R r k = atB A R r n := by
  have e : cnt A r k = cnt A r n := by
    have hb := cnt_bd (r := r) (srt_less h hk)
    have hl := cnt_le A r k
    refine (cnt_of (by omega) (fun i hi => hb.1 i hi) (fun i a b => ?_)).symm
    by_cases hx : i < k
    · exact hb.2 i a hx
    · have := srt_mono h (i := k) (j := i) (by omega) b
      have := ha (by omega); omega
  unfold atB
  rw [e]

/-- no edge at r + 1: the answer does not turn -/
theorem at_still {A R : Nat → Int} {r : Int} {n : Nat} (h : Srt A n) (hn : ∀ i, i < n → A i ≠ r + 1 ∧ R i ≠ r + 1) : atB A R (r + 1) n = atB A R r n := by
  have hb := cnt_bd (r := r) h
  have hl := cnt_le A r n
  have e : cnt A (r + 1) n = cnt A r n :=
    cnt_of hl (fun i hi => by have := hb.1 i hi; omega) (fun i a b => by have := hb.2 i a b; have := (hn i b).1; omega)
  unfold atB
  rw [e]
  match hc : cnt A r n with
  | 0 => simp
  | c + 1 =>
    have := (hn c (by omega)).2
    simp only [Nat.add_sub_cancel]
    congr 1
    exact propext ⟨fun ⟨a, b⟩ => ⟨a, by omega⟩, fun ⟨a, b⟩ => ⟨a, by omega⟩⟩

/-! ### Forget -/
/-- has value i ended by b? -/
def endB (A R : Nat → Int) (n : Nat) (b : Int) (i : Nat) : Bool := decide ((i + 1 < n ∧ A (i + 1) ≤ b) ∨ (R i ≠ 0 ∧ R i ≤ b))
def ended (A R : Nat → Int) (n : Nat) (b : Int) : Nat → Nat
  | 0 => 0
  | k + 1 => ended A R n b k + if endB A R n b k = true then 1 else 0
theorem ended_le (A R : Nat → Int) (n : Nat) (b : Int) : ∀ k, ended A R n b k ≤ k
  | 0 => Nat.le_refl _
  | k + 1 => by have := ended_le A R n b k; simp only [ended]; split <;> omega

/-- how many Forget lets go of -/
def fgt (A R : Nat → Int) (b : Int) (n : Nat) : Nat := if 0 < cnt A b n then (if R (cnt A b n - 1) ≠ 0 ∧ R (cnt A b n - 1) ≤ b then cnt A b n else cnt A b n - 1) else 0

theorem fgt_le_cnt (A R : Nat → Int) (b : Int) (n : Nat) : fgt A R b n ≤ cnt A b n := by
  unfold fgt; split
  · split <;> omega
  · omega
theorem fgt_le (A R : Nat → Int) (b : Int) (n : Nat) : fgt A R b n ≤ n := Nat.le_trans (fgt_le_cnt A R b n) (cnt_le A b n)

def Ends (A R : Nat → Int) (n : Nat) : Prop := ∀ i, i < n → R i ≠ 0 → A i ≤ R i

theorem ended_of {A R : Nat → Int} {n : Nat} {b : Int} {e : Nat} : ∀ {k : Nat}, e ≤ k → (∀ i, i < e → endB A R n b i = true) → (∀ i, e ≤ i → i < k → endB A R n b i = false) → ended A R n b k = e
  | 0, he, _, _ => by simp only [ended]; omega
  | k + 1, he, h1, h2 => by
    by_cases x : e = k + 1
    · subst x
      have := ended_of (A := A) (R := R) (n := n) (b := b) (e := k) (k := k) (Nat.le_refl _) (fun i hi => h1 i (by omega)) (fun i a c => by omega)
      simp only [ended, this]
      rw [if_pos (h1 k (by omega))]
    · have := ended_of (A := A) (R := R) (n := n) (b := b) (e := e) (k := k) (by omega) h1 (fun i a c => h2 i a (by omega))
      simp only [ended, this]
      rw [if_neg (by rw [h2 k (by omega) (by omega)]; simp)]; rfl

theorem ended_fgt {A R : Nat → Int} {n : Nat} {b : Int} (h : Srt A n) (hE : Ends A R n) : ended A R n b n = fgt A R b n := by
  have hb := cnt_bd (r := b) h
  have hl := cnt_le A b n
  refine ended_of (fgt_le A R b n) (fun i hi => ?_) (fun i a c => ?_)
  · unfold endB
    refine decide_eq_true ?_
    unfold fgt at hi
    by_cases h0 : 0 < cnt A b n
    · rw [if_pos h0] at hi
      by_cases h1 : R (cnt A b n - 1) ≠ 0 ∧ R (cnt A b n - 1) ≤ b
      · rw [if_pos h1] at hi
        by_cases h2 : i = cnt A b n - 1
        · right; rw [h2]; exact h1
        · left; exact ⟨by omega, hb.1 (i + 1) (by omega)⟩
      · rw [if_neg h1] at hi
        left; exact ⟨by omega, hb.1 (i + 1) (by omega)⟩
    · rw [if_neg h0] at hi; omega
  · unfold endB
    refine decide_eq_false ?_
    have key : ∀ j, cnt A b n ≤ j → j < n → ¬ (R j ≠ 0 ∧ R j ≤ b) := fun j h1 h2 ⟨h3, h4⟩ => by
      have := hb.2 j h1 h2; have := hE j h2 h3; omega
    unfold fgt at a
    by_cases h0 : 0 < cnt A b n
    · rw [if_pos h0] at a
      by_cases h1 : R (cnt A b n - 1) ≠ 0 ∧ R (cnt A b n - 1) ≤ b
      · rw [if_pos h1] at a
        rintro (⟨h2, h3⟩ | h2)
        · have := hb.2 (i + 1) (by omega) h2; omega
        · exact key i a c h2
      · rw [if_neg h1] at a
        rintro (⟨h2, h3⟩ | h2)
        · have := hb.2 (i + 1) (by omega) h2; omega
        · by_cases h4 : i = cnt A b n - 1
          · rw [h4] at h2; exact h1 h2
          · exact key i (by omega) c h2
    · rintro (⟨h2, h3⟩ | h2)
      · have := hb.2 (i + 1) (by omega) h2; omega
      · exact key i (by omega) c h2

/-- Forget at b1, then at b2: as Forget at b2 alone -/
theorem fgt_twice {A R : Nat → Int} {n : Nat} {b1 b2 : Int} (h : Srt A n) (h12 : b1 ≤ b2) :
    fgt A R b1 n + fgt (fun i => A (fgt A R b1 n + i)) (fun i => R (fgt A R b1 n + i)) b2 (n - fgt A R b1 n) = fgt A R b2 n := by
  have hb1 := cnt_bd (r := b1) h
  have hb2 := cnt_bd (r := b2) h
  have hl1 := cnt_le A b1 n
  have hl2 := cnt_le A b2 n
  have hle := fgt_le_cnt A R b1 n
  have h12c : cnt A b1 n ≤ cnt A b2 n := by have := cnt_btw A b1 b2 h12 n; omega
  have e : cnt (fun i => A (fgt A R b1 n + i)) b2 (n - fgt A R b1 n) = cnt A b2 n - fgt A R b1 n :=
    cnt_of (by omega) (fun i hi => hb2.1 (fgt A R b1 n + i) (by omega)) (fun i a c => hb2.2 (fgt A R b1 n + i) (by omega) (by omega))
  have hlast : cnt A b2 n = fgt A R b1 n → 0 < cnt A b2 n → R (cnt A b2 n - 1) ≠ 0 ∧ R (cnt A b2 n - 1) ≤ b2 := by
    intro h1 h2
    have h3 : cnt A b1 n = cnt A b2 n := by omega
    have h4 := h1
    unfold fgt at h4
    rw [h3, if_pos h2] at h4
    by_cases h5 : R (cnt A b2 n - 1) ≠ 0 ∧ R (cnt A b2 n - 1) ≤ b1
    · exact ⟨h5.1, by omega⟩
    · rw [if_neg h5] at h4; omega
  generalize hf : fgt A R b1 n = f at *
  unfold fgt
  simp only [e]
  by_cases h0 : 0 < cnt A b2 n
  · rw [if_pos h0]
    by_cases h1 : 0 < cnt A b2 n - f
    · rw [if_pos h1]
      have e2 : f + (cnt A b2 n - f - 1) = cnt A b2 n - 1 := by omega
      simp only [e2]
      split <;> omega
    · rw [if_neg h1]
      have := hlast (by omega) h0
      rw [if_pos this]; omega
  · rw [if_neg h0, if_neg (by omega)]; omega

end Go.Proofs.Qxb6617005a.Plain
