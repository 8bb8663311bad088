/-
  THE PLAIN LAWS OF THE SEAT b6617152a: no Go here. A list of dues is a function d on the places below n, each a pair (time, device).
-/
namespace Go.Proofs.Qxb6617152a.Plain

abbrev Due := Int × Int

/-- the order of dues -/
def lt (x y : Due) : Bool := decide (x.1 < y.1 ∨ (x.1 = y.1 ∧ x.2 < y.2))

theorem lt_iff {x y : Due} : lt x y = true ↔ (x.1 < y.1 ∨ (x.1 = y.1 ∧ x.2 < y.2)) := by unfold lt; simp
theorem nlt_iff {x y : Due} : lt x y = false ↔ ¬ (x.1 < y.1 ∨ (x.1 = y.1 ∧ x.2 < y.2)) := by unfold lt; exact decide_eq_false_iff_not
theorem lt_self (x : Due) : lt x x = false := by rw [nlt_iff]; omega
theorem le_trans {x y z : Due} (h1 : lt y x = false) (h2 : lt z y = false) : lt z x = false := by rw [nlt_iff] at *; omega
theorem le_of_lt {x y : Due} (h : lt x y = true) : lt y x = false := by rw [lt_iff] at h; rw [nlt_iff]; omega
theorem le_antisymm {x y : Due} (h1 : lt x y = false) (h2 : lt y x = false) : x = y := by
  rw [nlt_iff] at h1 h2
  have a : x.1 = y.1 := by omega
  have b : x.2 = y.2 := by omega
  exact Prod.ext a b

/-- two places exchanged -/
def swap (d : Nat → Due) (i j : Nat) : Nat → Due := fun k => if k = i then d j else if k = j then d i else d k

theorem swap_self (d : Nat → Due) (i : Nat) : swap d i i = d := by
  funext k; unfold swap; split
  · rename_i h; rw [h]
  · rfl
theorem swap_fst (d : Nat → Due) (i j : Nat) : swap d i j i = d j := by unfold swap; rw [if_pos rfl]
theorem swap_snd (d : Nat → Due) (i j : Nat) : swap d i j j = d i := by
  unfold swap; split
  · rename_i h; rw [h]
  · rw [if_pos rfl]
theorem swap_other {d : Nat → Due} {i j k : Nat} (h1 : k ≠ i) (h2 : k ≠ j) : swap d i j k = d k := by unfold swap; rw [if_neg h1, if_neg h2]

/-- how often x stands below n -/
def cnt (d : Nat → Due) (x : Due) : Nat → Nat
  | 0 => 0
  | n + 1 => cnt d x n + if d n = x then 1 else 0

theorem cnt_congr {d e : Nat → Due} {x : Due} : ∀ {n : Nat}, (∀ k, k < n → d k = e k) → cnt d x n = cnt e x n
  | 0, _ => rfl
  | n + 1, h => by
    have := cnt_congr (x := x) (n := n) (fun k hk => h k (by omega))
    simp only [cnt, this, h n (by omega)]

theorem cnt_put {d : Nat → Due} {x v : Due} {i : Nat} : ∀ {n : Nat}, i < n → cnt (fun k => if k = i then v else d k) x n + (if d i = x then 1 else 0) = cnt d x n + (if v = x then 1 else 0)
  | 0, h => by omega
  | n + 1, h => by
    by_cases e : i = n
    · subst e
      have : cnt (fun k => if k = i then v else d k) x i = cnt d x i := cnt_congr (fun k hk => if_neg (by omega))
      simp only [cnt, this, if_true]; omega
    · have := cnt_put (d := d) (x := x) (v := v) (i := i) (n := n) (by omega)
      have e2 : (if n = i then v else d n) = d n := if_neg (by omega)
      simp only [cnt, e2]; omega

theorem cnt_swap {d : Nat → Due} {x : Due} {i j n : Nat} (hi : i < n) (hj : j < n) : cnt (swap d i j) x n = cnt d x n := by
  by_cases e : i = j
  · subst e; rw [swap_self]
  · have h1 := cnt_put (d := d) (x := x) (v := d i) (i := j) hj
    have h2 := cnt_put (d := fun k => if k = j then d i else d k) (x := x) (v := d j) (i := i) hi
    have h3 : (fun k => if k = i then d j else (fun k => if k = j then d i else d k) k) = swap d i j := rfl
    rw [h3] at h2
    simp only [if_neg e] at h2
    omega

theorem cnt_pos {d : Nat → Due} {x : Due} : ∀ {n : Nat}, 0 < cnt d x n → ∃ k, k < n ∧ d k = x
  | 0, h => by simp [cnt] at h
  | n + 1, h => by
    by_cases e : d n = x
    · exact ⟨n, by omega, e⟩
    · simp only [cnt, if_neg e] at h
      obtain ⟨k, hk, hx⟩ := cnt_pos (n := n) (by omega)
      exact ⟨k, by omega, hx⟩
theorem cnt_at {d : Nat → Due} {k : Nat} : ∀ {n : Nat}, k < n → 0 < cnt d (d k) n
  | 0, h => by omega
  | n + 1, h => by
    simp only [cnt]
    by_cases e : k = n
    · subst e; simp
    · have := cnt_at (d := d) (k := k) (n := n) (by omega); omega

/-- from greatest to least -/
def Desc (d : Nat → Due) (n : Nat) : Prop := ∀ i j, i ≤ j → j < n → lt (d i) (d j) = false

/-- sorted lists with the same dues are one -/
theorem desc_unique {d e : Nat → Due} : ∀ {n : Nat}, Desc d n → Desc e n → (∀ x, cnt d x n = cnt e x n) → ∀ k, k < n → d k = e k
  | 0, _, _, _, k, hk => by omega
  | n + 1, hd, he, hc, k, hk => by
    have h1 : d n = e n := by
      have p1 : 0 < cnt e (d n) (n + 1) := by rw [← hc]; exact cnt_at (by omega)
      have p2 : 0 < cnt d (e n) (n + 1) := by rw [hc]; exact cnt_at (by omega)
      obtain ⟨a, ha, ea⟩ := cnt_pos p1
      obtain ⟨b, hb, eb⟩ := cnt_pos p2
      refine le_antisymm ?_ ?_
      · rw [← eb]; have := hd b n (by omega) (by omega); rw [eb] at this ⊢
        have h2 := he a n (by omega) (by omega); rw [ea] at h2
        exact le_antisymm this h2 ▸ lt_self _
      · have h2 := hd b n (by omega) (by omega); rw [eb] at h2; exact h2
    by_cases x : k = n
    · rw [x]; exact h1
    · refine desc_unique (n := n) (fun i j a b => hd i j a (by omega)) (fun i j a b => he i j a (by omega)) (fun y => ?_) k (by omega)
      have := hc y
      simp only [cnt, h1] at this; omega

/-! ### down -/
/-- the least of i and its children -/
def lst1 (d : Nat → Due) (n i : Nat) : Nat := if 2 * i + 1 < n ∧ lt (d (2 * i + 1)) (d i) = true then 2 * i + 1 else i
def lst (d : Nat → Due) (n i : Nat) : Nat := if 2 * i + 2 < n ∧ lt (d (2 * i + 2)) (d (lst1 d n i)) = true then 2 * i + 2 else lst1 d n i

def down (n : Nat) : Nat → Nat → (Nat → Due) → (Nat → Due)
  | 0, _, d => d
  | f + 1, i, d => if lst d n i = i then d else down n f (lst d n i) (swap d i (lst d n i))

theorem lst_cases (d : Nat → Due) (n i : Nat) : lst d n i = i ∨ (lst d n i = 2 * i + 1 ∧ 2 * i + 1 < n) ∨ (lst d n i = 2 * i + 2 ∧ 2 * i + 2 < n) := by
  unfold lst; split
  · rename_i h; exact .inr (.inr ⟨rfl, h.1⟩)
  · unfold lst1; split
    · rename_i h; exact .inr (.inl ⟨rfl, h.1⟩)
    · exact .inl rfl

/-- what the least is: not greater than i nor than either child; less than i where it is another -/
theorem lst_le (d : Nat → Due) (n i : Nat) : lt (d i) (d (lst d n i)) = false ∧ (2 * i + 1 < n → lt (d (2 * i + 1)) (d (lst d n i)) = false) ∧ (2 * i + 2 < n → lt (d (2 * i + 2)) (d (lst d n i)) = false) := by
  have a1 : lt (d i) (d (lst1 d n i)) = false ∧ (2 * i + 1 < n → lt (d (2 * i + 1)) (d (lst1 d n i)) = false) := by
    unfold lst1; split
    · rename_i h; exact ⟨le_of_lt h.2, fun _ => lt_self _⟩
    · rename_i h
      refine ⟨lt_self _, fun h1 => ?_⟩
      cases hx : lt (d (2 * i + 1)) (d i)
      · rfl
      · exact absurd ⟨h1, hx⟩ h
  unfold lst; split
  · rename_i h
    have := le_of_lt h.2
    exact ⟨le_trans this a1.1, fun h1 => le_trans this (a1.2 h1), fun _ => lt_self _⟩
  · rename_i h
    refine ⟨a1.1, a1.2, fun h1 => ?_⟩
    cases hx : lt (d (2 * i + 2)) (d (lst1 d n i))
    · rfl
    · exact absurd ⟨h1, hx⟩ h

/-- heap order among the edges whose parent is in S -/
def Heap (S : Nat → Prop) (n : Nat) (d : Nat → Due) : Prop := ∀ c, 0 < c → c < n → S ((c - 1) / 2) → lt (d c) (d ((c - 1) / 2)) = false

def Kids (S : Nat → Prop) : Prop := ∀ p, S p → S (2 * p + 1) ∧ S (2 * p + 2)

theorem down_heap {S : Nat → Prop} (hS : Kids S) {n : Nat} : ∀ (f i : Nat) (d : Nat → Due), S i → n ≤ f + i →
    (∀ c, 0 < c → c < n → S ((c - 1) / 2) → (c - 1) / 2 ≠ i → lt (d c) (d ((c - 1) / 2)) = false) →
    (∀ c, 0 < c → c < n → (c - 1) / 2 = i → 0 < i → S ((i - 1) / 2) → lt (d c) (d ((i - 1) / 2)) = false) → Heap S n (down n f i d)
  | 0, i, d, _, hf, h1, _ => by
    intro c h0 hc hp
    simp only [down]
    exact h1 c h0 hc hp (by omega)
  | f + 1, i, d, hi, hf, h1, h2 => by
    simp only [down]
    have hl := lst_le d n i
    have hlc := lst_cases d n i
    by_cases e : lst d n i = i
    · rw [if_pos e]
      rw [e] at hl
      intro c h0 hc hp
      by_cases hx : (c - 1) / 2 = i
      · rw [hx]
        by_cases hy : c = 2 * i + 1
        · rw [hy] at hc ⊢; exact hl.2.1 hc
        · have : c = 2 * i + 2 := by omega
          rw [this] at hc ⊢; exact hl.2.2 hc
      · exact h1 c h0 hc hp hx
    · rw [if_neg e]
      generalize hm : lst d n i = m at *
      have hmi : (m - 1) / 2 = i ∧ 0 < m ∧ m < n ∧ i < m := by omega
      have hSm : S m := by
        have := hS i hi
        rcases hlc with h | h | h
        · omega
        · rw [h.1]; exact this.1
        · rw [h.1]; exact this.2
      refine down_heap hS f m (swap d i m) hSm (by omega) (fun c h0 hc hp hx => ?_) (fun c h0 hc hx _ _ => ?_)
      · -- edges whose parent is not m
        by_cases hpi : (c - 1) / 2 = i
        · rw [hpi, swap_fst]
          by_cases hcm : c = m
          · rw [hcm, swap_snd]; exact hl.1
          · rw [swap_other (by omega) hcm]
            by_cases hy : c = 2 * i + 1
            · rw [hy] at hc ⊢; exact hl.2.1 hc
            · have : c = 2 * i + 2 := by omega
              rw [this] at hc ⊢; exact hl.2.2 hc
        · by_cases hci : c = i
          · subst hci
            rw [swap_fst, swap_other hpi hx]
            exact h2 m hmi.2.1 hmi.2.2.1 hmi.1 h0 hp
          · rw [swap_other hpi hx, swap_other hci (by omega)]
            exact h1 c h0 hc hp hpi
      · -- the grandchildren
        rw [hmi.1, swap_fst]
        rw [swap_other (by omega) (by omega)]
        have := h1 c h0 hc (by rw [hx]; exact hSm) (by omega)
        rw [hx] at this; exact this

/-- down turns nothing outside S, and nothing from n on -/
theorem down_outside {S : Nat → Prop} (hS : Kids S) {n : Nat} : ∀ (f i : Nat) (d : Nat → Due), S i → ∀ k, ¬ S k → down n f i d k = d k
  | 0, _, _, _, _, _ => rfl
  | f + 1, i, d, hi, k, hk => by
    simp only [down]
    by_cases e : lst d n i = i
    · rw [if_pos e]
    · rw [if_neg e]
      have hSm : S (lst d n i) := by
        have := hS i hi
        rcases lst_cases d n i with h | h | h
        · exact absurd h e
        · rw [h.1]; exact this.1
        · rw [h.1]; exact this.2
      rw [down_outside hS f _ _ hSm k hk]
      exact swap_other (fun x => hk (x ▸ hi)) (fun x => hk (x ▸ hSm))
theorem down_beyond {n : Nat} : ∀ (f i : Nat) (d : Nat → Due), i < n → ∀ k, n ≤ k → down n f i d k = d k
  | 0, _, _, _, _, _ => rfl
  | f + 1, i, d, hi, k, hk => by
    simp only [down]
    by_cases e : lst d n i = i
    · rw [if_pos e]
    · rw [if_neg e]
      have hm : lst d n i < n := by have := lst_cases d n i; omega
      rw [down_beyond f _ _ hm k hk]
      exact swap_other (by omega) (by omega)
theorem down_cnt {n : Nat} {x : Due} : ∀ (f i : Nat) (d : Nat → Due), i < n → cnt (down n f i d) x n = cnt d x n
  | 0, _, _, _ => rfl
  | f + 1, i, d, hi => by
    simp only [down]
    by_cases e : lst d n i = i
    · rw [if_pos e]
    · rw [if_neg e]
      have hm : lst d n i < n := by have := lst_cases d n i; omega
      rw [down_cnt f _ _ hm, cnt_swap hi hm]
/-- where the root's edges stand in order down changes nothing -/
theorem down_same {n : Nat} {f i : Nat} {d : Nat → Due} (h : ∀ c, 0 < c → c < n → (c - 1) / 2 = i → lt (d c) (d i) = false) : down n f i d = d := by
  match f with
  | 0 => rfl
  | f + 1 =>
    have e1 : lst1 d n i = i := by
      unfold lst1; rw [if_neg]
      rintro ⟨a, b⟩
      rw [h (2 * i + 1) (by omega) a (by omega)] at b; exact absurd b (by simp)
    have e : lst d n i = i := by
      unfold lst; rw [e1, if_neg]
      rintro ⟨a, b⟩
      rw [h (2 * i + 2) (by omega) a (by omega)] at b; exact absurd b (by simp)
    simp only [down, if_pos e]
/-- more fuel than needed changes nothing -/
theorem down_fuel {n : Nat} : ∀ (f g i : Nat) (d : Nat → Due), n ≤ f + i → n ≤ g + i → down n f i d = down n g i d
  | 0, 0, _, _, _, _ => rfl
  | 0, g + 1, i, d, hf, _ => by
    have : lst d n i = i := by have := lst_cases d n i; omega
    simp only [down, if_pos this]
  | f + 1, 0, i, d, _, hg => by
    have : lst d n i = i := by have := lst_cases d n i; omega
    simp only [down, if_pos this]
  | f + 1, g + 1, i, d, hf, hg => by
    simp only [down]
    by_cases e : lst d n i = i
    · rw [if_pos e, if_pos e]
    · rw [if_neg e, if_neg e]
      have hm : i < lst d n i := by have := lst_cases d n i; omega
      exact down_fuel f g _ _ (by omega) (by omega)

/-! ### heapsort -/
/-- the heap's root is the least -/
theorem heap_root {n : Nat} {d : Nat → Due} (h : Heap (fun _ => True) n d) : ∀ (b k : Nat), k ≤ b → k < n → lt (d k) (d 0) = false
  | 0, k, hb, _ => by
    have : k = 0 := by omega
    rw [this]; exact lt_self _
  | b + 1, k, hb, hk => by
    by_cases e : k = 0
    · rw [e]; exact lt_self _
    · have h1 := h k (by omega) hk trivial
      exact le_trans (heap_root h b ((k - 1) / 2) (by omega) (by omega)) h1

/-- THE FIRST LOOP: heap order from i on; then down at i -/
theorem build_step {n i : Nat} {d : Nat → Due} {f : Nat} (hf : n ≤ f + i) (h : Heap (fun p => i + 1 ≤ p) n d) : Heap (fun p => i ≤ p) n (down n f i d) := by
  refine down_heap (S := fun p => i ≤ p) (fun p hp => ⟨by omega, by omega⟩) f i d (Nat.le_refl _) hf (fun c h0 hc hp hx => h c h0 hc (by omega)) (fun c h0 hc hx hi hp => by omega)

/-- THE SECOND LOOP's state: the places below m + 1 are a heap; those behind are sorted; none behind is greater than any ahead -/
def Pop (n m : Nat) (d : Nat → Due) : Prop :=
  Heap (fun _ => True) m d ∧ (∀ i j, m ≤ i → i ≤ j → j < n → lt (d i) (d j) = false) ∧ (∀ i j, i < m → m ≤ j → j < n → lt (d i) (d j) = false)

theorem pop_start {n : Nat} {d : Nat → Due} (h : Heap (fun _ => True) n d) : Pop n n d := ⟨h, fun i j a b c => by omega, fun i j a b c => by omega⟩

theorem pop_step {n m f : Nat} {d : Nat → Due} (hm0 : 0 < m) (hf : m ≤ f) (h : Pop n (m + 1) d) : Pop n m (down m f 0 (swap d 0 m)) := by
  obtain ⟨h1, h2, h3⟩ := h
  have hbey : ∀ k, m ≤ k → down m f 0 (swap d 0 m) k = swap d 0 m k := fun k hk => down_beyond f 0 _ hm0 k hk
  have hat : down m f 0 (swap d 0 m) m = d 0 := by rw [hbey m (Nat.le_refl _), swap_snd]
  have hroot : ∀ k, k < m + 1 → lt (d k) (d 0) = false := fun k hk => heap_root h1 k k (Nat.le_refl _) hk
  have hin : ∀ i, i < m → ∃ k, k < m + 1 ∧ down m f 0 (swap d 0 m) i = d k := by
    intro i hi
    have p : 0 < cnt (down m f 0 (swap d 0 m)) (down m f 0 (swap d 0 m) i) m := cnt_at hi
    rw [down_cnt f 0 _ hm0] at p
    obtain ⟨k, hk, ek⟩ := cnt_pos p
    by_cases e : k = 0
    · refine ⟨m, by omega, ?_⟩
      rw [← ek, e, swap_fst]
    · refine ⟨k, by omega, ?_⟩
      rw [← ek, swap_other e (by omega)]
  refine ⟨?_, ?_, ?_⟩
  · refine down_heap (S := fun _ => True) (fun p _ => ⟨trivial, trivial⟩) f 0 _ trivial (by omega) (fun c h0 hc _ hx => ?_) (fun c _ _ _ h0 _ => by omega)
    rw [swap_other (by omega) (by omega), swap_other hx (by omega)]
    exact h1 c h0 (by omega) trivial
  · intro i j a b c
    by_cases e : i = m
    · rw [e, hat]
      by_cases e2 : j = m
      · rw [e2, hat]; exact lt_self _
      · rw [hbey j (by omega), swap_other (by omega) e2]
        exact h3 0 j (by omega) (by omega) c
    · rw [hbey i (by omega), hbey j (by omega), swap_other (by omega) e, swap_other (by omega) (by omega)]
      exact h2 i j (by omega) b c
  · intro i j a b c
    obtain ⟨k, hk, ek⟩ := hin i a
    rw [ek]
    by_cases e2 : j = m
    · rw [e2, hat]; exact hroot k hk
    · rw [hbey j (by omega), swap_other (by omega) e2]
      exact h3 k j hk (by omega) c

theorem pop_end {n : Nat} {d : Nat → Due} (h : Pop n 1 d) : Desc d n := by
  obtain ⟨_, h2, h3⟩ := h
  intro i j a b
  by_cases e : i = 0
  · by_cases e2 : j = 0
    · rw [e, e2]; exact lt_self _
    · rw [e]; exact h3 0 j (by omega) (by omega) b
  · exact h2 i j (by omega) a b

theorem cnt_down_swap {n m f : Nat} {d : Nat → Due} {x : Due} (hm : m < n) (hm0 : 0 < m) : cnt (down m f 0 (swap d 0 m)) x n = cnt d x n := by
  have e : cnt (down m f 0 (swap d 0 m)) x n = cnt (swap d 0 m) x n := by
    have key : ∀ t, cnt (down m f 0 (swap d 0 m)) x (m + t) = cnt (swap d 0 m) x (m + t) := by
      intro t
      induction t with
      | zero => exact down_cnt f 0 _ hm0
      | succ t ih =>
        show cnt _ x (m + t + 1) = cnt _ x (m + t + 1)
        simp only [cnt, ih]
        rw [down_beyond f 0 _ hm0 (m + t) (by omega)]
    have := key (n - m)
    have e2 : m + (n - m) = n := by omega
    rwa [e2] at this
  rw [e, cnt_swap (by omega) hm]

/-! ### insertion sort, greatest first -/
/-- the inner loop's state: the first x + 1 places are in order but for the due at j, which may be too great for those ahead -/
def Ins (x j : Nat) (d : Nat → Due) : Prop :=
  (∀ a b, a ≤ b → b ≤ x → a ≠ j → b ≠ j → lt (d a) (d b) = false) ∧ (∀ b, j < b → b ≤ x → lt (d j) (d b) = false)

theorem ins_start {x : Nat} {d : Nat → Due} (h : Desc d x) : Ins x x d := ⟨fun a b h1 h2 h3 h4 => h a b h1 (by omega), fun b h1 h2 => by omega⟩
theorem ins_step {x j : Nat} {d : Nat → Due} (_hj : j + 1 ≤ x) (h : Ins x (j + 1) d) (hl : lt (d j) (d (j + 1)) = true) : Ins x j (swap d j (j + 1)) := by
  obtain ⟨h1, h2⟩ := h
  refine ⟨fun a b hab hb ha hbj => ?_, fun b hb1 hb2 => ?_⟩
  · by_cases ea : a = j + 1
    · rw [ea, swap_snd]
      by_cases eb : b = j + 1
      · rw [eb, swap_snd]; exact lt_self _
      · rw [swap_other hbj eb]; exact h1 j b (by omega) hb (by omega) eb
    · rw [swap_other ha ea]
      by_cases eb : b = j + 1
      · rw [eb, swap_snd]; exact h1 a j (by omega) (by omega) ea (by omega)
      · rw [swap_other hbj eb]; exact h1 a b hab hb ea eb
  · rw [swap_fst]
    by_cases eb : b = j + 1
    · rw [eb, swap_snd]; exact le_of_lt hl
    · rw [swap_other (by omega) eb]; exact h2 b (by omega) hb2
theorem ins_end {x j : Nat} {d : Nat → Due} (h : Ins x j d) (hl : ∀ i, i + 1 = j → lt (d i) (d j) = false) : Desc d (x + 1) := by
  obtain ⟨h1, h2⟩ := h
  intro a b hab hb
  by_cases ea : a = j
  · by_cases eb : b = j
    · rw [ea, eb]; exact lt_self _
    · rw [ea]; exact h2 b (by omega) (by omega)
  · by_cases eb : b = j
    · rw [eb]
      match j, hl, h1 with
      | 0, _, _ => omega
      | i + 1, hl, h1 =>
        have hi := hl i rfl
        by_cases ei : a = i
        · rw [ei]; exact hi
        · exact le_trans hi (h1 a i (by omega) (by omega) (by omega) (by omega))
    · exact h1 a b hab (by omega) ea eb
theorem desc_one (d : Nat → Due) : Desc d 1 := fun i j a b => by
  have : i = j := by omega
  rw [this]; exact lt_self _

end Go.Proofs.Qxb6617152a.Plain
