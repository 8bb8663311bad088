/-
  MORE PLAIN LAWS OF THE SEAT b6617152a: the subtree of a place; the dues in it. No Go here.
-/
import Derived.Test.Qxb6617152aPlain
namespace Go.Proofs.Qxb6617152a.Plain

/-- j climbs to its parent while it lies behind i -/
def subF (i : Nat) : Nat → Nat → Bool
  | 0, j => j == i
  | f + 1, j => if i < j then subF i f ((j - 1) / 2) else j == i
def sub (i j : Nat) : Bool := subF i j j

theorem subF_fuel (i : Nat) : ∀ (f g j : Nat), j ≤ f → j ≤ g → subF i f j = subF i g j
  | 0, 0, _, _, _ => rfl
  | 0, g + 1, j, hf, _ => by simp only [subF]; rw [if_neg (by omega)]
  | f + 1, 0, j, _, hg => by simp only [subF]; rw [if_neg (by omega)]
  | f + 1, g + 1, j, hf, hg => by
    simp only [subF]
    by_cases h : i < j
    · rw [if_pos h, if_pos h]; exact subF_fuel i f g _ (by omega) (by omega)
    · rw [if_neg h, if_neg h]
theorem sub_up {i j : Nat} (h : i < j) : sub i j = sub i ((j - 1) / 2) := by
  unfold sub
  obtain ⟨f, rfl⟩ : ∃ f, j = f + 1 := ⟨j - 1, by omega⟩
  have : subF i (f + 1) (f + 1) = subF i f ((f + 1 - 1) / 2) := by simp only [subF]; rw [if_pos h]
  rw [this]
  exact subF_fuel i _ _ _ (by omega) (Nat.le_refl _)
theorem sub_end {i j : Nat} (h : ¬ i < j) : sub i j = (j == i) := by
  unfold sub
  match j, h with
  | 0, _ => rfl
  | f + 1, h => simp only [subF]; rw [if_neg h]
theorem sub_self (i : Nat) : sub i i = true := by rw [sub_end (by omega)]; simp
theorem sub_below {i j : Nat} (h : j < i) : sub i j = false := by rw [sub_end (by omega)]; simp; omega
theorem sub_le {i j : Nat} (h : sub i j = true) : i ≤ j := by
  by_cases x : j < i
  · rw [sub_below x] at h; cases h
  · omega
theorem sub_kids (i : Nat) : Kids (fun j => sub i j = true) := fun p hp => by
  have := sub_le hp
  refine ⟨?_, ?_⟩
  · show sub i (2 * p + 1) = true
    rw [sub_up (by omega)]; have e : (2 * p + 1 - 1) / 2 = p := by omega
    rw [e]; exact hp
  · show sub i (2 * p + 2) = true
    rw [sub_up (by omega)]; have e : (2 * p + 2 - 1) / 2 = p := by omega
    rw [e]; exact hp

/-- no child in the subtree of i is less than its parent; 'root' says whether i's own two edges count -/
def Hob (d : Nat → Due) (n i : Nat) (root : Bool) : Prop := ∀ j, i ≤ j → j < n → (j = i → root = true) → sub i j = true → ∀ c, c = 2 * j + 1 ∨ c = 2 * j + 2 → c < n → lt (d c) (d j) = false

theorem hob_heap {d : Nat → Due} {n i : Nat} (h : Hob d n i false) : Heap (fun j => sub i j = true) n (down n n i d) := by
  refine down_heap (sub_kids i) n i d (sub_self i) (by omega) (fun c h0 hc hp hx => ?_) (fun c h0 hc hx hi hp => ?_)
  · exact h _ (sub_le hp) (by omega) (fun e => absurd e hx) hp c (by omega) hc
  · rw [sub_below (by omega)] at hp; cases hp
theorem hob_of_heap {d : Nat → Due} {n i : Nat} {root : Bool} (h : Heap (fun j => sub i j = true) n d) : Hob d n i root := by
  intro j hij hj _ hs c hc hcn
  have e : (c - 1) / 2 = j := by omega
  have := h c (by omega) hcn (by rw [e]; exact hs)
  rw [e] at this; exact this
theorem hob_same {d : Nat → Due} {n i : Nat} (hi : i < n) (h : Hob d n i true) : down n n i d = d :=
  down_same (fun c h0 hc hp => h i (Nat.le_refl _) hi (fun _ => rfl) (sub_self i) c (by omega) hc)
theorem hob_outside {d : Nat → Due} {n i j : Nat} (hj : sub i j = false) : down n n i d j = d j :=
  down_outside (sub_kids i) n i d (sub_self i) j (by rw [hj]; simp)

/-- the dues of the subtree, in order -/
def pick (d : Nat → Due) (i : Nat) : Nat → List Due
  | 0 => []
  | n + 1 => if sub i n = true then pick d i n ++ [d n] else pick d i n
theorem pick_yes {d : Nat → Due} {i k : Nat} (h : sub i k = true) : pick d i (k + 1) = pick d i k ++ [d k] := by simp only [pick]; rw [if_pos h]
theorem pick_no {d : Nat → Due} {i k : Nat} (h : sub i k = false) : pick d i (k + 1) = pick d i k := by simp only [pick]; rw [if_neg (by rw [h]; simp)]
theorem pick_len_le (d : Nat → Due) (i : Nat) : ∀ n, (pick d i n).length ≤ n
  | 0 => Nat.le_refl _
  | n + 1 => by
    have := pick_len_le d i n
    cases h : sub i n with
    | true => rw [pick_yes h, List.length_append, List.length_singleton]; omega
    | false => rw [pick_no h]; omega
theorem pick_len (d e : Nat → Due) (i : Nat) : ∀ n, (pick d i n).length = (pick e i n).length
  | 0 => rfl
  | n + 1 => by
    have := pick_len d e i n
    cases h : sub i n with
    | true => rw [pick_yes h, pick_yes h, List.length_append, List.length_append, this]; rfl
    | false => rw [pick_no h, pick_no h, this]
/-- how often x stands in the subtree; outside it -/
theorem pick_count {d e : Nat → Due} {i : Nat} {x : Due} (ho : ∀ j, sub i j = false → d j = e j) : ∀ n, (pick d i n).count x + cnt e x n = (pick e i n).count x + cnt d x n
  | 0 => rfl
  | n + 1 => by
    have := pick_count (x := x) ho n
    cases h : sub i n with
    | true =>
      rw [pick_yes h, pick_yes h, List.count_append, List.count_append, List.count_singleton, List.count_singleton]
      simp only [cnt, beq_iff_eq]
      omega
    | false =>
      rw [pick_no h, pick_no h]
      simp only [cnt, ho n h]
      omega
theorem pick_same {d : Nat → Due} {n i : Nat} {x : Due} (hi : i < n) : (pick (down n n i d) i n).count x = (pick d i n).count x := by
  have h1 := pick_count (d := down n n i d) (e := d) (i := i) (x := x) (fun j hj => hob_outside hj) n
  have h2 := down_cnt (x := x) n i d hi
  omega

/-- a list as a function; its counts -/
def fnOf (l : List Due) : Nat → Due := fun k => l.getD k (0, 0)
theorem cnt_fn {x : Due} : ∀ (l : List Due), cnt (fnOf l) x l.length = l.count x := by
  have key : ∀ (l : List Due) (k : Nat), k ≤ l.length → cnt (fnOf l) x k = (l.take k).count x := by
    intro l k
    induction k with
    | zero => intro _; simp [cnt]
    | succ k ih =>
      intro hk
      have hlt : k < l.length := by omega
      rw [List.take_succ_eq_append_getElem hlt, List.count_append, List.count_singleton]
      simp only [cnt, ih (by omega), beq_iff_eq]
      have e : fnOf l k = l[k] := by simp [fnOf, hlt]
      rw [e]
  intro l
  rw [key l l.length (Nat.le_refl _), List.take_length]

end Go.Proofs.Qxb6617152a.Plain
