import Derived.Test.Qxb6617152aWalksA
namespace Go.Proofs.Qxb6617152a.W
open Go.RowKit
open Go.Proofs.Qxb6617152a.Plain
set_option linter.unusedVariables false

theorem info2 : (Try.prog.info? 2).map (fun i => (i.zero, i.size, i.bytes)) = some (some (.int .i64 0), 1, 8) := by kernel_rfl
theorem info21 : (Try.prog.info? 21).map (fun i => (i.zero, i.size, i.bytes)) = some (some (.int .i32 0), 1, 4) := by kernel_rfl

theorem bytes6 (a b : Option Addr) (n c m e : Nat) (w : World) (hn : n ≤ maxLen) (hm : m ≤ maxLen) : Calls Try.prog 6 #[.slice a n c, .slice b m e] w fun e w' => ∃ s : Bool, e = .returned (.bool s) ∧ ((n ≤ 4096 ∧ m ≤ 4096) → s = true) ∧ w' = w := by
  unfold maxLen at hn hm
  by_cases h1 : n ≤ 1048576
  · by_cases h2 : m ≤ 1048576
    · by_cases h3 : n + m ≤ 1048576
      · go_enter Try.func6, Try.ntmps6
        go_wp2
        go_ret
        exact ⟨true, rfl, fun _ => rfl, rfl⟩
      · go_enter Try.func6, Try.ntmps6
        go_wp2
        go_ret
        exact ⟨false, rfl, fun h => by omega, rfl⟩
    · go_enter Try.func6, Try.ntmps6
      go_wp2
      go_ret
      exact ⟨false, rfl, fun h => by omega, rfl⟩
  · go_enter Try.func6, Try.ntmps6
    go_wp2
    go_ret
    exact ⟨false, rfl, fun h => by omega, rfl⟩

/-- the cells of a row -/
def cellsOf (k : IntKind) (n : Nat) (z : Nat → Int) : List Value := (List.range n).map fun i => .int k (z i)
theorem cells_len (k : IntKind) (n : Nat) (z : Nat → Int) : (cellsOf k n z).length = n := by simp [cellsOf]
theorem cells_get {k : IntKind} {n : Nat} {z : Nat → Int} {j : Nat} {v : Value} (h : (cellsOf k n z)[j]? = some v) : j < n ∧ v = .int k (z j) := by
  have hj : j < n := by
    by_cases x : j < n
    · exact x
    · rw [List.getElem?_eq_none (by rw [cells_len]; omega)] at h; cases h
  refine ⟨hj, ?_⟩
  simp [cellsOf, hj] at h
  exact h.symm
theorem cells_one {k : IntKind} {n : Nat} {z : Nat → Int} : ∀ v ∈ cellsOf k n z, v.oneCell' = true := fun v hv => by
  simp [cellsOf] at hv
  obtain ⟨i, _, rfl⟩ := hv
  rfl
theorem splice_all {α : Type} (L cs : List α) (h : L.length = cs.length) : splice L 0 cs = cs := by
  unfold splice; simp [← h]
theorem rw_of_block {w : World} {k : IntKind} {g n : Nat} {z : Nat → Int} {t : TypeId} (h : w.heap[g]? = some (.cells (cellsOf k n z).toArray t (0, 0))) : Rw w k g n z := by
  have hlt : g < w.heap.size := by
    by_cases x : g < w.heap.size
    · exact x
    · rw [Array.getElem?_eq_none (by omega)] at h; cases h
  refine ⟨fun _ => hlt, fun i hi => ?_, fun i hi => ?_⟩
  · simp [World.cell?, h, cellsOf, hi]
  · simp [World.frozen?, h]

/-- the block of a row that was made -/
theorem own_block {w : World} {base e g n : Nat} {xs : List Value} (o : w.ownsRow base e 1 (.slice (some ⟨g, 0, none⟩) n n) n xs) : ∃ cur : List Value, cur.length = n ∧ w.heap[g]? = some (.cells cur.toArray e (0, 0)) := by
  rcases o.2 with ⟨h, _⟩ | ⟨g', cap, cur, hv, _, hb, _, _, hs, _⟩
  · cases h
  · injection hv with h1 h2 h3
    injection h1 with h1
    injection h1 with h1
    subst h1
    subst h3
    exact ⟨cur.toList, by simpa using hs, by simpa using hb⟩

theorem copy_src {w : World} {k : IntKind} {b off n : Nat} {z : Nat → Int} {y : Addr} (ha : 0 < n → some y = some ⟨b, off, none⟩) (h0 : 0 < n) (h : Rd w k b off n z) :
    ∃ ad, some y = some ad ∧ ∀ j v, (cellsOf k n z)[j]? = some v → w.cell? (ad.add j) = some v := by
  refine ⟨y, rfl, fun j v hj => ?_⟩
  obtain ⟨hj', rfl⟩ := cells_get hj
  have e := ha h0
  injection e with e
  subst e
  rw [WideShapes.add_plain]; exact h.2 j hj'
/-- clone64 -/
theorem clone64_any (a : Option Addr) (b off n c : Nat) (z : Nat → Int) (w : World) (ha : 0 < n → a = some ⟨b, off, none⟩) (hnil : a = none → n = 0 ∧ c = 0) (hn : n ≤ 4096) (h : Rd w .i64 b off n z) :
    Calls Try.prog 7 #[.slice a n c] w fun e w' => ∃ (a' : Option Addr) (c' : Nat), e = .returned (.slice a' n c') ∧ (0 < n → a' = some ⟨w.heap.size, 0, none⟩) ∧ (a' = none → n = 0 ∧ c' = 0) ∧ n ≤ c' ∧ c' ≤ 4096 ∧ Rw w' .i64 w.heap.size n z ∧ Below w.heap.size w w' := by
  have hq := fun w => Lib.run_eql_slice_nil (P := Try.prog) w 22 2 a n c 0 0 Try.underlying22
  match a with
  | none =>
    obtain ⟨rfl, rfl⟩ := hnil rfl
    simp only [Option.isNone_none] at hq
    clear ha hnil h
    go_enter Try.func7, Try.ntmps7
    go_wp2
    go_ret
    exact ⟨none, 0, rfl, fun h => by omega, fun _ => ⟨trivial, rfl⟩, Nat.le_refl _, by omega, ⟨fun h => by omega, fun i hi => by omega, fun i hi => by omega⟩, Below.refl _ _⟩
  | some y =>
    simp only [Option.isNone_some] at hq
    obtain ⟨i0, hi, hz0, hz1, hz2⟩ := info_parts info2
    have hcl := cells_len .i64 n z
    have H : Hid (Rd w .i64 b off n z) := h
    have HA : Hid (0 < n → some y = some ⟨b, off, none⟩) := ha
    clear hnil h ha
    go_enter Try.func7, Try.ntmps7
    go_wp2_with (first
      | (at_make; refine wpList_make_full _ rfl _ _ 22 rfl w.heap.size 2 i0 _ 1 Try.underlying22 hi hz0 hz1 .i64 .i64 n n n rfl rfl rfl rfl (by rw [hz2]; omega) (by unfold maxLen; omega) (Nat.le_refl _) ?_; intro w1 hown1 hgrow1; obtain ⟨cur, hcur, hblk⟩ := own_block hown1; have hb1 : Below w.heap.size w w1 := (Below.refl _ _).grown hgrow1 (Nat.le_refl _) (fun k hk => by cases hk); have H1 : Hid (Rd w1 .i64 b off n z) := H.out.later hb1; have HB : Hid (w1.heap[w.heap.size]? = some (.cells cur.toArray 2 (0, 0))) := hblk; clear hown1 hgrow1 hblk)
      | (have _t := HB; (refine wpList_copy_splice rfl (.tmp 9) (.tmp 10) 22 22 rfl 2 Try.underlying22 (by kernel_rfl) _ _ n n n c rfl rfl w.heap.size 0 cur 2 HB.out (cellsOf .i64 n z) (by rw [hcl]; exact (Nat.min_self n).symm) (fun h0 => ⟨rfl, copy_src HA.out (by rw [hcl] at h0; exact h0) H1.out⟩) (by rw [hcl]; omega) cells_one w.heap.size w hb1 (Nat.le_refl _) ?_; intro w2 HG2 hB2)))
    go_ret
    have HG3 := HG2.out
    rw [splice_all _ _ (hcur.trans hcl.symm)] at HG3
    exact ⟨_, n, rfl, fun _ => rfl, fun h => (by cases h), Nat.le_refl _, hn, rw_of_block HG3, hB2⟩

/-- clone32 -/
theorem clone32_any (a : Option Addr) (b off n c : Nat) (z : Nat → Int) (w : World) (ha : 0 < n → a = some ⟨b, off, none⟩) (hnil : a = none → n = 0 ∧ c = 0) (hn : n ≤ 4096) (h : Rd w .i32 b off n z) :
    Calls Try.prog 8 #[.slice a n c] w fun e w' => ∃ (a' : Option Addr) (c' : Nat), e = .returned (.slice a' n c') ∧ (0 < n → a' = some ⟨w.heap.size, 0, none⟩) ∧ (a' = none → n = 0 ∧ c' = 0) ∧ n ≤ c' ∧ c' ≤ 4096 ∧ Rw w' .i32 w.heap.size n z ∧ Below w.heap.size w w' := by
  have hq := fun w => Lib.run_eql_slice_nil (P := Try.prog) w 23 21 a n c 0 0 Try.underlying23
  match a with
  | none =>
    obtain ⟨rfl, rfl⟩ := hnil rfl
    simp only [Option.isNone_none] at hq
    clear ha hnil h
    go_enter Try.func8, Try.ntmps8
    go_wp2
    go_ret
    exact ⟨none, 0, rfl, fun h => by omega, fun _ => ⟨trivial, rfl⟩, Nat.le_refl _, by omega, ⟨fun h => by omega, fun i hi => by omega, fun i hi => by omega⟩, Below.refl _ _⟩
  | some y =>
    simp only [Option.isNone_some] at hq
    obtain ⟨i0, hi, hz0, hz1, hz2⟩ := info_parts info21
    have hcl := cells_len .i32 n z
    have H : Hid (Rd w .i32 b off n z) := h
    have HA : Hid (0 < n → some y = some ⟨b, off, none⟩) := ha
    clear hnil h ha
    go_enter Try.func8, Try.ntmps8
    go_wp2_with (first
      | (at_make; refine wpList_make_full _ rfl _ _ 23 rfl w.heap.size 21 i0 _ 1 Try.underlying23 hi hz0 hz1 .i64 .i64 n n n rfl rfl rfl rfl (by rw [hz2]; omega) (by unfold maxLen; omega) (Nat.le_refl _) ?_; intro w1 hown1 hgrow1; obtain ⟨cur, hcur, hblk⟩ := own_block hown1; have hb1 : Below w.heap.size w w1 := (Below.refl _ _).grown hgrow1 (Nat.le_refl _) (fun k hk => by cases hk); have H1 : Hid (Rd w1 .i32 b off n z) := H.out.later hb1; have HB : Hid (w1.heap[w.heap.size]? = some (.cells cur.toArray 21 (0, 0))) := hblk; clear hown1 hgrow1 hblk)
      | (have _t := HB; (refine wpList_copy_splice rfl (.tmp 9) (.tmp 10) 23 23 rfl 21 Try.underlying23 (by kernel_rfl) _ _ n n n c rfl rfl w.heap.size 0 cur 21 HB.out (cellsOf .i32 n z) (by rw [hcl]; exact (Nat.min_self n).symm) (fun h0 => ⟨rfl, copy_src HA.out (by rw [hcl] at h0; exact h0) H1.out⟩) (by rw [hcl]; omega) cells_one w.heap.size w hb1 (Nat.le_refl _) ?_; intro w2 HG2 hB2)))
    go_ret
    have HG3 := HG2.out
    rw [splice_all _ _ (hcur.trans hcl.symm)] at HG3
    exact ⟨_, n, rfl, fun _ => rfl, fun h => (by cases h), Nat.le_refl _, hn, rw_of_block HG3, hB2⟩

end Go.Proofs.Qxb6617152a.W
