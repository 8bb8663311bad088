import Derived.Test.Qxb6617005aWalksA
import Derived.Deep.RegionHeld3
import Derived.Deep.DrawnRows
namespace Go.Proofs.Qxb6617005a.W
open Go.RowKit
open Go.Proofs.Qxb6617005a.Plain
set_option linter.unusedVariables false

theorem info47 : (Try.prog.info? 47).map (fun i => (i.zero, i.size, i.bytes)) = some (some (.agg #[.int .u8 0, .bool false, .nilIface, .int .u64 0, .int .u64 0]), 5, 40) := by kernel_rfl

theorem span_at (x y : Int) (w : World) :
    Calls Try.prog 34 #[.int .u64 x, .int .u64 y] w fun e w' => e = .returned (.agg #[.int .u8 0, .bool false, .nilIface, .int .u64 x, .int .u64 y]) ∧ w' = w.alloc (.cells #[.int .u8 0, .bool false, .nilIface, .int .u64 x, .int .u64 y] 47) := by
  go_enter Try.func34, Try.ntmps34
  go_wp2
  exact bodyPost_ret (v := .agg #[.int .u8 0, .bool false, .nilIface, .int .u64 x, .int .u64 y]) (by simp [results, Try.results34, go_sem]) rfl ⟨rfl, rfl⟩

/-- VALUES IN MEMORY: n of them from offset off of block g on, each of five cells. -/
def Vals (w : World) (g off n : Nat) (A R : Nat → Int) : Prop :=
  g < w.heap.size ∧ ∀ i, i < n → w.cell? ⟨g, off + i * 5, none⟩ = some (.int .u8 0) ∧ w.cell? ⟨g, off + i * 5 + 1, none⟩ = some (.bool false) ∧ w.cell? ⟨g, off + i * 5 + 2, none⟩ = some .nilIface ∧
    w.cell? ⟨g, off + i * 5 + 3, none⟩ = some (.int .u64 (A i)) ∧ w.cell? ⟨g, off + i * 5 + 4, none⟩ = some (.int .u64 (R i))
theorem Vals.later {w w' : World} {g off n : Nat} {A R : Nat → Int} (h : Vals w g off n A R) (hb : Below w.heap.size w w') : Vals w' g off n A R := by
  refine ⟨Nat.lt_of_lt_of_le h.1 hb.size, fun i hi => ?_⟩
  rw [hb.cell (p := ⟨g, _, none⟩) h.1, hb.cell (p := ⟨g, _, none⟩) h.1, hb.cell (p := ⟨g, _, none⟩) h.1, hb.cell (p := ⟨g, _, none⟩) h.1, hb.cell (p := ⟨g, _, none⟩) h.1]
  exact h.2 i hi
theorem Vals.head {w : World} {g off n k : Nat} {A R : Nat → Int} (h : Vals w g off n A R) (hk : k ≤ n) : Vals w g off k A R := ⟨h.1, fun i hi => h.2 i (by omega)⟩
theorem Vals.tail {w : World} {g off n k : Nat} {A R : Nat → Int} (h : Vals w g off n A R) (hk : k ≤ n) : Vals w g (off + k * 5) (n - k) (fun i => A (k + i)) (fun i => R (k + i)) := by
  refine ⟨h.1, fun i hi => ?_⟩
  have := h.2 (k + i) (by omega)
  have e : off + (k + i) * 5 = off + k * 5 + i * 5 := by omega
  rw [e] at this; exact this
theorem Spans.head {w : World} {b off n k : Nat} {A R : Nat → Int} (h : Spans w b off n A R) (hk : k ≤ n) : Spans w b off k A R := ⟨fun h0 => h.1 (by omega), fun i hi => h.2.1 i (by omega), fun i hi => h.2.2 i (by omega)⟩

/-- the first k elements of the row xs are the values -/
def Got (xs : List Value) (k : Nat) (A R : Nat → Int) : Prop :=
  ∀ i, i < k → xs[i * 5]? = some (.int .u8 0) ∧ xs[i * 5 + 1]? = some (.bool false) ∧ xs[i * 5 + 2]? = some .nilIface ∧ xs[i * 5 + 3]? = some (.int .u64 (A i)) ∧ xs[i * 5 + 4]? = some (.int .u64 (R i))
theorem got_step {xs : List Value} {k n : Nat} {A R : Nat → Int} (h : Got xs k A R) (hl : xs.length = n * 5) (hk : k < n) :
    Got (((((xs.set (k * 5) (.int .u8 0)).set (k * 5 + 1) (.bool false)).set (k * 5 + 2) .nilIface).set (k * 5 + 3) (.int .u64 (A k))).set (k * 5 + 4) (.int .u64 (R k))) (k + 1) A R := by
  intro i hi
  simp only [List.getElem?_set, List.length_set]
  by_cases e : i = k
  · subst e
    refine ⟨?_, ?_, ?_, ?_, ?_⟩
    · rw [if_neg (by omega), if_neg (by omega), if_neg (by omega), if_neg (by omega), if_pos rfl, if_pos (by omega)]
    · rw [if_neg (by omega), if_neg (by omega), if_neg (by omega), if_pos rfl, if_pos (by omega)]
    · rw [if_neg (by omega), if_neg (by omega), if_pos rfl, if_pos (by omega)]
    · rw [if_neg (by omega), if_pos rfl, if_pos (by omega)]
    · rw [if_pos rfl, if_pos (by omega)]
  · have := h i (by omega)
    refine ⟨?_, ?_, ?_, ?_, ?_⟩
    all_goals rw [if_neg (by omega), if_neg (by omega), if_neg (by omega), if_neg (by omega), if_neg (by omega)]
    · exact this.1
    · exact this.2.1
    · exact this.2.2.1
    · exact this.2.2.2.1
    · exact this.2.2.2.2
theorem row_step {w : World} {base g n : Nat} {xs : List Value} (o : w.ownsRow base 47 5 (.slice (some ⟨g, 0, none⟩) n n) n xs) (j0 j1 j2 j3 j4 : Nat) (u0 u1 u2 u3 u4 : Value) (ob : Obj) :
    (((((((w.setCell ⟨g, j0, none⟩ u0).setCell ⟨g, j1, none⟩ u1).setCell ⟨g, j2, none⟩ u2).setCell ⟨g, j3, none⟩ u3).setCell ⟨g, j4, none⟩ u4).alloc ob).drew).ownsRow base 47 5 (.slice (some ⟨g, 0, none⟩) n n) n (((((xs.set j0 u0).set j1 u1).set j2 u2).set j3 u3).set j4 u4) :=
  ((((((o.stored j0 u0).1.stored j1 u1).1.stored j2 u2).1.stored j3 u3).1.stored j4 u4).1.alloc ob).drew
theorem below_step {a w : World} {g B : Nat} (h : Below B a w) (hB : B ≤ w.heap.size) (hg : B ≤ g) (j0 j1 j2 j3 j4 : Nat) (u0 u1 u2 u3 u4 : Value) (ob : Obj) :
    Below B a (((((((w.setCell ⟨g, j0, none⟩ u0).setCell ⟨g, j1, none⟩ u1).setCell ⟨g, j2, none⟩ u2).setCell ⟨g, j3, none⟩ u3).setCell ⟨g, j4, none⟩ u4).alloc ob).drew) :=
  (((((((h.setCell hg u0).setCell hg u1).setCell hg u2).setCell hg u3).setCell hg u4)).alloc (by simp [World.setCell]; exact hB) ob).drew
theorem vals_of {w : World} {base g n : Nat} {xs : List Value} {A R : Nat → Int} (o : w.ownsRow base 47 5 (.slice (some ⟨g, 0, none⟩) n n) n xs) (h : Got xs n A R) : Vals w g 0 n A R := by
  refine ⟨(o.lt g rfl).2, fun i hi => ?_⟩
  rw [Nat.zero_add, o.cellAt _ (by omega), o.cellAt _ (by omega), o.cellAt _ (by omega), o.cellAt _ (by omega), o.cellAt _ (by omega)]
  exact h i hi

/-- zzBuild -/
theorem build_any (a : Option Addr) (b off n c : Nat) (A R : Nat → Int) (w : World) (ha : 0 < n → a = some ⟨b, off, none⟩) (hn : n ≤ 65536) (hs : Spans w b off n A R) :
    Calls Try.prog 14 #[.slice a n c] w fun e w' => e = .returned (.slice (some ⟨w.heap.size, 0, none⟩) n n) ∧ Vals w' w.heap.size 0 n A R ∧ Below w.heap.size w w' := by
  obtain ⟨i0, hi, hz0, hz1, hz2⟩ := info_parts info47
  go_enter Try.func14, Try.ntmps14
  go_wp2_with (at_make; refine wpList_make_full _ rfl _ _ 33 rfl w.heap.size 47 i0 _ 5 Try.underlying33 hi hz0 hz1 .i64 .i64 n n n rfl rfl rfl rfl (by rw [hz2]; omega) (by unfold maxLen; omega) (Nat.le_refl _) ?_; intro w1 hown1 hgrow1)
  go_loopw [4] (fun i wr => ∃ (k : Nat) (xs : List Value), k ≤ n ∧ i = .int .i64 k ∧ Hid (wr.ownsRow w.heap.size 47 5 (.slice (some ⟨w.heap.size, 0, none⟩) n n) n xs) ∧ Hid (Below w.heap.size w wr) ∧ Hid (Got xs k A R)) (fun i _ => n - (intOf i).toNat)
  case atStart => exact ⟨0, _, Nat.zero_le _, rfl, hown1, (Below.refl _ _).grown hgrow1 (Nat.le_refl _) (fun k hk => by cases hk), fun i hi => by omega⟩
  case round =>
    obtain ⟨k, xs, hk, rfl, O1, B1, G1⟩ := hrel
    clear hown1 hgrow1
    by_cases hlt : k < n
    · obtain rfl := ha (by omega)
      have S1 : Hid (Spans wr b off n A R) := hs.later B1.out
      have hb : b < wr.heap.size := S1.out.1 (by omega)
      have c0 := S1.out.2.1 k hlt
      have c1 := S1.out.2.2 k hlt
      have i0 : (0 : Int) ≤ (k : Int) := by omega
      have i1 : (k : Int) < n := by omega
      have hgw : w.heap.size < wr.heap.size := (O1.out.lt _ rfl).2
      have f0 : wr.frozen? ⟨w.heap.size, k * 5, none⟩ = false := O1.out.frozenAt _
      have f1 : wr.frozen? ⟨w.heap.size, k * 5 + 1, none⟩ = false := O1.out.frozenAt _
      have f2 : wr.frozen? ⟨w.heap.size, k * 5 + 2, none⟩ = false := O1.out.frozenAt _
      have f3 : wr.frozen? ⟨w.heap.size, k * 5 + 3, none⟩ = false := O1.out.frozenAt _
      have f4 : wr.frozen? ⟨w.heap.size, k * 5 + 4, none⟩ = false := O1.out.frozenAt _
      have hlen := O1.out.1
      obtain ⟨x0, e0⟩ : ∃ x, wr.cell? ⟨w.heap.size, k * 5, none⟩ = some x := ⟨_, (O1.out.cellAt _ (by omega)).trans (List.getElem?_eq_getElem (by omega))⟩
      obtain ⟨x1, e1⟩ : ∃ x, wr.cell? ⟨w.heap.size, k * 5 + 1, none⟩ = some x := ⟨_, (O1.out.cellAt _ (by omega)).trans (List.getElem?_eq_getElem (by omega))⟩
      obtain ⟨x2, e2⟩ : ∃ x, wr.cell? ⟨w.heap.size, k * 5 + 2, none⟩ = some x := ⟨_, (O1.out.cellAt _ (by omega)).trans (List.getElem?_eq_getElem (by omega))⟩
      obtain ⟨x3, e3⟩ : ∃ x, wr.cell? ⟨w.heap.size, k * 5 + 3, none⟩ = some x := ⟨_, (O1.out.cellAt _ (by omega)).trans (List.getElem?_eq_getElem (by omega))⟩
      obtain ⟨x4, e4⟩ : ∃ x, wr.cell? ⟨w.heap.size, k * 5 + 4, none⟩ = some x := ⟨_, (O1.out.cellAt _ (by omega)).trans (List.getElem?_eq_getElem (by omega))⟩
      have HL : Hid (xs.length = n * 5) := hlen
      clear hlen
      go_wp2
      go_region_with (go_at_call 34; refine (span_at _ _ _).mono ?_; rintro e w' ⟨rfl, rfl⟩)
      all_goals
        go_wp2
        go_roundw
        case rel => exact ⟨k + 1, _, by omega, by go_num, row_step O1.out _ _ _ _ _ _ _ _ _ _ _, below_step B1.out (by omega) (Nat.le_refl _) _ _ _ _ _ _ _ _ _ _ _, got_step G1.out HL.out hlt⟩
        case measure => simp [intOf]; omega
    · go_wp2
      go_ret
      have : k = n := by omega
      have G2 := G1.out
      rw [this] at G2
      exact ⟨rfl, vals_of O1.out G2, B1.out⟩

end Go.Proofs.Qxb6617005a.W
