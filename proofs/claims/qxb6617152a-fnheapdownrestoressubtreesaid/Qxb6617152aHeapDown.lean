import Derived.Test.Qxb6617152aDown
namespace Go.Proofs.Qxb6617152a.W
open Go.RowKit
open Go.Proofs.Qxb6617152a.Plain
set_option linter.unusedVariables false

theorem info50 : (Try.prog.info? 50).map (fun i => (i.zero, i.size, i.bytes)) = some (some (.agg #[.int .i64 0, .int .i32 0]), 2, 16) := by kernel_rfl
theorem fill_made {w : World} {base h n : Nat} {xs : List Value} {d : Nat → Due} (o : w.ownsRow base 50 2 (.slice (some ⟨h, 0, none⟩) n n) n xs) : Fill w h n 0 d := by
  have hl := o.1
  exact ⟨(o.lt h rfl).2, fun j hj => ⟨_, (o.cellAt j hj).trans (List.getElem?_eq_getElem (by omega))⟩, fun j _ => o.frozenAt j, fun i hi => by omega⟩
theorem two_put {w : World} {ga gd N k : Nat} {d e : Nat → Due} (H : Two w ga gd N (fun j => if j < k then e j else d j)) (hk : k < N) :
    Two ((w.setCell ⟨ga, k, none⟩ (.int .i64 (e k).1)).setCell ⟨gd, k, none⟩ (.int .i32 (e k).2)) ga gd N (fun j => if j < k + 1 then e j else d j) := by
  refine (H.put hk (e k)).congr (fun j hj => ?_)
  by_cases h1 : j = k
  · rw [if_pos h1, if_pos (by omega), h1]
  · by_cases h2 : j < k
    · rw [if_neg h1, if_pos h2, if_pos (by omega)]
    · rw [if_neg h1, if_neg h2, if_neg (by omega)]

set_option maxHeartbeats 1000000 in
/-- ZZHeapDown, at the first m of N places -/
theorem heapDown_any (ga gd N m ca cd i : Nat) (d : Nat → Due) (w : World) (hN : N ≤ 4096) (hm : m ≤ N) (hi : i < m) (H : Two w ga gd N d) :
    Calls Try.prog 10 #[.slice (some ⟨ga, 0, none⟩) m ca, .slice (some ⟨gd, 0, none⟩) m cd, .int .i64 i] w fun e w' => e = .returned (.tuple #[]) ∧ Two w' ga gd N (down m m i d) ∧ Keeps (fun k => k = ga ∨ k = gd) w w' := by
  obtain ⟨i0, hi0, hz0, hz1, hz2⟩ := info_parts info50
  have hne := H.1 (by omega)
  have hga := H.2.1.1 (by omega)
  have hgd := H.2.2.1 (by omega)
  have T0 : Hid (Two w ga gd N d) := H
  have hdown := fun W (HF : Fill W w.heap.size m m d) => down_any w.heap.size m m i d W (by omega) hi HF
  have hbey : Hid (∀ j, m ≤ j → down m m i d j = d j) := fun j hj => down_beyond m i d hi j hj
  generalize down m m i d = e at *
  clear H
  go_enter Try.func10, Try.ntmps10
  go_wp2_with (at_make; refine wpList_make_full _ rfl _ _ 48 rfl w.heap.size 50 i0 _ 2 Try.underlying48 hi0 hz0 hz1 .i64 .i64 m m m rfl rfl rfl rfl (by rw [hz2]; omega) (by unfold maxLen; omega) (Nat.le_refl _) ?_; intro w1 hown1 hgrow1; have F0 : Hid (Fill w1 w.heap.size m 0 d) := fill_made hown1; have B0 : Hid (Below w.heap.size w w1) := (Below.refl _ _).grown hgrow1 (Nat.le_refl _) (fun k hk => by cases hk); clear hown1 hgrow1)
  go_loopw [7] (fun s wr => ∃ k : Nat, k ≤ m ∧ s = .int .i64 k ∧ Hid (Fill wr w.heap.size m k d) ∧ Hid (Below w.heap.size w wr)) (fun s _ => m - (intOf s).toNat)
  case atStart => exact ⟨0, Nat.zero_le _, rfl, F0.out, B0.out⟩
  case round =>
    clear F0 B0
    obtain ⟨k, hk, rfl, F1, B1⟩ := hrel
    by_cases hlt : k < m
    · have T1 : Hid (Two wr ga gd N d) := T0.out.later B1.out
      have c0 := T1.out.2.1.2.1 k (by omega)
      have c1 := T1.out.2.2.2.1 k (by omega)
      obtain ⟨v0, e0⟩ := F1.out.2.1 (k * 2) (by omega)
      obtain ⟨v1, e1⟩ := F1.out.2.1 (k * 2 + 1) (by omega)
      have f0 := F1.out.2.2.1 (k * 2) (by omega)
      have f1 := F1.out.2.2.1 (k * 2 + 1) (by omega)
      have i1 : (0 : Int) ≤ (k : Int) := by omega
      have i2 : (k : Int) < m := by omega
      go_wp2_with fail
      go_big_region
      go_wp2
      go_roundw
      case rel => exact ⟨k + 1, by omega, by go_num, (F1.out.next hlt).keep (Keeps.drew (fun _ => False) _) (fun h => h), ((B1.out.setCell (p := ⟨w.heap.size, k * 2, none⟩) (Nat.le_refl _) _).setCell (p := ⟨w.heap.size, k * 2 + 1, none⟩) (Nat.le_refl _) _).drew⟩
      case measure => simp [intOf]; omega
    · have F2 : Hid (Fill wr w.heap.size m m d) := by have := F1.out; have e : k = m := (by omega); rw [e] at this; exact this
      go_wp2_with (go_at_call 26; refine (hdown _ F2.out).mono ?_; rintro e' w2 ⟨rfl, hF, hK⟩)
      have B2 : Hid (Below w.heap.size w w2) := B1.out.trans (hK.below (fun x hx => by rw [hx]; exact Nat.le_refl _) (by have := B1.out.size; omega))
      have F3 : Hid (Fill w2 w.heap.size m m e) := hF
      clear hF hK F1 F2 B1 hdown
      have T2 : Hid (Two w2 ga gd N (fun j => if j < 0 then e j else d j)) := (T0.out.later B2.out).congr (fun j hj => (if_neg (by omega)).symm)
      go_loopw [8] (fun s wr => ∃ k : Nat, k ≤ m ∧ s = .int .i64 k ∧ Hid (Two wr ga gd N (fun j => if j < k then e j else d j)) ∧ Hid (Fill wr w.heap.size m m e) ∧ Hid (Keeps (fun k => k = ga ∨ k = gd) w wr)) (fun s _ => m - (intOf s).toNat)
      case atStart => exact ⟨0, Nat.zero_le _, rfl, T2.out, F3.out, Keeps.of_below _ B2.out⟩
      case round =>
        clear T2 F3 B2
        obtain ⟨q, hq, rfl, T4, F4, K4⟩ := hrel
        by_cases hlq : q < m
        · obtain ⟨c0, c1⟩ := F4.out.2.2.2 q hlq
          have a0 := T4.out.2.1.2.1 q (by omega)
          have a1 := T4.out.2.2.2.1 q (by omega)
          have f0 := T4.out.2.1.2.2 q (by omega)
          have f1 := T4.out.2.2.2.2 q (by omega)
          have hb1 : ga ≠ w.heap.size := by omega
          have hb2 : gd ≠ w.heap.size := by omega
          have K5 : Hid (Keeps (fun k => k = ga ∨ k = gd) w ((wr.setCell ⟨ga, q, none⟩ (.int .i64 (e q).1)).setCell ⟨gd, q, none⟩ (.int .i32 (e q).2))) := (K4.out.trans (Keeps.set _ ga q _ (.inl rfl))).trans (Keeps.set _ gd q _ (.inr rfl))
          have F5 : Hid (Fill ((wr.setCell ⟨ga, q, none⟩ (.int .i64 (e q).1)).setCell ⟨gd, q, none⟩ (.int .i32 (e q).2)) w.heap.size m m e) := F4.out.keep ((Keeps.set (S := fun k => k = ga ∨ k = gd) wr ga q _ (.inl rfl)).trans (Keeps.set _ gd q _ (.inr rfl))) (by omega)
          have T5 : Hid (Two ((wr.setCell ⟨ga, q, none⟩ (.int .i64 (e q).1)).setCell ⟨gd, q, none⟩ (.int .i32 (e q).2)) ga gd N (fun j => if j < q + 1 then e j else d j)) := two_put T4.out (by omega)
          go_wp2
          go_roundw
          case rel => exact ⟨q + 1, by omega, by go_num, T5.out, F5.out, K5.out⟩
          case measure => simp [intOf]; omega
        · go_wp2
          go_end0
          refine ⟨rfl, T4.out.congr (fun j hj => ?_), K4.out⟩
          by_cases h1 : j < q
          · rw [if_pos h1]
          · rw [if_neg h1]; exact (hbey.out j (by omega)).symm

end Go.Proofs.Qxb6617152a.W
