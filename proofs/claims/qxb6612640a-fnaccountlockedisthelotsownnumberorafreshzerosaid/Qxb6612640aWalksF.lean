import Derived.Test.Qxb6612640aWalksE
namespace Go.Proofs.Qxb6612640a
open Go.RowKit

set_option maxRecDepth 100000 in
set_option maxHeartbeats 8000000 in
theorem law_run0 (a : Option Addr) (cap : Nat) (d : Int) (w : World) (hlo : -9223372036854775808 ≤ d) (hhi : d ≤ 9223372036854775807) :
    Calls Try.prog 4 #[.bool true, .slice a 0 cap, .int .i64 d] w fun e w' => e = .returned (.bool true) ∧ Below w.heap.size w w' := by
  obtain ⟨i0, hi, hz0, hz1, hz2⟩ := info_parts info29
  obtain ⟨i54, hi54, _, hsz54, _⟩ := info_parts info54
  go_enter Try.func4, Try.ntmps4
  go_wp2_with (first
    | (go_at_call 12; refine (zzBytes_yes _ _ _ _ _ _ (by omega)).mono ?_; rintro e w' ⟨rfl, rfl⟩)
    | (at_make; refine wpList_make_full _ rfl _ _ 27 rfl w.heap.size 29 i0 (.int .u64 0) 1 Try.underlying27 hi hz0 hz1 _ _ _ _ 0 rfl rfl rfl rfl (by rw [hz2]; omega) (by unfold maxLen; omega) (Nat.le_refl _) ?_; intro w1 hown hgr; have hrow := hide (Row.made hown); have hB1 := (Below.refl w.heap.size w).grown hgr (Nat.le_refl _) (fun k e => by cases e); clear hown hgr))
  have HBW := hide hB1
  have hsz : w.heap.size ≤ w1.heap.size := hB1.size
  clear hB1
  refine wp_loop_rounds 1 ?_
  rw [rounds_succ]
  go_wp2_with fail
  refine (account_run w.heap.size 0 [] _ hrow.out rfl (by omega)).mono ?_
  rintro e w2 ⟨rfl, hb2, q1, t, L, ht, hL1, hL2, q2, q3, q4, q5, q6, q7⟩
  obtain rfl : t = 0 := Nat.le_zero.1 ht.1
  have HB2 := hide (HBW.out.trans (hb2.mono HBW.out.size))
  clear hb2 hrow ht HBW q7
  go_wp2_with (go_at_call 14; refine (locked_run (w1.heap.size + 1) w1.heap.size L _ q1 q2).mono ?_; rintro e w' ⟨rfl, rfl⟩)
  refine (words_zero L 1 0 _ _ q4 hL2).mono ?_
  rintro e w3 ⟨rfl, hrow3, hb3⟩
  have hs3 := hrow3.lt
  have HB3 := hide (HB2.out.trans (hb3.mono HB2.out.size))
  have r1 := (hb3.cell (p := ⟨w1.heap.size + 1, 2, none⟩) (by show w1.heap.size + 1 < _; omega)).trans q1
  have r2 := (hb3.cell (p := ⟨w1.heap.size, 2, none⟩) (by show w1.heap.size < _; omega)).trans q2
  have r3 := (hb3.cell (p := ⟨L, 1, none⟩) hL2).trans q3
  have r4 := (hb3.cell (p := ⟨L, 2, none⟩) hL2).trans q4
  have r5 := (hb3.frozen (p := ⟨L, 1, none⟩) hL2).trans q5
  have r6 := (hb3.frozen (p := ⟨L, 2, none⟩) hL2).trans q6
  clear hb3 q1 q2 q3 q4 q5 q6 hrow3 HB2
  go_wp2_with fail
  refine wp_loop_rounds 1 ?_
  rw [rounds_succ]
  go_wp2_with fail
  refine wp_loop_rounds 1 ?_
  rw [rounds_succ]
  by_cases hd : d = 0
  · subst hd
    go_wp2_with fail
    refine (setInt_zero L 1 false (some ⟨w1.heap.size + 2, 0, none⟩) 0 0 _ r3 r4 r5 r6).mono ?_
    rintro e w4 ⟨rfl, hw4⟩
    have v1 : w4.cell? ⟨w1.heap.size + 1, 2, none⟩ = some (.pointer (some ⟨w1.heap.size, 0, none⟩)) := by rw [hw4, World.cell?_setCell_other _ ⟨L, 1, none⟩ _ _ (by simp), World.cell?_setCell_other _ ⟨L, 2, none⟩ _ _ (by first | (simp; done) | (simp; omega))]; exact r1
    have v2 : w4.cell? ⟨w1.heap.size, 2, none⟩ = some (.pointer (some ⟨L, 0, none⟩)) := by rw [hw4, World.cell?_setCell_other _ ⟨L, 1, none⟩ _ _ (by simp), World.cell?_setCell_other _ ⟨L, 2, none⟩ _ _ (by first | (simp; done) | (simp; omega))]; exact r2
    have v4 : w4.cell? ⟨L, 1 + 1, none⟩ = some (.slice (some ⟨w1.heap.size + 2, 0, none⟩) 0 0) := by rw [hw4]; exact (two_stores r3 r4 _ _).2
    have v5 : w4.heap.size = w3.heap.size := by rw [hw4]; simp
    have HB5 : Hid (Below w.heap.size w w4) := by rw [hw4]; exact (HB3.out.setCell (by show w.heap.size ≤ L; omega) _).setCell (by show w.heap.size ≤ L; omega) _
    have hLw : L < w4.heap.size := by rw [v5]; omega
    clear hw4 r1 r2 r3 r4 r5 r6 v5 HB3
    go_wp2_with fail
    refine (locked_run (w1.heap.size + 1) w1.heap.size L _ v1 v2).mono ?_
    rintro e w' ⟨rfl, rfl⟩
    go_wp2_with fail
    refine (words_zero L 1 0 _ _ v4 hLw).mono ?_
    rintro e w5 ⟨rfl, _, hb5⟩
    have HB6 := hide (HB5.out.trans (hb5.mono HB5.out.size))
    clear v1 v2 v4 HB5 hb5
    have ha : absI 0 = 0 := rfl
    have hpn := fun w => run_neq_ptr_same (P := Try.prog) w ⟨L, 1, none⟩ Try.underlying35 hi54
    go_wp2_with (go_at_call 17; refine (magnitude_any 0 _ (by omega) (by omega)).mono ?_; rintro e w' ⟨rfl, rfl⟩)
    go_ret
    exact ⟨rfl, HB6.out⟩
  · go_wp2_with fail
    refine (setInt_grow L 1 (some ⟨w1.heap.size + 2, 0, none⟩) false d _ hlo hhi hd (by omega) r3 r4 r5 r6).mono ?_
    rintro e w4 ⟨rfl, hw4⟩
    obtain ⟨wm, hwm⟩ : ∃ wm, wm = (w3.setCell ⟨L, 1 + 1, none⟩ (.slice (some ⟨w3.heap.size, 0, none⟩) 1 1)).setCell ⟨L, 1, none⟩ (.bool (decide (d < 0))) := ⟨_, rfl⟩
    rw [← hwm] at hw4
    have m1 : wm.cell? ⟨w1.heap.size + 1, 2, none⟩ = some (.pointer (some ⟨w1.heap.size, 0, none⟩)) := by rw [hwm, World.cell?_setCell_other _ ⟨L, 1, none⟩ _ _ (by simp), World.cell?_setCell_other _ ⟨L, 1 + 1, none⟩ _ _ (by first | (simp; done) | (simp; omega))]; exact r1
    have m2 : wm.cell? ⟨w1.heap.size, 2, none⟩ = some (.pointer (some ⟨L, 0, none⟩)) := by rw [hwm, World.cell?_setCell_other _ ⟨L, 1, none⟩ _ _ (by simp), World.cell?_setCell_other _ ⟨L, 1 + 1, none⟩ _ _ (by first | (simp; done) | (simp; omega))]; exact r2
    have m3 : wm.cell? ⟨L, 1, none⟩ = some (.bool (decide (d < 0))) := by rw [hwm]; exact (two_stores r3 r4 _ _).1
    have m4 : wm.cell? ⟨L, 1 + 1, none⟩ = some (.slice (some ⟨w3.heap.size, 0, none⟩) 1 1) := by rw [hwm]; exact (two_stores r3 r4 _ _).2
    have m5 : wm.heap.size = w3.heap.size := by rw [hwm]; simp
    have HBM : Hid (Below w.heap.size w wm) := by rw [hwm]; exact (HB3.out.setCell (by show w.heap.size ≤ L; omega) _).setCell (by show w.heap.size ≤ L; omega) _
    clear hwm
    have hb4 : Below wm.heap.size wm w4 := by rw [hw4]; exact (Below.refl _ _).alloc (Nat.le_refl _) _
    have v6 : w4.cell? ⟨w3.heap.size, 0, none⟩ = some (.int .u64 (absI d)) := by rw [hw4, ← m5]; simp
    have hs4 : wm.heap.size < w4.heap.size := by rw [hw4]; simp
    have v1 := (hb4.cell (p := ⟨w1.heap.size + 1, 2, none⟩) (by rw [m5]; show w1.heap.size + 1 < _; omega)).trans m1
    have v2 := (hb4.cell (p := ⟨w1.heap.size, 2, none⟩) (by rw [m5]; show w1.heap.size < _; omega)).trans m2
    have v3 := (hb4.cell (p := ⟨L, 1, none⟩) (by rw [m5]; show L < _; omega)).trans m3
    have v4 := (hb4.cell (p := ⟨L, 1 + 1, none⟩) (by rw [m5]; show L < _; omega)).trans m4
    have HB5 := hide (HBM.out.trans (hb4.mono HBM.out.size))
    have hLw : L < w4.heap.size := by omega
    have hgw : w3.heap.size < w4.heap.size := by omega
    clear hw4 hb4 m1 m2 m3 m4 m5 HBM r1 r2 r3 r4 r5 r6 HB3 hs4
    go_wp2_with fail
    refine (locked_run (w1.heap.size + 1) w1.heap.size L _ v1 v2).mono ?_
    rintro e w' ⟨rfl, rfl⟩
    go_wp2_with fail
    refine (words_pos L 1 w3.heap.size 1 1 (decide (d < 0)) [absI d] _ v3 v4 (fun j hj => one_cell v6 hj) (by simp) (by omega) (by omega) hLw hgw).mono ?_
    rintro e w5 ⟨rfl, hr5, hb5⟩
    have v7 : w5.cell? ⟨w4.heap.size, 0, none⟩ = some (.int .u64 (absI d)) := hr5.cell 0 (by simp)
    have HB6 := hide (HB5.out.trans (hb5.mono HB5.out.size))
    have hm0 := absI_ne d hd
    have hpn := fun w => run_neq_ptr_same (P := Try.prog) w ⟨L, 1, none⟩ Try.underlying35 hi54
    clear v1 v2 v3 v4 v6 HB5 hb5 hr5
    by_cases hneg : d < 0
    · go_wp2_with (go_at_call 17; refine (magnitude_any d _ (by omega) (by omega)).mono ?_; rintro e w' ⟨rfl, rfl⟩)
      go_ret
      exact ⟨rfl, HB6.out⟩
    · go_wp2_with (go_at_call 17; refine (magnitude_any d _ (by omega) (by omega)).mono ?_; rintro e w' ⟨rfl, rfl⟩)
      go_ret
      exact ⟨rfl, HB6.out⟩

end Go.Proofs.Qxb6612640a
