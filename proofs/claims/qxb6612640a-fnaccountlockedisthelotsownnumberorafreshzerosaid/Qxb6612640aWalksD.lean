import Derived.Test.Qxb6612640aWalksC
import Derived.Deep.QuietTactic
import Derived.BigQuiet
import Derived.WalkSmall
namespace Go.Proofs.Qxb6612640a
open Go.RowKit

theorem zzBytes_yes (r : Bool) (a : Option Addr) (len cap : Nat) (d : Int) (w : World) (h : len ≤ 1048576) :
    Calls Try.prog 12 #[.bool r, .slice a len cap, .int .i64 d] w fun e w' => e = .returned (.bool true) ∧ w = w' := by
  go_enter Try.func12, Try.ntmps12
  go_wp2
  go_ret
  exact ⟨rfl, rfl⟩

theorem zzBytes_no (r : Bool) (a : Option Addr) (len cap : Nat) (d : Int) (w : World) (h : ¬ len ≤ 1048576) :
    Calls Try.prog 12 #[.bool r, .slice a len cap, .int .i64 d] w fun e w' => e = .returned (.bool false) ∧ w = w' := by
  have h' : 1048576 < (len : Int) := by omega
  go_enter Try.func12, Try.ntmps12
  go_wp2
  go_ret
  exact ⟨rfl, rfl⟩

theorem law_big (r : Bool) (a : Option Addr) (len cap : Nat) (d : Int) (w : World) (h : ¬ len ≤ 65536) :
    Calls Try.prog 4 #[.bool r, .slice a len cap, .int .i64 d] w fun e w' => e = .returned (.bool true) ∧ w = w' := by
  by_cases hb : len ≤ 1048576
  · have h' : 65536 < (len : Int) := by omega
    go_enter Try.func4, Try.ntmps4
    go_wp2_with (go_at_call 12; refine (zzBytes_yes _ _ _ _ _ _ hb).mono ?_; rintro e w' ⟨rfl, rfl⟩)
    go_ret
    exact ⟨rfl, rfl⟩
  · go_enter Try.func4, Try.ntmps4
    go_wp2_with (go_at_call 12; refine (zzBytes_no _ _ _ _ _ _ hb).mono ?_; rintro e w' ⟨rfl, rfl⟩)
    go_ret
    exact ⟨rfl, rfl⟩

theorem info54 : (Try.prog.info? 54).map (fun i => (i.zero, i.size, i.bytes)) = some (some (.agg #[.bool false, .slice none 0 0]), 2, 32) := by kernel_rfl

theorem one_cell {w : World} {g j : Nat} {x : Int} (h : w.cell? ⟨g, 0, none⟩ = some (.int .u64 x)) (hj : j < 1) : w.cell? ⟨g, j, none⟩ = some (.int .u64 ([x].getD j 0)) := by
  obtain rfl : j = 0 := by omega
  exact h

theorem getD_take (z : List Int) (s j : Nat) (h : j < s) : (z.take s).getD j 0 = z.getD j 0 := by
  simp [List.getElem?_take_of_lt h]

set_option maxRecDepth 100000 in
set_option maxHeartbeats 8000000 in
theorem law_run (lb lo n cap : Nat) (z : List Int) (d : Int) (w : World) (hzn : z.length = n) (hc : ∀ j, j < n → w.cell? ⟨lb, lo + j, none⟩ = some (.int .u64 (z.getD j 0)))
    (hpos : 0 < n) (hle : n ≤ 65536) (hlo : -9223372036854775808 ≤ d) (hhi : d ≤ 9223372036854775807) :
    Calls Try.prog 4 #[.bool true, .slice (some ⟨lb, lo, none⟩) n cap, .int .i64 d] w fun e w' => e = .returned (.bool true) ∧ Below w.heap.size w w' := by
  have hlb : lb < w.heap.size := block_lt_of_cell (hc 0 hpos)
  have HC := hide hc
  have HZ := hide hzn
  have hz : n ≤ z.length := Nat.le_of_eq hzn.symm
  clear hc hzn
  obtain ⟨i0, hi, hz0, hz1, hz2⟩ := info_parts info29
  obtain ⟨i54, hi54, _, _, _⟩ := info_parts info54
  have h' : decide (65536 < (n : Int)) = false := by simp; omega
  go_enter Try.func4, Try.ntmps4
  go_wp2_with (first
    | (go_at_call 12; refine (zzBytes_yes _ _ _ _ _ _ (by omega)).mono ?_; rintro e w' ⟨rfl, rfl⟩)
    | (at_make; refine wpList_make_full _ rfl _ _ 27 rfl w.heap.size 29 i0 (.int .u64 0) 1 Try.underlying27 hi hz0 hz1 _ _ _ _ n rfl rfl rfl rfl (by rw [hz2]; omega) (by unfold maxLen; omega) (Nat.le_refl _) ?_; intro w1 hown hgr; have hrow := Row.made hown; have hB1 := (Below.refl w.heap.size w).grown hgr (Nat.le_refl _) (fun k e => by cases e); clear hown hgr))
  have HROW := hide hrow
  clear hrow
  go_loopw [8] (fun v wr => ∃ k : Nat, k ≤ n ∧ v = .int .i64 k ∧ Row wr w.heap.size 29 (fill z n k) ∧ Below w.heap.size w wr) (fun v _ => n - (intOf v).toNat)
  case atStart => exact ⟨0, Nat.zero_le _, rfl, by rw [fill_zero]; exact HROW.out, hB1⟩
  case round =>
    obtain ⟨k, hk, rfl, hrow, hbel⟩ := hrel
    clear HROW hB1
    by_cases hlt : k < n
    · obtain ⟨c, hcz⟩ : ∃ c, c = z.getD k 0 := ⟨_, rfl⟩
      have hcell := (hbel.cell (p := ⟨lb, lo + k, none⟩) hlb).trans (HC.out k hlt)
      rw [← hcz] at hcell
      have HCZ := hide hcz
      clear hcz
      obtain ⟨y, hy⟩ := hrow.slot hlt hz
      have hf := hrow.frozen k
      have R := hide (hrow.step hlt hz HCZ)
      have B := hide (hbel.setCell (p := ⟨w.heap.size, k, none⟩) (Nat.le_refl _) (.int .u64 c))
      clear hrow hbel
      go_wp2
      go_roundw
      case rel => exact ⟨k + 1, by omega, by go_num, R.out, B.out⟩
      case measure => simp [intOf]; omega
    · obtain rfl : k = n := by omega
      clear hlt hk
      obtain ⟨wo, rfl⟩ : ∃ wo : World, wo = wr := ⟨_, rfl⟩
      rw [fill_full, List.take_of_length_le (by rw [HZ.out]; exact Nat.le_refl _)] at hrow
      go_wp2_with fail
      refine (account_run w.heap.size k z _ hrow HZ.out hle).mono ?_
      rintro e w2 ⟨rfl, hb2, q1, t, L, ht, hL1, hL2, q2, q3, q4, q5, q6, q7⟩
      have HB2 := hide (hbel.trans (hb2.mono hbel.size))
      have hsz : w.heap.size ≤ wo.heap.size := hbel.size
      have ht1 : t ≤ k := ht.1
      have HT := hide ht
      clear hb2 hrow hbel ht
      go_wp2_with (go_at_call 14; refine (locked_run (wo.heap.size + 1) wo.heap.size L _ q1 q2).mono ?_; rintro e w' ⟨rfl, rfl⟩)
      refine (words_plus L 1 (wo.heap.size + 2) t k z _ q3 q4 (fun j hj => q7.cell j (by omega)) (by omega) (by omega) hL2 q7.lt).mono ?_
      rintro e w3 ⟨rfl, hrow3, hb3⟩
      have hs3 := hrow3.lt
      have HB3 := hide (HB2.out.trans (hb3.mono HB2.out.size))
      have r1 := (hb3.cell (p := ⟨wo.heap.size + 1, 2, none⟩) (by show wo.heap.size + 1 < _; omega)).trans q1
      have r2 := (hb3.cell (p := ⟨wo.heap.size, 2, none⟩) (by show wo.heap.size < _; omega)).trans q2
      have r3 := (hb3.cell (p := ⟨L, 1, none⟩) hL2).trans q3
      have r4 := (hb3.cell (p := ⟨L, 2, none⟩) hL2).trans q4
      have r5 := (hb3.frozen (p := ⟨L, 1, none⟩) hL2).trans q5
      have r6 := (hb3.frozen (p := ⟨L, 2, none⟩) hL2).trans q6
      have R7 := hide (q7.below hb3 (by omega))
      have R3 := hide hrow3
      clear hb3 q1 q2 q3 q4 q5 q6 q7 hrow3 HB2
      go_wp2_with fail
      go_loop [13] (fun v => ∃ s : Nat, s ≤ k ∧ v = .int .i64 s ∧ Zeros z k s) (fun v => (intOf v).toNat)
      case atStart => exact ⟨k, Nat.le_refl _, rfl, Zeros.start _ _⟩
      case round =>
        obtain ⟨s, hs, rfl, hze⟩ := hrel
        by_cases hgo : 0 < s ∧ z.getD (s - 1) 0 = 0
        · obtain ⟨hs1, hq0⟩ := hgo
          obtain ⟨c, hcz⟩ : ∃ c, c = z.getD (s - 1) 0 := ⟨_, rfl⟩
          have hcell := (HB3.out.cell (p := ⟨lb, lo + (s - 1), none⟩) hlb).trans (HC.out (s - 1) (by omega))
          rw [← hcz] at hcell hq0
          have HCZ := hide hcz
          clear hcz
          have h1 : (1 : Nat) ≤ s := hs1
          have hst : ((s : Int) - 1).toNat = s - 1 := by omega
          have hq : (c == 0) = true := by simp [hq0]
          have H0 := hide hq0
          clear hq0
          go_wp2
          go_round
          case rel => exact ⟨s - 1, by omega, by go_num, hze.step HCZ H0.out⟩
          case measure => simp [intOf]; omega
        · have htop : Top z k s := ⟨hs, fun hp hh => hgo ⟨hp, hh⟩, hze⟩
          have hst : s = t := htop.one HT.out
          subst hst
          clear htop HT hze
          by_cases hs0 : 0 < s
          · obtain ⟨c, hcz⟩ : ∃ c, c = z.getD (s - 1) 0 := ⟨_, rfl⟩
            have hcell := (HB3.out.cell (p := ⟨lb, lo + (s - 1), none⟩) hlb).trans (HC.out (s - 1) (by omega))
            rw [← hcz] at hcell
            have hq : (c == 0) = false := by
              rw [beq_eq_false_iff_ne]
              intro e
              exact hgo ⟨hs0, by rw [← hcz]; exact e⟩
            clear hcz hgo
            have h1 : (1 : Nat) ≤ s := hs0
            have hst : ((s : Int) - 1).toNat = s - 1 := by omega
            go_wp2
            go_loopw [14] (fun v wx => ∃ j : Nat, j ≤ s ∧ v = .int .i64 j ∧ Below w3.heap.size w3 wx) (fun v _ => s - (intOf v).toNat)
            case atStart => exact ⟨0, Nat.zero_le _, rfl, Below.refl _ _⟩
            case round =>
              obtain ⟨j, hj, rfl, hbx⟩ := hrel
              by_cases hlt : j < s
              · obtain ⟨c1, hcz1⟩ : ∃ c1, c1 = z.getD j 0 := ⟨_, rfl⟩
                have e1 := (hbx.cell (p := ⟨w2.heap.size, j, none⟩) hs3).trans (R3.out.cell j (by simp; omega))
                have e2 := (hbx.cell (p := ⟨lb, lo + j, none⟩) (by show lb < _; omega)).trans ((HB3.out.cell (p := ⟨lb, lo + j, none⟩) hlb).trans (HC.out j (by omega)))
                rw [getD_take z s j hlt, ← hcz1] at e1
                rw [← hcz1] at e2
                clear hcz1
                have i1 : (j : Int) < (s : Int) := by omega
                have i2 : (j : Int) < (k : Int) := by omega
                have HBX := hide hbx
                clear r1 r2 r3 r4 r5 r6 hbx
                go_wp2
                go_quiet (fail)
                go_wp2
                go_roundw
                case rel => exact ⟨j + 1, by omega, by go_num, below_drewN HBX.out _⟩
                case measure => simp [intOf]; omega
              · clear hj
                have hs4 : w3.heap.size ≤ wr.heap.size := hbx.size
                have hs5 : w2.heap.size < w3.heap.size := hs3
                have p1 := (hbx.cell (p := ⟨wo.heap.size + 1, 2, none⟩) (by show wo.heap.size + 1 < _; omega)).trans r1
                have p2 := (hbx.cell (p := ⟨wo.heap.size, 2, none⟩) (by show wo.heap.size < _; omega)).trans r2
                have p3 := (hbx.cell (p := ⟨L, 1, none⟩) (by show L < _; omega)).trans r3
                have p4 := (hbx.cell (p := ⟨L, 2, none⟩) (by show L < _; omega)).trans r4
                have p5 := (hbx.frozen (p := ⟨L, 1, none⟩) (by show L < _; omega)).trans r5
                have p6 := (hbx.frozen (p := ⟨L, 2, none⟩) (by show L < _; omega)).trans r6
                have P7 := hide (R7.out.below hbx (by omega))
                have HB4 := hide (HB3.out.trans (hbx.mono (by omega)))
                clear hbx r1 r2 r3 r4 r5 r6 R3 R7
                by_cases hd : d = 0
                · subst hd
                  go_wp2_with fail
                  refine (setInt_zero L 1 false (some ⟨wo.heap.size + 2, 0, none⟩) s k _ p3 p4 p5 p6).mono ?_
                  rintro e w4 ⟨rfl, hw4⟩
                  have v1 : w4.cell? ⟨wo.heap.size + 1, 2, none⟩ = some (.pointer (some ⟨wo.heap.size, 0, none⟩)) := by rw [hw4, World.cell?_setCell_other _ ⟨L, 1, none⟩ _ _ (by simp), World.cell?_setCell_other _ ⟨L, 2, none⟩ _ _ (by first | (simp; done) | (simp; omega))]; exact p1
                  have v2 : w4.cell? ⟨wo.heap.size, 2, none⟩ = some (.pointer (some ⟨L, 0, none⟩)) := by rw [hw4, World.cell?_setCell_other _ ⟨L, 1, none⟩ _ _ (by simp), World.cell?_setCell_other _ ⟨L, 2, none⟩ _ _ (by first | (simp; done) | (simp; omega))]; exact p2
                  have v4 : w4.cell? ⟨L, 1 + 1, none⟩ = some (.slice (some ⟨wo.heap.size + 2, 0, none⟩) 0 k) := by rw [hw4]; exact (two_stores p3 p4 _ _).2
                  have v5 : w4.heap.size = wr.heap.size := by rw [hw4]; simp
                  have HB5 : Hid (Below w.heap.size w w4) := by rw [hw4]; exact (HB4.out.setCell (by show w.heap.size ≤ L; omega) _).setCell (by show w.heap.size ≤ L; omega) _
                  have hLw : L < w4.heap.size := by rw [v5]; omega
                  clear hw4 p1 p2 p3 p4 p5 p6 v5 HB4
                  go_wp2_with fail
                  refine (locked_run (wo.heap.size + 1) wo.heap.size L _ v1 v2).mono ?_
                  rintro e w' ⟨rfl, rfl⟩
                  go_wp2_with fail
                  refine (words_zero L 1 k _ _ v4 hLw).mono ?_
                  rintro e w5 ⟨rfl, _, hb5⟩
                  have HB6 := hide (HB5.out.trans (hb5.mono HB5.out.size))
                  clear v1 v2 v4 HB5 hb5
                  have ha : absI 0 = 0 := rfl
                  have hpn := fun w => run_neq_ptr_same (P := Try.prog) w ⟨L, 1, none⟩ Try.underlying35 hi54
                  go_wp2_with (go_at_call 17; refine (magnitude_any 0 _ (by omega) (by omega)).mono ?_; rintro e w' ⟨rfl, rfl⟩)
                  go_ret
                  exact ⟨rfl, HB6.out⟩
                · go_wp2_with fail
                  refine (setInt_room L 1 (wo.heap.size + 2) s k false (z.getD 0 0) d _ hlo hhi hd (by omega) (by omega) p3 p4 p5 p6 (P7.out.cell 0 (by omega)) (P7.out.frozen 0)).mono ?_
                  rintro e w4 ⟨rfl, hw4⟩
                  have v1 : w4.cell? ⟨wo.heap.size + 1, 2, none⟩ = some (.pointer (some ⟨wo.heap.size, 0, none⟩)) := by rw [hw4, World.cell?_setCell_other _ ⟨L, 1, none⟩ _ _ (by simp), World.cell?_setCell_other _ ⟨L, 2, none⟩ _ _ (by first | (simp; done) | (simp; omega)), World.cell?_setCell_other _ ⟨wo.heap.size + 2, 0, none⟩ _ _ (by simp)]; exact p1
                  have v2 : w4.cell? ⟨wo.heap.size, 2, none⟩ = some (.pointer (some ⟨L, 0, none⟩)) := by rw [hw4, World.cell?_setCell_other _ ⟨L, 1, none⟩ _ _ (by simp), World.cell?_setCell_other _ ⟨L, 2, none⟩ _ _ (by first | (simp; done) | (simp; omega)), World.cell?_setCell_other _ ⟨wo.heap.size + 2, 0, none⟩ _ _ (by simp)]; exact p2
                  have x3 : (wr.setCell ⟨wo.heap.size + 2, 0, none⟩ (.int .u64 (absI d))).cell? ⟨L, 1, none⟩ = some (.bool false) := (World.cell?_setCell_other _ ⟨wo.heap.size + 2, 0, none⟩ ⟨L, 1, none⟩ _ (by simp)).trans p3
                  have x4 : (wr.setCell ⟨wo.heap.size + 2, 0, none⟩ (.int .u64 (absI d))).cell? ⟨L, 1 + 1, none⟩ = some (.slice (some ⟨wo.heap.size + 2, 0, none⟩) s k) := (World.cell?_setCell_other _ ⟨wo.heap.size + 2, 0, none⟩ ⟨L, 1 + 1, none⟩ _ (by simp)).trans p4
                  have v3 : w4.cell? ⟨L, 1, none⟩ = some (.bool (decide (d < 0))) := by rw [hw4]; exact (two_stores x3 x4 _ _).1
                  have v4 : w4.cell? ⟨L, 1 + 1, none⟩ = some (.slice (some ⟨wo.heap.size + 2, 0, none⟩) 1 k) := by rw [hw4]; exact (two_stores x3 x4 _ _).2
                  have v6 : w4.cell? ⟨wo.heap.size + 2, 0, none⟩ = some (.int .u64 (absI d)) := by rw [hw4, World.cell?_setCell_other _ ⟨L, 1, none⟩ _ _ (by simp), World.cell?_setCell_other _ ⟨L, 1 + 1, none⟩ _ _ (by simp)]; exact World.cell?_setCell_same _ _ _ (P7.out.cell 0 (by omega))
                  have v5 : w4.heap.size = wr.heap.size := by rw [hw4]; simp
                  have HB5 : Hid (Below w.heap.size w w4) := by rw [hw4]; exact ((HB4.out.setCell (by show w.heap.size ≤ wo.heap.size + 2; omega) _).setCell (by show w.heap.size ≤ L; omega) _).setCell (by show w.heap.size ≤ L; omega) _
                  have hLw : L < w4.heap.size := by rw [v5]; omega
                  clear hw4 p1 p2 p3 p4 p5 p6 v5 HB4 x3 x4
                  go_wp2_with fail
                  refine (locked_run (wo.heap.size + 1) wo.heap.size L _ v1 v2).mono ?_
                  rintro e w' ⟨rfl, rfl⟩
                  go_wp2_with fail
                  refine (words_pos L 1 (wo.heap.size + 2) 1 k (decide (d < 0)) [absI d] _ v3 v4 (fun j hj => one_cell v6 hj) (by simp) (by omega) (by omega) hLw (by omega)).mono ?_
                  rintro e w5 ⟨rfl, hr5, hb5⟩
                  have v7 : w5.cell? ⟨w4.heap.size, 0, none⟩ = some (.int .u64 (absI d)) := hr5.cell 0 (by simp)
                  have HB6 := hide (HB5.out.trans (hb5.mono HB5.out.size))
                  have hm0 := absI_ne d hd
                  have hpn := fun w => run_neq_ptr_same (P := Try.prog) w ⟨L, 1, none⟩ Try.underlying35 hi54
                  clear v1 v2 v3 v4 v6 HB5 hb5 hr5
                  by_cases hneg : d < 0
                  · go_wp2_with (go_at_call 17; refine (magnitude_any d _ (by omega) (by omega)).mono ?_; rintro e w' ⟨rfl, rfl⟩)
                    go_ret
                    exact ⟨rfl, HB6.out⟩
                  · go_wp2_with (go_at_call 17; refine (magnitude_any d _ (by omega) (by omega)).mono ?_; rintro e w' ⟨rfl, rfl⟩)
                    go_ret
                    exact ⟨rfl, HB6.out⟩
          · clear hgo
            go_wp2
            go_loopw [14] (fun v wx => ∃ j : Nat, j ≤ s ∧ v = .int .i64 j ∧ Below w3.heap.size w3 wx) (fun v _ => s - (intOf v).toNat)
            case atStart => exact ⟨0, Nat.zero_le _, rfl, Below.refl _ _⟩
            case round =>
              obtain ⟨j, hj, rfl, hbx⟩ := hrel
              by_cases hlt : j < s
              · obtain ⟨c1, hcz1⟩ : ∃ c1, c1 = z.getD j 0 := ⟨_, rfl⟩
                have e1 := (hbx.cell (p := ⟨w2.heap.size, j, none⟩) hs3).trans (R3.out.cell j (by simp; omega))
                have e2 := (hbx.cell (p := ⟨lb, lo + j, none⟩) (by show lb < _; omega)).trans ((HB3.out.cell (p := ⟨lb, lo + j, none⟩) hlb).trans (HC.out j (by omega)))
                rw [getD_take z s j hlt, ← hcz1] at e1
                rw [← hcz1] at e2
                clear hcz1
                have i1 : (j : Int) < (s : Int) := by omega
                have i2 : (j : Int) < (k : Int) := by omega
                have HBX := hide hbx
                clear r1 r2 r3 r4 r5 r6 hbx
                go_wp2
                go_quiet (fail)
                go_wp2
                go_roundw
                case rel => exact ⟨j + 1, by omega, by go_num, below_drewN HBX.out _⟩
                case measure => simp [intOf]; omega
              · clear hj
                have hs4 : w3.heap.size ≤ wr.heap.size := hbx.size
                have hs5 : w2.heap.size < w3.heap.size := hs3
                have p1 := (hbx.cell (p := ⟨wo.heap.size + 1, 2, none⟩) (by show wo.heap.size + 1 < _; omega)).trans r1
                have p2 := (hbx.cell (p := ⟨wo.heap.size, 2, none⟩) (by show wo.heap.size < _; omega)).trans r2
                have p3 := (hbx.cell (p := ⟨L, 1, none⟩) (by show L < _; omega)).trans r3
                have p4 := (hbx.cell (p := ⟨L, 2, none⟩) (by show L < _; omega)).trans r4
                have p5 := (hbx.frozen (p := ⟨L, 1, none⟩) (by show L < _; omega)).trans r5
                have p6 := (hbx.frozen (p := ⟨L, 2, none⟩) (by show L < _; omega)).trans r6
                have P7 := hide (R7.out.below hbx (by omega))
                have HB4 := hide (HB3.out.trans (hbx.mono (by omega)))
                clear hbx r1 r2 r3 r4 r5 r6 R3 R7
                by_cases hd : d = 0
                · subst hd
                  go_wp2_with fail
                  refine (setInt_zero L 1 false (some ⟨wo.heap.size + 2, 0, none⟩) s k _ p3 p4 p5 p6).mono ?_
                  rintro e w4 ⟨rfl, hw4⟩
                  have v1 : w4.cell? ⟨wo.heap.size + 1, 2, none⟩ = some (.pointer (some ⟨wo.heap.size, 0, none⟩)) := by rw [hw4, World.cell?_setCell_other _ ⟨L, 1, none⟩ _ _ (by simp), World.cell?_setCell_other _ ⟨L, 2, none⟩ _ _ (by first | (simp; done) | (simp; omega))]; exact p1
                  have v2 : w4.cell? ⟨wo.heap.size, 2, none⟩ = some (.pointer (some ⟨L, 0, none⟩)) := by rw [hw4, World.cell?_setCell_other _ ⟨L, 1, none⟩ _ _ (by simp), World.cell?_setCell_other _ ⟨L, 2, none⟩ _ _ (by first | (simp; done) | (simp; omega))]; exact p2
                  have v4 : w4.cell? ⟨L, 1 + 1, none⟩ = some (.slice (some ⟨wo.heap.size + 2, 0, none⟩) 0 k) := by rw [hw4]; exact (two_stores p3 p4 _ _).2
                  have v5 : w4.heap.size = wr.heap.size := by rw [hw4]; simp
                  have HB5 : Hid (Below w.heap.size w w4) := by rw [hw4]; exact (HB4.out.setCell (by show w.heap.size ≤ L; omega) _).setCell (by show w.heap.size ≤ L; omega) _
                  have hLw : L < w4.heap.size := by rw [v5]; omega
                  clear hw4 p1 p2 p3 p4 p5 p6 v5 HB4
                  go_wp2_with fail
                  refine (locked_run (wo.heap.size + 1) wo.heap.size L _ v1 v2).mono ?_
                  rintro e w' ⟨rfl, rfl⟩
                  go_wp2_with fail
                  refine (words_zero L 1 k _ _ v4 hLw).mono ?_
                  rintro e w5 ⟨rfl, _, hb5⟩
                  have HB6 := hide (HB5.out.trans (hb5.mono HB5.out.size))
                  clear v1 v2 v4 HB5 hb5
                  have ha : absI 0 = 0 := rfl
                  have hpn := fun w => run_neq_ptr_same (P := Try.prog) w ⟨L, 1, none⟩ Try.underlying35 hi54
                  go_wp2_with (go_at_call 17; refine (magnitude_any 0 _ (by omega) (by omega)).mono ?_; rintro e w' ⟨rfl, rfl⟩)
                  go_ret
                  exact ⟨rfl, HB6.out⟩
                · go_wp2_with fail
                  refine (setInt_room L 1 (wo.heap.size + 2) s k false (z.getD 0 0) d _ hlo hhi hd (by omega) (by omega) p3 p4 p5 p6 (P7.out.cell 0 (by omega)) (P7.out.frozen 0)).mono ?_
                  rintro e w4 ⟨rfl, hw4⟩
                  have v1 : w4.cell? ⟨wo.heap.size + 1, 2, none⟩ = some (.pointer (some ⟨wo.heap.size, 0, none⟩)) := by rw [hw4, World.cell?_setCell_other _ ⟨L, 1, none⟩ _ _ (by simp), World.cell?_setCell_other _ ⟨L, 2, none⟩ _ _ (by first | (simp; done) | (simp; omega)), World.cell?_setCell_other _ ⟨wo.heap.size + 2, 0, none⟩ _ _ (by simp)]; exact p1
                  have v2 : w4.cell? ⟨wo.heap.size, 2, none⟩ = some (.pointer (some ⟨L, 0, none⟩)) := by rw [hw4, World.cell?_setCell_other _ ⟨L, 1, none⟩ _ _ (by simp), World.cell?_setCell_other _ ⟨L, 2, none⟩ _ _ (by first | (simp; done) | (simp; omega)), World.cell?_setCell_other _ ⟨wo.heap.size + 2, 0, none⟩ _ _ (by simp)]; exact p2
                  have x3 : (wr.setCell ⟨wo.heap.size + 2, 0, none⟩ (.int .u64 (absI d))).cell? ⟨L, 1, none⟩ = some (.bool false) := (World.cell?_setCell_other _ ⟨wo.heap.size + 2, 0, none⟩ ⟨L, 1, none⟩ _ (by simp)).trans p3
                  have x4 : (wr.setCell ⟨wo.heap.size + 2, 0, none⟩ (.int .u64 (absI d))).cell? ⟨L, 1 + 1, none⟩ = some (.slice (some ⟨wo.heap.size + 2, 0, none⟩) s k) := (World.cell?_setCell_other _ ⟨wo.heap.size + 2, 0, none⟩ ⟨L, 1 + 1, none⟩ _ (by simp)).trans p4
                  have v3 : w4.cell? ⟨L, 1, none⟩ = some (.bool (decide (d < 0))) := by rw [hw4]; exact (two_stores x3 x4 _ _).1
                  have v4 : w4.cell? ⟨L, 1 + 1, none⟩ = some (.slice (some ⟨wo.heap.size + 2, 0, none⟩) 1 k) := by rw [hw4]; exact (two_stores x3 x4 _ _).2
                  have v6 : w4.cell? ⟨wo.heap.size + 2, 0, none⟩ = some (.int .u64 (absI d)) := by rw [hw4, World.cell?_setCell_other _ ⟨L, 1, none⟩ _ _ (by simp), World.cell?_setCell_other _ ⟨L, 1 + 1, none⟩ _ _ (by simp)]; exact World.cell?_setCell_same _ _ _ (P7.out.cell 0 (by omega))
                  have v5 : w4.heap.size = wr.heap.size := by rw [hw4]; simp
                  have HB5 : Hid (Below w.heap.size w w4) := by rw [hw4]; exact ((HB4.out.setCell (by show w.heap.size ≤ wo.heap.size + 2; omega) _).setCell (by show w.heap.size ≤ L; omega) _).setCell (by show w.heap.size ≤ L; omega) _
                  have hLw : L < w4.heap.size := by rw [v5]; omega
                  clear hw4 p1 p2 p3 p4 p5 p6 v5 HB4 x3 x4
                  go_wp2_with fail
                  refine (locked_run (wo.heap.size + 1) wo.heap.size L _ v1 v2).mono ?_
                  rintro e w' ⟨rfl, rfl⟩
                  go_wp2_with fail
                  refine (words_pos L 1 (wo.heap.size + 2) 1 k (decide (d < 0)) [absI d] _ v3 v4 (fun j hj => one_cell v6 hj) (by simp) (by omega) (by omega) hLw (by omega)).mono ?_
                  rintro e w5 ⟨rfl, hr5, hb5⟩
                  have v7 : w5.cell? ⟨w4.heap.size, 0, none⟩ = some (.int .u64 (absI d)) := hr5.cell 0 (by simp)
                  have HB6 := hide (HB5.out.trans (hb5.mono HB5.out.size))
                  have hm0 := absI_ne d hd
                  have hpn := fun w => run_neq_ptr_same (P := Try.prog) w ⟨L, 1, none⟩ Try.underlying35 hi54
                  clear v1 v2 v3 v4 v6 HB5 hb5 hr5
                  by_cases hneg : d < 0
                  · go_wp2_with (go_at_call 17; refine (magnitude_any d _ (by omega) (by omega)).mono ?_; rintro e w' ⟨rfl, rfl⟩)
                    go_ret
                    exact ⟨rfl, HB6.out⟩
                  · go_wp2_with (go_at_call 17; refine (magnitude_any d _ (by omega) (by omega)).mono ?_; rintro e w' ⟨rfl, rfl⟩)
                    go_ret
                    exact ⟨rfl, HB6.out⟩

end Go.Proofs.Qxb6612640a
