import Derived.Test.Qxb6612640aWalksD
namespace Go.Proofs.Qxb6612640a
open Go.RowKit

/-- A block of cells, nothing of it frozen. -/
def Cells (w : World) (b : Nat) : Prop := ∃ c t, w.heap[b]? = some (.cells c t (0, 0))
theorem Cells.below {w w' : World} {b B : Nat} (h : Cells w b) (hb : Below B w w') (hl : b < B) : Cells w' b := by
  obtain ⟨c, t, e⟩ := h
  exact ⟨c, t, (hb.block b hl).trans e⟩
theorem Cells.set {w : World} {b : Nat} (h : Cells w b) (a : Addr) (x : Value) : Cells (w.setCell a x) b := by
  obtain ⟨c, t, e⟩ := h
  by_cases hb : b = a.block
  · subst hb
    exact ⟨_, t, by simp [World.setCell, Array.getElem?_modify, e]; rfl⟩
  · exact ⟨c, t, (Below.heap_setCell w a x b hb).trans e⟩
theorem Cells.new (w : World) (c : Array Value) (t : TypeId) : Cells (w.alloc (.cells c t)) w.heap.size := ⟨c, t, by show (w.heap.push _)[w.heap.size]? = _; simp⟩

set_option maxRecDepth 100000 in
set_option maxHeartbeats 8000000 in
theorem law_not (lb lo n cap : Nat) (z : List Int) (d : Int) (w : World) (hzn : z.length = n) (hc : ∀ j, j < n → w.cell? ⟨lb, lo + j, none⟩ = some (.int .u64 (z.getD j 0)))
    (hpos : 0 < n) (hle : n ≤ 65536) (hlo : -9223372036854775808 ≤ d) (hhi : d ≤ 9223372036854775807) :
    Calls Try.prog 4 #[.bool false, .slice (some ⟨lb, lo, none⟩) n cap, .int .i64 d] w fun e w' => e = .returned (.bool true) ∧ Below w.heap.size w w' := by
  have hlb : lb < w.heap.size := block_lt_of_cell (hc 0 hpos)
  have HC := hide hc
  have hz : n ≤ z.length := Nat.le_of_eq hzn.symm
  clear hc hzn
  obtain ⟨i0, hi, hz0, hz1, hz2⟩ := info_parts info29
  obtain ⟨i54, hi54, _, hsz54, _⟩ := info_parts info54
  have h' : decide (65536 < (n : Int)) = false := by simp; omega
  go_enter Try.func4, Try.ntmps4
  go_wp2_with (first
    | (go_at_call 12; refine (zzBytes_yes _ _ _ _ _ _ (by omega)).mono ?_; rintro e w' ⟨rfl, rfl⟩)
    | (at_make; refine wpList_make_full _ rfl _ _ 27 rfl w.heap.size 29 i0 (.int .u64 0) 1 Try.underlying27 hi hz0 hz1 _ _ _ _ n rfl rfl rfl rfl (by rw [hz2]; omega) (by unfold maxLen; omega) (Nat.le_refl _) ?_; intro w1 hown hgr; have hrow := Row.made hown; have hB1 := (Below.refl w.heap.size w).grown hgr (Nat.le_refl _) (fun k e => by cases e); clear hown hgr))
  have HROW := hide hrow
  clear hrow
  go_loopw [8] (fun v wr => ∃ k : Nat, k ≤ n ∧ v = .int .i64 k ∧ Row wr w.heap.size 29 (fill z n k) ∧ Below w.heap.size w wr) (fun v _ => n - (intOf v).toNat)
  case atStart => exact ⟨0, Nat.zero_le _, rfl, by rw [fill_zero]; exact HROW.out, hB1⟩
  case round =>
    obtain ⟨k, hk, rfl, hrow, hbel⟩ := hrel
    clear HROW hB1
    by_cases hlt : k < n
    · obtain ⟨c, hcz⟩ : ∃ c, c = z.getD k 0 := ⟨_, rfl⟩
      have hcell := (hbel.cell (p := ⟨lb, lo + k, none⟩) hlb).trans (HC.out k hlt)
      rw [← hcz] at hcell
      have HCZ := hide hcz
      clear hcz
      obtain ⟨y, hy⟩ := hrow.slot hlt hz
      have hf := hrow.frozen k
      have R := hide (hrow.step hlt hz HCZ)
      have B := hide (hbel.setCell (p := ⟨w.heap.size, k, none⟩) (Nat.le_refl _) (.int .u64 c))
      clear hrow hbel
      go_wp2
      go_roundw
      case rel => exact ⟨k + 1, by omega, by go_num, R.out, B.out⟩
      case measure => simp [intOf]; omega
    · obtain rfl : k = n := by omega
      clear hk
      obtain ⟨wo, rfl⟩ : ∃ wo : World, wo = wr := ⟨_, rfl⟩
      have HBW := hide hbel
      clear hrow hbel
      go_wp2_with fail
      refine (account_not _ _ _ _).mono ?_
      rintro e w2 ⟨rfl, q1, q2, q3, hb2⟩
      have HB2 := hide (HBW.out.trans (hb2.mono HBW.out.size))
      have hs2 : wo.heap.size + 2 ≤ w2.heap.size := Nat.le_of_eq q3.symm
      have hsW : w.heap.size ≤ wo.heap.size := HBW.out.size
      clear q3 hb2
      go_wp2_with fail
      refine (locked_not (wo.heap.size + 1) wo.heap.size _ q1 q2).mono ?_
      rintro e w3 ⟨rfl, hw3⟩
      have hb3 : Below w2.heap.size w2 w3 := by rw [hw3]; exact (Below.refl _ _).alloc (Nat.le_refl _) _
      have hs3 : w2.heap.size < w3.heap.size := by rw [hw3]; simp
      have x0 : w3.cell? ⟨w2.heap.size, 0, none⟩ = some (.bool false) := by rw [hw3]; simp
      have x1 : w3.cell? ⟨w2.heap.size, 0 + 1, none⟩ = some (.slice none 0 0) := by rw [hw3]; simp
      have x2 : w3.frozen? ⟨w2.heap.size, 0, none⟩ = false := by rw [hw3]; simp
      have x3 : w3.frozen? ⟨w2.heap.size, 0 + 1, none⟩ = false := by rw [hw3]; simp
      have X4 : Hid (Cells w3 w2.heap.size) := by rw [hw3]; exact Cells.new _ _ _
      have r1 := (hb3.cell (p := ⟨wo.heap.size + 1, 2, none⟩) (by show wo.heap.size + 1 < _; omega)).trans q1
      have r2 := (hb3.cell (p := ⟨wo.heap.size, 2, none⟩) (by show wo.heap.size < _; omega)).trans q2
      have HB3 := hide (HB2.out.trans (hb3.mono HB2.out.size))
      clear hw3 hb3 q1 q2 HB2
      go_wp2_with fail
      refine (words_zero w2.heap.size 0 0 none _ x1 hs3).mono ?_
      rintro e w4 ⟨rfl, hrow4, hb4⟩
      have hs4 := hrow4.lt
      have y0 := (hb4.cell (p := ⟨w2.heap.size, 0, none⟩) hs3).trans x0
      have y1 := (hb4.cell (p := ⟨w2.heap.size, 0 + 1, none⟩) hs3).trans x1
      have y2 := (hb4.frozen (p := ⟨w2.heap.size, 0, none⟩) hs3).trans x2
      have y3 := (hb4.frozen (p := ⟨w2.heap.size, 0 + 1, none⟩) hs3).trans x3
      have Y4 := hide (X4.out.below hb4 hs3)
      have s1 := (hb4.cell (p := ⟨wo.heap.size + 1, 2, none⟩) (by show wo.heap.size + 1 < _; omega)).trans r1
      have s2 := (hb4.cell (p := ⟨wo.heap.size, 2, none⟩) (by show wo.heap.size < _; omega)).trans r2
      have HB4 := hide (HB3.out.trans (hb4.mono HB3.out.size))
      clear hrow4 hb4 x0 x1 x2 x3 X4 r1 r2 HB3
      go_wp2_with fail
      refine wp_loop_rounds 1 ?_
      rw [rounds_succ]
      go_wp2_with fail
      have key : ∃ Z : World → Prop, (∀ w5, Z w5 ↔ (w5.cell? ⟨wo.heap.size + 1, 2, none⟩ = some (.pointer (some ⟨wo.heap.size, 0, none⟩)) ∧ w5.cell? ⟨wo.heap.size, 2, none⟩ = some (.pointer none) ∧ Cells w5 w2.heap.size ∧ Below w.heap.size w w5 ∧ w4.heap.size ≤ w5.heap.size)) := ⟨_, fun _ => Iff.rfl⟩
      obtain ⟨Z, hZ⟩ := key
      have HZZ := hide hZ
      clear hZ
      have hset : Calls Try.prog 16 #[.pointer (some ⟨w2.heap.size, 0, none⟩), .int .i64 d] w4 fun e w5 => e = .returned (.pointer (some ⟨w2.heap.size, 0, none⟩)) ∧ Z w5 := by
        by_cases hd : d = 0
        · subst hd
          refine (setInt_zero w2.heap.size 0 false none 0 0 w4 y0 y1 y2 y3).mono ?_
          rintro e w5 ⟨rfl, rfl⟩
          refine ⟨rfl, (HZZ.out _).2 ⟨?_, ?_, (Y4.out.set _ _).set _ _, (HB4.out.setCell (by show w.heap.size ≤ w2.heap.size; omega) _).setCell (by show w.heap.size ≤ w2.heap.size; omega) _, by simp⟩⟩
          · rw [World.cell?_setCell_other _ _ _ _ (by simp), World.cell?_setCell_other _ _ _ _ (by simp)]; exact s1
          · rw [World.cell?_setCell_other _ _ _ _ (by simp), World.cell?_setCell_other _ _ _ _ (by simp)]; exact s2
        · refine (setInt_grow w2.heap.size 0 none false d w4 hlo hhi hd (by omega) y0 y1 y2 y3).mono ?_
          rintro e w5 ⟨rfl, rfl⟩
          have hbz := (HB4.out.setCell (p := ⟨w2.heap.size, 0 + 1, none⟩) (by show w.heap.size ≤ w2.heap.size; omega) (.slice (some ⟨w4.heap.size, 0, none⟩) 1 1)).setCell (p := ⟨w2.heap.size, 0, none⟩) (by show w.heap.size ≤ w2.heap.size; omega) (.bool (decide (d < 0)))
          have hszz : ((w4.setCell ⟨w2.heap.size, 0 + 1, none⟩ (.slice (some ⟨w4.heap.size, 0, none⟩) 1 1)).setCell ⟨w2.heap.size, 0, none⟩ (.bool (decide (d < 0)))).heap.size = w4.heap.size := by simp
          refine ⟨rfl, (HZZ.out _).2 ⟨?_, ?_, ((Y4.out.set _ _).set _ _).below ((Below.refl _ _).alloc (Nat.le_refl _) _) (by rw [hszz]; omega), hbz.alloc (by rw [hszz]; omega) _, by simp⟩⟩
          · rw [((Below.refl _ _).alloc (Nat.le_refl _) _).cell (p := ⟨wo.heap.size + 1, 2, none⟩) (by rw [hszz]; show wo.heap.size + 1 < _; omega), World.cell?_setCell_other _ _ _ _ (by simp), World.cell?_setCell_other _ _ _ _ (by simp)]; exact s1
          · rw [((Below.refl _ _).alloc (Nat.le_refl _) _).cell (p := ⟨wo.heap.size, 2, none⟩) (by rw [hszz]; show wo.heap.size < _; omega), World.cell?_setCell_other _ _ _ _ (by simp), World.cell?_setCell_other _ _ _ _ (by simp)]; exact s2
      refine hset.mono ?_
      rintro e w5 ⟨rfl, hz5⟩
      obtain ⟨t1, t2, t3, t4, t5⟩ := (HZZ.out _).1 hz5
      have HB5 := hide t4
      have T3 := hide t3
      clear hz5 t3 t4 y0 y1 y2 y3 Y4 s1 s2 HZZ HB4 hset
      go_wp2_with fail
      refine (locked_not (wo.heap.size + 1) wo.heap.size _ t1 t2).mono ?_
      rintro e w6 ⟨rfl, hw6⟩
      have hb6 : Below w5.heap.size w5 w6 := by rw [hw6]; exact (Below.refl _ _).alloc (Nat.le_refl _) _
      have hs6 : w5.heap.size < w6.heap.size := by rw [hw6]; simp
      have z1 : w6.cell? ⟨w5.heap.size, 0 + 1, none⟩ = some (.slice none 0 0) := by rw [hw6]; simp
      have Z4 : Hid (Cells w6 w5.heap.size) := by rw [hw6]; exact Cells.new _ _ _
      have Z5 := hide (T3.out.below hb6 (by omega))
      have HB6 := hide (HB5.out.trans (hb6.mono HB5.out.size))
      clear hw6 hb6 t1 t2 T3 HB5
      go_wp2_with fail
      refine (words_zero w5.heap.size 0 0 none _ z1 hs6).mono ?_
      rintro e w7 ⟨rfl, _, hb7⟩
      obtain ⟨ca, ta, ea⟩ := Z5.out.below hb7 (by omega)
      obtain ⟨cb, tb, eb⟩ := Z4.out.below hb7 hs6
      have hpn := run_neq_ptr_other (P := Try.prog) w7 (a := ⟨w5.heap.size, 0, none⟩) (b := ⟨w2.heap.size, 0, none⟩) Try.underlying35 hi54 (by rw [hsz54]; omega) (by first | (simp; done) | (simp; omega)) eb ea
      have HB7 := hide (HB6.out.trans (hb7.mono HB6.out.size))
      clear hb7 Z4 Z5 z1 HB6 ea eb
      go_wp2
      go_ret
      exact ⟨rfl, HB7.out⟩

set_option maxRecDepth 100000 in
set_option maxHeartbeats 8000000 in
theorem law_not0 (a : Option Addr) (cap : Nat) (d : Int) (w : World) (hlo : -9223372036854775808 ≤ d) (hhi : d ≤ 9223372036854775807) :
    Calls Try.prog 4 #[.bool false, .slice a 0 cap, .int .i64 d] w fun e w' => e = .returned (.bool true) ∧ Below w.heap.size w w' := by
  obtain ⟨i0, hi, hz0, hz1, hz2⟩ := info_parts info29
  obtain ⟨i54, hi54, _, hsz54, _⟩ := info_parts info54
  go_enter Try.func4, Try.ntmps4
  go_wp2_with (first
    | (go_at_call 12; refine (zzBytes_yes _ _ _ _ _ _ (by omega)).mono ?_; rintro e w' ⟨rfl, rfl⟩)
    | (at_make; refine wpList_make_full _ rfl _ _ 27 rfl w.heap.size 29 i0 (.int .u64 0) 1 Try.underlying27 hi hz0 hz1 _ _ _ _ 0 rfl rfl rfl rfl (by rw [hz2]; omega) (by unfold maxLen; omega) (Nat.le_refl _) ?_; intro w1 hown hgr; have hB1 := (Below.refl w.heap.size w).grown hgr (Nat.le_refl _) (fun k e => by cases e); clear hown hgr))
  have HBW := hide hB1
  clear hB1
  refine wp_loop_rounds 1 ?_
  rw [rounds_succ]
  go_wp2_with fail
  refine (account_not _ _ _ _).mono ?_
  rintro e w2 ⟨rfl, q1, q2, q3, hb2⟩
  have HB2 := hide (HBW.out.trans (hb2.mono HBW.out.size))
  have hs2 : w1.heap.size + 2 ≤ w2.heap.size := Nat.le_of_eq q3.symm
  have hsW : w.heap.size ≤ w1.heap.size := HBW.out.size
  clear q3 hb2
  go_wp2_with fail
  refine (locked_not (w1.heap.size + 1) w1.heap.size _ q1 q2).mono ?_
  rintro e w3 ⟨rfl, hw3⟩
  have hb3 : Below w2.heap.size w2 w3 := by rw [hw3]; exact (Below.refl _ _).alloc (Nat.le_refl _) _
  have hs3 : w2.heap.size < w3.heap.size := by rw [hw3]; simp
  have x0 : w3.cell? ⟨w2.heap.size, 0, none⟩ = some (.bool false) := by rw [hw3]; simp
  have x1 : w3.cell? ⟨w2.heap.size, 0 + 1, none⟩ = some (.slice none 0 0) := by rw [hw3]; simp
  have x2 : w3.frozen? ⟨w2.heap.size, 0, none⟩ = false := by rw [hw3]; simp
  have x3 : w3.frozen? ⟨w2.heap.size, 0 + 1, none⟩ = false := by rw [hw3]; simp
  have X4 : Hid (Cells w3 w2.heap.size) := by rw [hw3]; exact Cells.new _ _ _
  have r1 := (hb3.cell (p := ⟨w1.heap.size + 1, 2, none⟩) (by show w1.heap.size + 1 < _; omega)).trans q1
  have r2 := (hb3.cell (p := ⟨w1.heap.size, 2, none⟩) (by show w1.heap.size < _; omega)).trans q2
  have HB3 := hide (HB2.out.trans (hb3.mono HB2.out.size))
  clear hw3 hb3 q1 q2 HB2
  go_wp2_with fail
  refine (words_zero w2.heap.size 0 0 none _ x1 hs3).mono ?_
  rintro e w4 ⟨rfl, hrow4, hb4⟩
  have hs4 := hrow4.lt
  have y0 := (hb4.cell (p := ⟨w2.heap.size, 0, none⟩) hs3).trans x0
  have y1 := (hb4.cell (p := ⟨w2.heap.size, 0 + 1, none⟩) hs3).trans x1
  have y2 := (hb4.frozen (p := ⟨w2.heap.size, 0, none⟩) hs3).trans x2
  have y3 := (hb4.frozen (p := ⟨w2.heap.size, 0 + 1, none⟩) hs3).trans x3
  have Y4 := hide (X4.out.below hb4 hs3)
  have s1 := (hb4.cell (p := ⟨w1.heap.size + 1, 2, none⟩) (by show w1.heap.size + 1 < _; omega)).trans r1
  have s2 := (hb4.cell (p := ⟨w1.heap.size, 2, none⟩) (by show w1.heap.size < _; omega)).trans r2
  have HB4 := hide (HB3.out.trans (hb4.mono HB3.out.size))
  clear hrow4 hb4 x0 x1 x2 x3 X4 r1 r2 HB3
  go_wp2_with fail
  refine wp_loop_rounds 1 ?_
  rw [rounds_succ]
  go_wp2_with fail
  have key : ∃ Z : World → Prop, (∀ w5, Z w5 ↔ (w5.cell? ⟨w1.heap.size + 1, 2, none⟩ = some (.pointer (some ⟨w1.heap.size, 0, none⟩)) ∧ w5.cell? ⟨w1.heap.size, 2, none⟩ = some (.pointer none) ∧ Cells w5 w2.heap.size ∧ Below w.heap.size w w5 ∧ w4.heap.size ≤ w5.heap.size)) := ⟨_, fun _ => Iff.rfl⟩
  obtain ⟨Z, hZ⟩ := key
  have HZZ := hide hZ
  clear hZ
  have hset : Calls Try.prog 16 #[.pointer (some ⟨w2.heap.size, 0, none⟩), .int .i64 d] w4 fun e w5 => e = .returned (.pointer (some ⟨w2.heap.size, 0, none⟩)) ∧ Z w5 := by
    by_cases hd : d = 0
    · subst hd
      refine (setInt_zero w2.heap.size 0 false none 0 0 w4 y0 y1 y2 y3).mono ?_
      rintro e w5 ⟨rfl, rfl⟩
      refine ⟨rfl, (HZZ.out _).2 ⟨?_, ?_, (Y4.out.set _ _).set _ _, (HB4.out.setCell (by show w.heap.size ≤ w2.heap.size; omega) _).setCell (by show w.heap.size ≤ w2.heap.size; omega) _, by simp⟩⟩
      · rw [World.cell?_setCell_other _ _ _ _ (by simp), World.cell?_setCell_other _ _ _ _ (by simp)]; exact s1
      · rw [World.cell?_setCell_other _ _ _ _ (by simp), World.cell?_setCell_other _ _ _ _ (by simp)]; exact s2
    · refine (setInt_grow w2.heap.size 0 none false d w4 hlo hhi hd (by omega) y0 y1 y2 y3).mono ?_
      rintro e w5 ⟨rfl, rfl⟩
      have hbz := (HB4.out.setCell (p := ⟨w2.heap.size, 0 + 1, none⟩) (by show w.heap.size ≤ w2.heap.size; omega) (.slice (some ⟨w4.heap.size, 0, none⟩) 1 1)).setCell (p := ⟨w2.heap.size, 0, none⟩) (by show w.heap.size ≤ w2.heap.size; omega) (.bool (decide (d < 0)))
      have hszz : ((w4.setCell ⟨w2.heap.size, 0 + 1, none⟩ (.slice (some ⟨w4.heap.size, 0, none⟩) 1 1)).setCell ⟨w2.heap.size, 0, none⟩ (.bool (decide (d < 0)))).heap.size = w4.heap.size := by simp
      refine ⟨rfl, (HZZ.out _).2 ⟨?_, ?_, ((Y4.out.set _ _).set _ _).below ((Below.refl _ _).alloc (Nat.le_refl _) _) (by rw [hszz]; omega), hbz.alloc (by rw [hszz]; omega) _, by simp⟩⟩
      · rw [((Below.refl _ _).alloc (Nat.le_refl _) _).cell (p := ⟨w1.heap.size + 1, 2, none⟩) (by rw [hszz]; show w1.heap.size + 1 < _; omega), World.cell?_setCell_other _ _ _ _ (by simp), World.cell?_setCell_other _ _ _ _ (by simp)]; exact s1
      · rw [((Below.refl _ _).alloc (Nat.le_refl _) _).cell (p := ⟨w1.heap.size, 2, none⟩) (by rw [hszz]; show w1.heap.size < _; omega), World.cell?_setCell_other _ _ _ _ (by simp), World.cell?_setCell_other _ _ _ _ (by simp)]; exact s2
  refine hset.mono ?_
  rintro e w5 ⟨rfl, hz5⟩
  obtain ⟨t1, t2, t3, t4, t5⟩ := (HZZ.out _).1 hz5
  have HB5 := hide t4
  have T3 := hide t3
  clear hz5 t3 t4 y0 y1 y2 y3 Y4 s1 s2 HZZ HB4 hset
  go_wp2_with fail
  refine (locked_not (w1.heap.size + 1) w1.heap.size _ t1 t2).mono ?_
  rintro e w6 ⟨rfl, hw6⟩
  have hb6 : Below w5.heap.size w5 w6 := by rw [hw6]; exact (Below.refl _ _).alloc (Nat.le_refl _) _
  have hs6 : w5.heap.size < w6.heap.size := by rw [hw6]; simp
  have z1 : w6.cell? ⟨w5.heap.size, 0 + 1, none⟩ = some (.slice none 0 0) := by rw [hw6]; simp
  have Z4 : Hid (Cells w6 w5.heap.size) := by rw [hw6]; exact Cells.new _ _ _
  have Z5 := hide (T3.out.below hb6 (by omega))
  have HB6 := hide (HB5.out.trans (hb6.mono HB5.out.size))
  clear hw6 hb6 t1 t2 T3 HB5
  go_wp2_with fail
  refine (words_zero w5.heap.size 0 0 none _ z1 hs6).mono ?_
  rintro e w7 ⟨rfl, _, hb7⟩
  obtain ⟨ca, ta, ea⟩ := Z5.out.below hb7 (by omega)
  obtain ⟨cb, tb, eb⟩ := Z4.out.below hb7 hs6
  have hpn := run_neq_ptr_other (P := Try.prog) w7 (a := ⟨w5.heap.size, 0, none⟩) (b := ⟨w2.heap.size, 0, none⟩) Try.underlying35 hi54 (by rw [hsz54]; omega) (by first | (simp; done) | (simp; omega)) eb ea
  have HB7 := hide (HB6.out.trans (hb7.mono HB6.out.size))
  clear hb7 Z4 Z5 z1 HB6 ea eb
  go_wp2
  go_ret
  exact ⟨rfl, HB7.out⟩

end Go.Proofs.Qxb6612640a
