import Derived.Test.Qxb6612640aWalksB
namespace Go.Proofs.Qxb6612640a
open Go.RowKit

theorem info29 : (Try.prog.info? 29).map (fun i => (i.zero, i.size, i.bytes)) = some (some (.int .u64 0), 1, 8) := by kernel_rfl
theorem info51 : (Try.prog.info? 51).map (fun i => (i.zero, i.size, i.bytes)) = some (some (.int .u64 0), 1, 8) := by kernel_rfl

/-- One word more. -/
theorem Row.step {w : World} {g : Nat} {e : TypeId} {z : List Int} {n k : Nat} (h : Row w g e (fill z n k)) (hk : k < n) (hz : n ≤ z.length) {c : Int} (hc : Hid (c = z.getD k 0)) : Row (w.setCell ⟨g, k, none⟩ (.int .u64 c)) g e (fill z n (k + 1)) := by
  have := h.set k c
  rw [hc.out, fill_set z n k hk hz] at this
  rw [hc.out]
  exact this
theorem Row.slot {w : World} {g : Nat} {e : TypeId} {z : List Int} {n k : Nat} (h : Row w g e (fill z n k)) (hk : k < n) (hz : n ≤ z.length) : ∃ y, w.cell? ⟨g, k, none⟩ = some (.int .u64 y) := 
  ⟨_, h.cell k (by rw [fill_length z n k (by omega) hz]; exact hk)⟩

set_option maxHeartbeats 2000000 in
/-- 'ZZintWords(x)' where x has words: a row of its own with just these. -/
theorem words_pos (b o g n cap : Nat) (ng : Bool) (z : List Int) (w : World) (c0 : w.cell? ⟨b, o, none⟩ = some (.bool ng)) (c1 : w.cell? ⟨b, o + 1, none⟩ = some (.slice (some ⟨g, 0, none⟩) n cap))
    (hr : ∀ j, j < n → w.cell? ⟨g, j, none⟩ = some (.int .u64 (z.getD j 0))) (hz : n ≤ z.length) (hle : n ≤ 65536) (hpos : 0 < n) (hb : b < w.heap.size) (hg : g < w.heap.size) :
    Calls Try.prog 15 #[.pointer (some ⟨b, o, none⟩)] w fun e w' => e = .returned (.tuple #[.slice (some ⟨w.heap.size, 0, none⟩) n n, .bool ng]) ∧ Row w' w.heap.size 29 (z.take n) ∧ Below w.heap.size w w' := by
  have HR := hide hr
  clear hr
  obtain ⟨i0, hi, hz0, hz1, hz2⟩ := info_parts info29
  go_enter Try.func15, Try.ntmps15
  go_wp2_with (first
    | (go_at_call 26; refine (bits_any b o _ n cap _ c1).mono ?_; rintro e w' ⟨rfl, rfl⟩)
    | (at_make; refine wpList_make_full _ rfl _ _ 27 rfl w.heap.size 29 i0 (.int .u64 0) 1 Try.underlying27 hi hz0 hz1 _ _ _ _ n rfl rfl rfl rfl (by rw [hz2]; omega) (by unfold maxLen; omega) (Nat.le_refl _) ?_; intro w1 hown hgr; have hrow := Row.made hown; have hB1 := (Below.refl w.heap.size w).grown hgr (Nat.le_refl _) (fun k e => by cases e); clear hown hgr))
  have HROW := hide hrow
  clear hrow
  go_loopw [6] (fun v wr => ∃ k : Nat, k ≤ n ∧ v = .int .i64 k ∧ Row wr w.heap.size 29 (fill z n k) ∧ Below w.heap.size w wr) (fun v _ => n - (intOf v).toNat)
  case atStart => exact ⟨0, Nat.zero_le _, rfl, by rw [fill_zero]; exact HROW.out, hB1⟩
  case round =>
    obtain ⟨k, hk, rfl, hrow, hbel⟩ := hrel
    clear HROW hB1
    have hsz := hbel.size
    by_cases hlt : k < n
    · obtain ⟨c, hcz⟩ : ∃ c, c = z.getD k 0 := ⟨_, rfl⟩
      have hcell := (hbel.cell (p := ⟨g, k, none⟩) hg).trans (HR.out k hlt)
      rw [← hcz] at hcell
      have HCZ := hide hcz
      clear hcz
      obtain ⟨y, hy⟩ := hrow.slot hlt hz
      have hf := hrow.frozen k
      have R := hide (hrow.step hlt hz HCZ)
      have B := hide (hbel.setCell (p := ⟨w.heap.size, k, none⟩) (Nat.le_refl _) (.int .u64 c))
      go_wp2
      go_roundw
      case rel => exact ⟨k + 1, by omega, by go_num, R.out, B.out⟩
      case measure => simp [intOf]; omega
    · obtain rfl : k = n := by omega
      have d0 := (hbel.cell (p := ⟨b, o, none⟩) hb).trans c0
      have d1 := (hbel.cell (p := ⟨b, o + 1, none⟩) hb).trans c1
      clear hlt hk c0 c1
      have HB := hide hbel
      have HW := hide hrow
      clear hbel hrow
      cases ng
      · go_wp2_with fail
        refine (sign_plus b o _ k cap hpos _ d0 d1).mono ?_
        rintro e w' ⟨rfl, rfl⟩
        go_wp2
        go_ret2
        exact ⟨rfl, by rw [← fill_full]; exact HW.out, HB.out⟩
      · go_wp2_with fail
        refine (sign_neg b o _ k cap hpos _ d0 d1).mono ?_
        rintro e w' ⟨rfl, rfl⟩
        go_wp2
        go_ret2
        exact ⟨rfl, by rw [← fill_full]; exact HW.out, HB.out⟩

set_option maxHeartbeats 2000000 in
/-- 'ZZintWords(x)' where x has none. -/
theorem words_zero (b o cap : Nat) (a : Option Addr) (w : World) (c1 : w.cell? ⟨b, o + 1, none⟩ = some (.slice a 0 cap)) (hb : b < w.heap.size) :
    Calls Try.prog 15 #[.pointer (some ⟨b, o, none⟩)] w fun e w' => e = .returned (.tuple #[.slice (some ⟨w.heap.size, 0, none⟩) 0 0, .bool false]) ∧ Row w' w.heap.size 29 [] ∧ Below w.heap.size w w' := by
  obtain ⟨i0, hi, hz0, hz1, hz2⟩ := info_parts info29
  go_enter Try.func15, Try.ntmps15
  go_wp2_with (first
    | (go_at_call 26; refine (bits_any b o _ 0 cap _ c1).mono ?_; rintro e w' ⟨rfl, rfl⟩)
    | (at_make; refine wpList_make_full _ rfl _ _ 27 rfl w.heap.size 29 i0 (.int .u64 0) 1 Try.underlying27 hi hz0 hz1 _ _ _ _ 0 rfl rfl rfl rfl (by rw [hz2]; omega) (by unfold maxLen; omega) (Nat.le_refl _) ?_; intro w1 hown hgr; have hrow := hide (Row.made hown); have hB1 := (Below.refl w.heap.size w).grown hgr (Nat.le_refl _) (fun k e => by cases e); clear hown hgr))
  refine wp_loop_rounds 1 ?_
  rw [rounds_succ]
  have d1 := (hB1.cell (p := ⟨b, o + 1, none⟩) hb).trans c1
  go_wp2_with (go_at_call 27; refine (sign_zero b o _ cap _ d1).mono ?_; rintro e w' ⟨rfl, rfl⟩)
  go_ret2
  exact ⟨rfl, hrow.out, hB1⟩

/-- 'ZZintWords(x)' of an x that is not negative. -/
theorem words_plus (b o g n cap : Nat) (z : List Int) (w : World) (c0 : w.cell? ⟨b, o, none⟩ = some (.bool false)) (c1 : w.cell? ⟨b, o + 1, none⟩ = some (.slice (some ⟨g, 0, none⟩) n cap))
    (hr : ∀ j, j < n → w.cell? ⟨g, j, none⟩ = some (.int .u64 (z.getD j 0))) (hz : n ≤ z.length) (hle : n ≤ 65536) (hb : b < w.heap.size) (hg : g < w.heap.size) :
    Calls Try.prog 15 #[.pointer (some ⟨b, o, none⟩)] w fun e w' => e = .returned (.tuple #[.slice (some ⟨w.heap.size, 0, none⟩) n n, .bool false]) ∧ Row w' w.heap.size 29 (z.take n) ∧ Below w.heap.size w w' := by
  by_cases h : 0 < n
  · exact words_pos b o g n cap false z w c0 c1 hr hz hle h hb hg
  · obtain rfl : n = 0 := by omega
    rw [List.take_zero]
    exact words_zero b o cap _ w c1 hb

set_option maxHeartbeats 2000000 in
/-- 'ZZnewAccountWithLocked(false, ..)'. -/
theorem account_not (v : Option Addr) (n cap : Nat) (w : World) :
    Calls Try.prog 13 #[.bool false, .slice v n cap] w fun e w' => e = .returned (.pointer (some ⟨w.heap.size + 1, 0, none⟩)) ∧ w'.cell? ⟨w.heap.size + 1, 2, none⟩ = some (.pointer (some ⟨w.heap.size, 0, none⟩)) ∧
      w'.cell? ⟨w.heap.size, 2, none⟩ = some (.pointer none) ∧ w'.heap.size = w.heap.size + 2 ∧ Below w.heap.size w w' := by
  go_enter Try.func13, Try.ntmps13
  go_wp2
  go_ret
  exact ⟨rfl, by simp, by simp, by simp, ((Below.refl _ _).alloc (Nat.le_refl _) _).alloc (by simp) _⟩

/-- What a big.Int's two cells hold behind the two stores into it. -/
theorem two_stores {w : World} {b o : Nat} {u v : Value} (c0 : w.cell? ⟨b, o, none⟩ = some u) (c1 : w.cell? ⟨b, o + 1, none⟩ = some v) (x y : Value) :
    ((w.setCell ⟨b, o + 1, none⟩ x).setCell ⟨b, o, none⟩ y).cell? ⟨b, o, none⟩ = some y ∧ ((w.setCell ⟨b, o + 1, none⟩ x).setCell ⟨b, o, none⟩ y).cell? ⟨b, o + 1, none⟩ = some x := by
  constructor
  · exact World.cell?_setCell_same _ ⟨b, o, none⟩ y ((World.cell?_setCell_other w ⟨b, o + 1, none⟩ ⟨b, o, none⟩ x (by simp)).trans c0)
  · exact (World.cell?_setCell_other _ ⟨b, o, none⟩ ⟨b, o + 1, none⟩ y (by simp)).trans (World.cell?_setCell_same w ⟨b, o + 1, none⟩ x c1)

set_option maxHeartbeats 2000000 in
/-- 'ZZnewAccountWithLocked(true, ..)'. -/
theorem account_run (s n : Nat) (z : List Int) (w : World) (hr : Row w s 29 z) (hz : z.length = n) (hle : n ≤ 65536) :
    Calls Try.prog 13 #[.bool true, .slice (some ⟨s, 0, none⟩) n n] w fun e w' => e = .returned (.pointer (some ⟨w.heap.size + 1, 0, none⟩)) ∧ Below w.heap.size w w' ∧
      w'.cell? ⟨w.heap.size + 1, 2, none⟩ = some (.pointer (some ⟨w.heap.size, 0, none⟩)) ∧
      ∃ t L, Top z n t ∧ w.heap.size + 2 < L ∧ L < w'.heap.size ∧ w'.cell? ⟨w.heap.size, 2, none⟩ = some (.pointer (some ⟨L, 0, none⟩)) ∧
        w'.cell? ⟨L, 1, none⟩ = some (.bool false) ∧ w'.cell? ⟨L, 2, none⟩ = some (.slice (some ⟨w.heap.size + 2, 0, none⟩) t n) ∧ w'.frozen? ⟨L, 1, none⟩ = false ∧ w'.frozen? ⟨L, 2, none⟩ = false ∧
        Row w' (w.heap.size + 2) 51 z := by
  have hsw := hr.lt
  have HR := hide hr
  have HZ := hide hz
  clear hr hz
  obtain ⟨i0, hi, hz0, hz1, hz2⟩ := info_parts info51
  go_enter Try.func13, Try.ntmps13
  go_wp2_with (first
    | (at_make; refine wpList_make_full _ rfl _ _ 49 rfl (w.heap.size + 2) 51 i0 (.int .u64 0) 1 Try.underlying49 hi hz0 hz1 _ _ _ _ n rfl rfl rfl rfl (by rw [hz2]; omega) (by unfold maxLen; omega) (by simp) ?_; intro w1 hown hgr))
  have hrow : Row w1 (w.heap.size + 2) 51 (List.replicate n 0) := Row.made (by simpa using hown)
  have hB1 := (Below.refl (w.heap.size + 2) _).grown hgr (by simp) (fun k e => by cases e)
  have hB0 : Below w.heap.size w w1 := (((Below.refl _ _).alloc (Nat.le_refl _) _).alloc (by simp) _).trans (hB1.mono (by omega))
  have q1 : w1.cell? ⟨w.heap.size + 1, 2, none⟩ = some (.pointer (some ⟨w.heap.size, 0, none⟩)) := (hB1.cell (p := ⟨w.heap.size + 1, 2, none⟩) (by simp)).trans (by simp)
  have q2 : w1.cell? ⟨w.heap.size, 2, none⟩ = some (.pointer none) := (hB1.cell (p := ⟨w.heap.size, 2, none⟩) (by simp)).trans (by simp)
  have q3 : w1.frozen? ⟨w.heap.size, 2, none⟩ = false := (hB1.frozen (p := ⟨w.heap.size, 2, none⟩) (by simp)).trans (by simp)
  clear hown hgr hB1
  have HROW := hide hrow
  clear hrow
  go_loopw [7] (fun v wr => ∃ k : Nat, k ≤ n ∧ v = .int .i64 k ∧ Row wr (w.heap.size + 2) 51 (fill z n k) ∧ Below (w.heap.size + 2) w1 wr) (fun v _ => n - (intOf v).toNat)
  case atStart => exact ⟨0, Nat.zero_le _, rfl, by rw [fill_zero]; exact HROW.out, Below.refl _ _⟩
  case round =>
    obtain ⟨k, hk, rfl, hrow, hbel⟩ := hrel
    clear HROW
    by_cases hlt : k < n
    · obtain ⟨c, hcz⟩ : ∃ c, c = z.getD k 0 := ⟨_, rfl⟩
      have hcell := (hbel.cell (p := ⟨s, k, none⟩) (by show s < _; omega)).trans ((hB0.cell (p := ⟨s, k, none⟩) hsw).trans (HR.out.cell k (by rw [HZ.out]; exact hlt)))
      rw [← hcz] at hcell
      have HCZ := hide hcz
      clear hcz
      obtain ⟨y, hy⟩ := hrow.slot hlt (by rw [HZ.out]; omega)
      have hf := hrow.frozen k
      have R := hide (hrow.step hlt (by rw [HZ.out]; omega) HCZ)
      have B := hide (hbel.setCell (p := ⟨w.heap.size + 2, k, none⟩) (Nat.le_refl _) (.int .u64 c))
      clear hrow hbel q1 q2 q3 hB0
      go_wp2
      go_roundw
      case rel => exact ⟨k + 1, by omega, by go_num, R.out, B.out⟩
      case measure => simp [intOf]; omega
    · obtain rfl : k = n := by omega
      clear hlt hk
      have hrz : Row wr (w.heap.size + 2) 51 z := by rw [fill_full, List.take_of_length_le (by rw [HZ.out]; exact Nat.le_refl _)] at hrow; exact hrow
      have hL := hrz.lt
      have p1 := (hbel.cell (p := ⟨w.heap.size + 1, 2, none⟩) (by simp)).trans q1
      have p2 := (hbel.cell (p := ⟨w.heap.size, 2, none⟩) (by simp)).trans q2
      have p3 := (hbel.frozen (p := ⟨w.heap.size, 2, none⟩) (by simp)).trans q3
      have HB := hide (hB0.trans (hbel.mono (by omega)))
      have HW := hide hrz
      clear hbel hrow q1 q2 q3 hB0 hrz
      go_wp2_with fail
      refine (setBits_any wr.heap.size 1 (w.heap.size + 2) k z false none 0 0 _ (HW.out.below ((Below.refl wr.heap.size wr).alloc (Nat.le_refl _) _) hL) HZ.out hle (by simp) (by simp) (by simp) (by simp)).mono ?_
      rintro e w2 ⟨rfl, t, ht, hw2⟩
      have hb2 : Below wr.heap.size wr w2 := by
        rw [hw2]
        exact (((Below.refl _ _).alloc (Nat.le_refl _) _).setCell (by simp) _).setCell (by simp) _
      have g1 : w2.cell? ⟨wr.heap.size, 1, none⟩ = some (.bool false) := by rw [hw2]; exact (two_stores (u := .bool false) (v := .slice none 0 0) (by simp) (by simp) _ _).1
      have g2 : w2.cell? ⟨wr.heap.size, 2, none⟩ = some (.slice (some ⟨w.heap.size + 2, 0, none⟩) t k) := by rw [hw2]; exact (two_stores (u := .bool false) (v := .slice none 0 0) (by simp) (by simp) _ _).2
      have g3 : w2.frozen? ⟨wr.heap.size, 1, none⟩ = false := by rw [hw2]; simp
      have g4 : w2.frozen? ⟨wr.heap.size, 2, none⟩ = false := by rw [hw2]; simp
      have g5 : wr.heap.size < w2.heap.size := by rw [hw2]; simp
      clear hw2
      have r1 := (hb2.cell (p := ⟨w.heap.size + 1, 2, none⟩) (by show w.heap.size + 1 < _; omega)).trans p1
      have r2 := (hb2.cell (p := ⟨w.heap.size, 2, none⟩) (by show w.heap.size < _; omega)).trans p2
      have r3 := (hb2.frozen (p := ⟨w.heap.size, 2, none⟩) (by show w.heap.size < _; omega)).trans p3
      have HB2 := hide hb2
      clear hb2 p1 p2 p3
      go_wp2
      go_ret
      refine ⟨rfl, (HB.out.trans (HB2.out.mono (by omega))).setCell (by simp) _, ?_, t, wr.heap.size, ht, hL, by simp [g5], ?_, ?_, ?_, by simp [g3], by simp [g4], ?_⟩
      · rw [World.cell?_setCell_other _ _ _ _ (by simp)]; exact r1
      · exact World.cell?_setCell_same _ _ _ r2
      · rw [World.cell?_setCell_other _ _ _ _ (by simp)]; exact g1
      · rw [World.cell?_setCell_other _ _ _ _ (by simp)]; exact g2
      · exact (HW.out.below HB2.out hL).setOther _ _ (by simp)

end Go.Proofs.Qxb6612640a
