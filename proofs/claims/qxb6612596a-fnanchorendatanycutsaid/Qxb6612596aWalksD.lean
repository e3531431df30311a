import Derived.Test.Qxb6612596aWalksC
namespace Go.Proofs.Qxb6612596a
open Go.RowKit

theorem hide {p : Prop} (h : p) : Hid p := h

theorem zzBytes_yes (a : Option Addr) (len cap : Nat) (x y u : Int) (w : World) (h : len ≤ 1048576) :
    Calls Try.prog 5 #[.slice a len cap, .int .i64 x, .int .i64 y, .int .i64 u] w fun e w' => e = .returned (.bool true) ∧ w = w' := by
  go_enter Try.func5, Try.ntmps5
  go_wp2
  go_ret
  exact ⟨rfl, rfl⟩

theorem zzBytes_no (a : Option Addr) (len cap : Nat) (x y u : Int) (w : World) (h : ¬ len ≤ 1048576) :
    Calls Try.prog 5 #[.slice a len cap, .int .i64 x, .int .i64 y, .int .i64 u] w fun e w' => e = .returned (.bool false) ∧ w = w' := by
  have h' : 1048576 < (len : Int) := by omega
  go_enter Try.func5, Try.ntmps5
  go_wp2
  go_ret
  exact ⟨rfl, rfl⟩

theorem law_big (a : Option Addr) (len cap : Nat) (x y u : Int) (w : World) (h : ¬ len ≤ 1048576) :
    Calls Try.prog 3 #[.slice a len cap, .int .i64 x, .int .i64 y, .int .i64 u] w fun e w' => e = .returned (.bool true) ∧ w' = w := by
  go_enter Try.func3, Try.ntmps3
  go_wp2_with (go_at_call 5; refine (zzBytes_no _ _ _ _ _ _ _ h).mono ?_; rintro e w' ⟨rfl, rfl⟩)
  go_ret
  exact ⟨rfl, rfl⟩

set_option maxHeartbeats 1000000 in
theorem law_out (a : Option Addr) (len cap : Nat) (x y u : Int) (w : World) (h : len ≤ 1048576) (ho : x < 0 ∨ y < x ∨ u < y ∨ (len : Int) < u) :
    Calls Try.prog 3 #[.slice a len cap, .int .i64 x, .int .i64 y, .int .i64 u] w fun e w' => e = .returned (.bool true) ∧ w' = w := by
  have h' : ¬ 1048576 < (len : Int) := by omega
  rcases (show x < 0 ∨ (0 ≤ x ∧ y < x) ∨ (0 ≤ x ∧ x ≤ y ∧ u < y) ∨ (0 ≤ x ∧ x ≤ y ∧ y ≤ u ∧ (len : Int) < u) by omega) with h1 | ⟨h1, h2⟩ | ⟨h1, h2, h3⟩ | ⟨h1, h2, h3, h4⟩
  all_goals
    clear ho
    go_enter Try.func3, Try.ntmps3
    go_wp2_with (go_at_call 5; refine (zzBytes_yes _ _ _ _ _ _ _ h).mono ?_; rintro e w' ⟨rfl, rfl⟩)
    go_ret
    exact ⟨rfl, rfl⟩

set_option maxHeartbeats 1000000 in
theorem law_nil (w : World) :
    Calls Try.prog 3 #[.slice none 0 0, .int .i64 0, .int .i64 0, .int .i64 0] w fun e w' => e = .returned (.bool true) ∧ Below w.heap.size w w' := by
  have hne := fun w => run_neq_slice_nil_any (P := Try.prog) w 22 5 none 0 0 0 0 Try.underlying22
  go_enter Try.func3, Try.ntmps3
  go_wp2_with (go_at_call 5; refine (zzBytes_yes _ _ _ _ _ _ _ (by omega)).mono ?_; rintro e w' ⟨rfl, rfl⟩)
  refine (zzEnd_none _).mono ?_
  rintro e w1 ⟨rfl, hb1⟩
  go_wp2_with fail
  refine (zzEnd_none _).mono ?_
  rintro e w2 ⟨rfl, hb2⟩
  go_wp2_with fail
  refine (zzEnd_none _).mono ?_
  rintro e w3 ⟨rfl, hb3⟩
  go_wp2_with fail
  refine wp_loop_rounds 1 ?_
  rw [rounds_succ]
  go_wp2
  go_ret
  exact ⟨rfl, hb1.trans ((hb2.mono hb1.size).trans (hb3.mono (Nat.le_trans hb1.size hb2.size)))⟩

theorem size5 : (Try.prog.info? 5).map (·.size) = some 1 := by kernel_rfl

/-- The copy's source, in the world behind 'make'. -/
theorem source_kept {w w1 : World} {ad : Addr} {z : List Int} {len : Nat} {X : List Value} (hgr : w.grownBy w1 none) (hX : Hid (X = (z.take len).map (Value.int .u8)))
    (hc : ∀ j, j < len → w.cell? (ad.add j) = some (.int .u8 (z.getD j 0))) (hz : len ≤ z.length) (j : Nat) (v : Value) (hj : X[j]? = some v) : w1.cell? (ad.add j) = some v := by
  rw [hX.out] at hj
  have hlt : j < len := by
    have := (List.getElem?_eq_some_iff.1 hj).1
    simp at this; omega
  have h1 := hc j hlt
  have h2 := block_lt_of_cell h1
  rw [World.cell?_of_block (w := w) (hgr.block _ h2 (by simp)), h1]
  rw [List.getElem?_map, List.getElem?_take_of_lt hlt, List.getElem?_eq_getElem (by omega)] at hj
  simp at hj
  rw [← hj]
  simp [List.getElem?_eq_getElem (show j < z.length by omega)]

/-- The three ends agree, as the law asks. -/
theorem ends_agree {z : List Int} {i m l e a b : Nat} (he : Ends z i l e) (ha : Ends z i m a) (hb : Ends z m l b) (hml : m ≤ l) : (a < m ∧ e = a) ∨ (¬ a < m ∧ e = b) := by
  by_cases h : a < m
  · exact .inl ⟨h, he.one (ha.cut_short hml h)⟩
  · obtain rfl : a = m := by have := ha.2.1; omega
    exact .inr ⟨h, he.one (ha.cut_on hb)⟩

set_option maxHeartbeats 2000000 in
theorem law_some (ad : Addr) (len cap : Nat) (z : List Int) (i m l : Nat) (w : World) (hz : len ≤ z.length) (hc : ∀ j, j < len → w.cell? (ad.add j) = some (.int .u8 (z.getD j 0)))
    (hzb : ∀ j, 0 ≤ z.getD j 0 ∧ z.getD j 0 ≤ 255) (h : len ≤ 1048576) (him : i ≤ m) (hml : m ≤ l) (hl : l ≤ len) :
    Calls Try.prog 3 #[.slice (some ad) len cap, .int .i64 i, .int .i64 m, .int .i64 l] w fun e w' => e = .returned (.bool true) ∧ Below w.heap.size w w' := by
  have hne := fun w => run_neq_slice_nil_any (P := Try.prog) w 22 5 (some ad) len cap 0 0 Try.underlying22
  have HC : Hid (∀ j, j < len → w.cell? (ad.add j) = some (.int .u8 (z.getD j 0))) := hc
  have HZ : Hid (∀ j, 0 ≤ z.getD j 0 ∧ z.getD j 0 ≤ 255) := hzb
  clear hc hzb
  obtain ⟨i0, hi, hz0, hz1, hz2⟩ := info_parts info5
  obtain ⟨X, hX⟩ : ∃ X, X = (z.take len).map (Value.int .u8) := ⟨_, rfl⟩
  have HX : Hid (X = (z.take len).map (Value.int .u8)) := hX
  have hXl : X.length = len := by rw [hX]; simp; omega
  have HXl : Hid (X.length = len) := hXl
  have HX1 : Hid (∀ v ∈ X, v.oneCell' = true) := by rw [hX]; exact ints_oneCell _ _
  clear hX hXl
  have h' : decide (1048576 < (len : Int)) = false := by simp; omega
  have h'' : decide ((i : Int) < 0) = false := by simp
  go_enter Try.func3, Try.ntmps3
  go_wp2_with (first
    | (go_at_call 5; refine (zzBytes_yes _ _ _ _ _ _ _ h).mono ?_; rintro e w' ⟨rfl, rfl⟩)
    | (at_make; refine wpList_make_full _ rfl _ _ 22 rfl w.heap.size 5 i0 (.int .u8 0) 1 Try.underlying22 hi hz0 hz1 _ _ _ _ len rfl rfl rfl rfl (by rw [hz2]; omega) (by unfold maxLen; omega) (Nat.le_refl _) ?_; intro w1 hown hgr; obtain ⟨cur, hcl, hg⟩ := row_of_owns hown; have hB1 := (Below.refl w.heap.size w).grown hgr (Nat.le_refl _) (fun k e => by cases e); have HCL : Hid (cur.length = len) := hcl; clear hown hcl)
    | (refine wpList_copy_splice rfl _ _ 22 22 rfl 5 Try.underlying22 size5 _ _ _ _ _ _ rfl rfl w.heap.size 0 cur 5 hg X (by rw [HXl.out]; simp) (fun _ => ⟨rfl, ad, rfl, source_kept hgr HX HC.out hz⟩) (by rw [HXl.out, HCL.out]; omega) HX1.out w.heap.size w hB1 (Nat.le_refl _) ?_; clear hg hB1; intro w2 HG hB2))
  have hc2 : ∀ j, j < len → w2.cell? ⟨w.heap.size, j, none⟩ = some (.int .u8 (z.getD j 0)) := fun j hj => copied_cell hz (by have := HG.out; rwa [splice_whole cur X (by rw [HXl.out, HCL.out]), HX.out] at this) j hj
  have hs2 : w.heap.size < w2.heap.size := (Array.getElem?_eq_some_iff.1 HG.out).1
  clear HG HXl HCL HX HX1 HC
  refine (zzEnd_some w.heap.size len len z i l _ hc2 hs2 HZ.out (by omega) hl h).mono ?_
  rintro e w3 ⟨⟨k1, rfl, he⟩, hb3⟩
  have hc3 : ∀ j, j < len → w3.cell? ⟨w.heap.size, j, none⟩ = some (.int .u8 (z.getD j 0)) := fun j hj => (hb3.cell (p := ⟨w.heap.size, j, none⟩) hs2).trans (hc2 j hj)
  have hs3 : w.heap.size < w3.heap.size := Nat.lt_of_lt_of_le hs2 hb3.size
  have HC3 := hide hc3
  clear hc2 hc3
  go_wp2_with fail
  refine (zzEnd_some w.heap.size len len z i m _ HC3.out hs3 HZ.out (by omega) (by omega) h).mono ?_
  rintro e w4 ⟨⟨k2, rfl, ha⟩, hb4⟩
  have hc4 : ∀ j, j < len → w4.cell? ⟨w.heap.size, j, none⟩ = some (.int .u8 (z.getD j 0)) := fun j hj => (hb4.cell (p := ⟨w.heap.size, j, none⟩) hs3).trans (HC3.out j hj)
  have hs4 : w.heap.size < w4.heap.size := Nat.lt_of_lt_of_le hs3 hb4.size
  have HC4 := hide hc4
  clear hc4 HC3
  go_wp2_with fail
  refine (zzEnd_some w.heap.size len len z m l _ HC4.out hs4 HZ.out (by omega) hl h).mono ?_
  rintro e w5 ⟨⟨k3, rfl, hb⟩, hb5⟩
  have hc5 : ∀ j, j < len → w5.cell? ⟨w.heap.size, j, none⟩ = some (.int .u8 (z.getD j 0)) := fun j hj => (hb5.cell (p := ⟨w.heap.size, j, none⟩) hs4).trans (HC4.out j hj)
  have HC5 := hide hc5
  clear hc5 HC4
  have hbel : Below w.heap.size w w5 := hB2.trans ((hb3.mono (Nat.le_of_lt hs2)).trans ((hb4.mono (Nat.le_of_lt hs3)).trans (hb5.mono (Nat.le_of_lt hs4))))
  have hag := ends_agree he ha hb hml
  clear ha hb hb3 hb4 hb5 hB2 hs2 hs3 hs4
  have he1 := he.1
  have he2 := he.2.1
  have hlast : k1 < l → ancB (z.getD k1 0) = false := he.2.2.2
  have hall : Sofar z i k1 := he.2.2.1
  have HL := hide hlast
  clear hlast he
  have hd1 : decide (k1 < i) = false := by simp; omega
  have hd3 : decide (l < k1) = false := by simp; omega
  rcases hag with ⟨g1, g2⟩ | ⟨g1, g2⟩
  · have hd2 : ((k1 : Int) != k2) = false := by simp [g2]
    clear g2
    go_wp2_with fail
    go_loop [13] (fun v => ∃ k : Nat, i ≤ k ∧ k ≤ k1 ∧ v = .int .i64 k) (fun v => k1 - (intOf v).toNat)
    case atStart => exact ⟨i, Nat.le_refl _, he1, rfl⟩
    case round =>
      obtain ⟨k, hk1, hk2, rfl⟩ := hrel
      by_cases hlt : k < k1
      · obtain ⟨c, hcz⟩ : ∃ c, c = z.getD k 0 := ⟨_, rfl⟩
        have hcell := HC5.out k (by omega)
        have hbd := HZ.out k
        have hy := hall k hk1 hlt
        rw [← hcz] at hcell hbd hy
        clear hcz
        obtain ⟨hb0, hb1⟩ := hbd
        go_wp2_with (go_at_call 7; refine (ancByte _ _ (by omega) (by omega)).mono ?_; rintro e w' ⟨rfl, hww⟩; replace hww := hww.symm; subst hww)
        go_round
        case rel => exact ⟨k + 1, by omega, by omega, by go_num⟩
        case measure => simp [intOf]; omega
      · by_cases hkl : k1 = l
        · have hq : ((k1 : Int) == l) = true := by simp [hkl]
          clear hkl
          go_wp2_with fail
          go_ret
          exact ⟨rfl, hbel⟩
        · have hq : ((k1 : Int) == l) = false := by simp; omega
          obtain ⟨c, hcz⟩ : ∃ c, c = z.getD k1 0 := ⟨_, rfl⟩
          have hcell := HC5.out k1 (by omega)
          have hbd := HZ.out k1
          have hy := HL.out (by omega)
          rw [← hcz] at hcell hbd hy
          clear hcz
          obtain ⟨hb0, hb1⟩ := hbd
          have hlt2 : k1 < len := by omega
          go_wp2_with (go_at_call 7; refine (ancByte _ _ (by omega) (by omega)).mono ?_; rintro e w' ⟨rfl, hww⟩; replace hww := hww.symm; subst hww)
          go_ret
          exact ⟨rfl, hbel⟩
  · have hd2 : ((k1 : Int) != k3) = false := by simp [g2]
    clear g2
    go_wp2_with fail
    go_loop [13] (fun v => ∃ k : Nat, i ≤ k ∧ k ≤ k1 ∧ v = .int .i64 k) (fun v => k1 - (intOf v).toNat)
    case atStart => exact ⟨i, Nat.le_refl _, he1, rfl⟩
    case round =>
      obtain ⟨k, hk1, hk2, rfl⟩ := hrel
      by_cases hlt : k < k1
      · obtain ⟨c, hcz⟩ : ∃ c, c = z.getD k 0 := ⟨_, rfl⟩
        have hcell := HC5.out k (by omega)
        have hbd := HZ.out k
        have hy := hall k hk1 hlt
        rw [← hcz] at hcell hbd hy
        clear hcz
        obtain ⟨hb0, hb1⟩ := hbd
        go_wp2_with (go_at_call 7; refine (ancByte _ _ (by omega) (by omega)).mono ?_; rintro e w' ⟨rfl, hww⟩; replace hww := hww.symm; subst hww)
        go_round
        case rel => exact ⟨k + 1, by omega, by omega, by go_num⟩
        case measure => simp [intOf]; omega
      · by_cases hkl : k1 = l
        · have hq : ((k1 : Int) == l) = true := by simp [hkl]
          clear hkl
          go_wp2_with fail
          go_ret
          exact ⟨rfl, hbel⟩
        · have hq : ((k1 : Int) == l) = false := by simp; omega
          obtain ⟨c, hcz⟩ : ∃ c, c = z.getD k1 0 := ⟨_, rfl⟩
          have hcell := HC5.out k1 (by omega)
          have hbd := HZ.out k1
          have hy := HL.out (by omega)
          rw [← hcz] at hcell hbd hy
          clear hcz
          obtain ⟨hb0, hb1⟩ := hbd
          have hlt2 : k1 < len := by omega
          go_wp2_with (go_at_call 7; refine (ancByte _ _ (by omega) (by omega)).mono ?_; rintro e w' ⟨rfl, hww⟩; replace hww := hww.symm; subst hww)
          go_ret
          exact ⟨rfl, hbel⟩

end Go.Proofs.Qxb6612596a
