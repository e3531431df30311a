import Derived.Test.Qxb6612671aPlain
import Derived.OwnWalk
import Derived.RegionTactic
import Derived.BigRegion
import Derived.Deep.QuietTactic
import Derived.BigQuiet
import Derived.WalkSmall
namespace Go.Proofs.Qxb6612671a
open Go.RowKit

theorem hide2 {p : Prop} (h : p) : Hid p := h
theorem info50 : (Try.prog.info? 50).map (fun i => (i.zero, i.size, i.bytes)) = some (some (.agg #[.int .i64 0, .int .i64 0, .string ByteArray.empty, .int .i64 0]), 4, 40) := by kernel_rfl

theorem Lies.below {w w' : World} {b off n B : Nat} {O : List Op4} (h : Lies w b off O n) (hb : Below B w w') (hl : b < B) : Lies w' b off O n := fun j hj => by
  obtain ⟨h1, h2, h3, h4⟩ := h j hj
  exact ⟨(hb.cell (p := ⟨b, off + j * 4, none⟩) hl).trans h1, (hb.cell (p := ⟨b, off + j * 4 + 1, none⟩) hl).trans h2, (hb.cell (p := ⟨b, off + j * 4 + 2, none⟩) hl).trans h3, (hb.cell (p := ⟨b, off + j * 4 + 3, none⟩) hl).trans h4⟩
theorem Lies.mono {w : World} {b off n m : Nat} {O : List Op4} (h : Lies w b off O n) (hm : m ≤ n) : Lies w b off O m := fun j hj => h j (by omega)

/-- A row of n operations' room, nothing of it frozen. -/
def Room (w : World) (g n : Nat) : Prop := ∃ c, w.heap[g]? = some (.cells c 50 (0, 0)) ∧ c.size = n * 4

theorem Room.cell {w : World} {g n : Nat} (h : Room w g n) (i : Nat) (hi : i < n * 4) : (∃ v, w.cell? ⟨g, i, none⟩ = some v) ∧ w.frozen? ⟨g, i, none⟩ = false := by
  obtain ⟨c, hc, hs⟩ := h
  have hl : i < c.size := by omega
  exact ⟨⟨c[i], by simp [World.cell?, hc, hl]⟩, by simp [World.frozen?, hc]⟩
theorem Room.set {w : World} {g n : Nat} (h : Room w g n) (i : Nat) (v : Value) : Room (w.setCell ⟨g, i, none⟩ v) g n := by
  obtain ⟨c, hc, hs⟩ := h
  exact ⟨c.setIfInBounds i v, by simp [World.setCell, Array.getElem?_modify, hc], by simpa using hs⟩
/-- One operation more laid. -/
theorem Lies.step {w : World} {g k n : Nat} {O : List Op4} {o : Op4} (h : Lies w g 0 O k) (hr : Room w g n) (hk : k < n) (ho : Hid (o = at4 O k)) :
    Lies ((((w.setCell ⟨g, k * 4, none⟩ (.int .i64 o.kind)).setCell ⟨g, k * 4 + 1, none⟩ (.int .i64 o.txn)).setCell ⟨g, k * 4 + 2, none⟩ (.string o.var)).setCell ⟨g, k * 4 + 3, none⟩ (.int .i64 o.ver)) g 0 O (k + 1) := by
  have same : ∀ (W : World) (hW : Room W g n) (i : Nat) (v : Value), i < n * 4 → (W.setCell ⟨g, i, none⟩ v).cell? ⟨g, i, none⟩ = some v := fun W hW i v hi => by
    obtain ⟨⟨u, hu⟩, _⟩ := hW.cell i hi
    exact World.cell?_setCell_same _ _ _ hu
  have oth : ∀ (W : World) (i i' : Nat) (v : Value), i ≠ i' → (W.setCell ⟨g, i, none⟩ v).cell? ⟨g, i', none⟩ = W.cell? ⟨g, i', none⟩ := fun W i i' v hne => World.cell?_setCell_other _ _ _ _ (by simp)
  intro j hj
  by_cases e : j < k
  · obtain ⟨h1, h2, h3, h4⟩ := h j e
    refine ⟨?_, ?_, ?_, ?_⟩
    · rw [oth _ _ _ _ (by omega), oth _ _ _ _ (by omega), oth _ _ _ _ (by omega), oth _ _ _ _ (by omega)]; exact h1
    · rw [oth _ _ _ _ (by omega), oth _ _ _ _ (by omega), oth _ _ _ _ (by omega), oth _ _ _ _ (by omega)]; exact h2
    · rw [oth _ _ _ _ (by omega), oth _ _ _ _ (by omega), oth _ _ _ _ (by omega), oth _ _ _ _ (by omega)]; exact h3
    · rw [oth _ _ _ _ (by omega), oth _ _ _ _ (by omega), oth _ _ _ _ (by omega), oth _ _ _ _ (by omega)]; exact h4
  · obtain rfl : j = k := by omega
    rw [← ho.out]
    have e0 : 0 + j * 4 = j * 4 := by omega
    rw [e0]
    refine ⟨?_, ?_, ?_, ?_⟩
    · rw [oth _ _ _ _ (by omega), oth _ _ _ _ (by omega), oth _ _ _ _ (by omega)]; exact same _ hr _ _ (by omega)
    · rw [oth _ _ _ _ (by omega), oth _ _ _ _ (by omega)]; exact same _ (hr.set _ _) _ _ (by omega)
    · rw [oth _ _ _ _ (by omega)]; exact same _ ((hr.set _ _).set _ _) _ _ (by omega)
    · exact same _ (((hr.set _ _).set _ _).set _ _) _ _ (by omega)

set_option maxRecDepth 100000 in
set_option maxHeartbeats 4000000 in
theorem toOps_some (b off n cap : Nat) (O : List Op4) (w : World) (hl : Lies w b off O n) (hb : b < w.heap.size) (hn : n ≤ 2048) :
    Calls Try.prog 10 #[.slice (some ⟨b, off, none⟩) n cap] w fun e w' => e = .returned (.slice (some ⟨w.heap.size, 0, none⟩) n n) ∧ Lies w' w.heap.size 0 O n ∧ Below w.heap.size w w' ∧ w.heap.size < w'.heap.size := by
  have HL := hide2 hl
  clear hl
  have hne := fun w => Lib.run_eql_slice_nil (P := Try.prog) w 26 30 (some ⟨b, off, none⟩) n cap 0 0 Try.underlying26
  obtain ⟨i0, hi, hz0, hz1, hz2⟩ := info_parts info50
  go_enter Try.func10, Try.ntmps10
  go_wp2_with (at_make; refine wpList_make_full _ rfl _ _ 36 rfl w.heap.size 50 i0 (.agg #[.int .i64 0, .int .i64 0, .string ByteArray.empty, .int .i64 0]) 4 Try.underlying36 hi hz0 hz1 _ _ _ _ n rfl rfl rfl rfl (by rw [hz2]; omega) (by unfold maxLen; omega) (Nat.le_refl _) ?_; intro w1 hown hgr)
  have hroom : Room w1 w.heap.size n := by
    rcases hown.2 with ⟨h2, _⟩ | ⟨g, cp, cur, hv, _, hh, _, _, hs, _⟩
    · cases h2
    · cases hv
      exact ⟨cur, hh, hs⟩
  have hB1 := (Below.refl w.heap.size w).grown hgr (Nat.le_refl _) (fun k e => by cases e)
  have HR := hide2 hroom
  have HB := hide2 hB1
  clear hown hgr hroom hB1
  go_loopw [4] (fun v wr => ∃ k : Nat, k ≤ n ∧ v = .int .i64 k ∧ Room wr w.heap.size n ∧ Lies wr w.heap.size 0 O k ∧ Below w.heap.size w wr) (fun v _ => n - (intOf v).toNat)
  case atStart => exact ⟨0, Nat.zero_le _, rfl, HR.out, fun j hj => by omega, HB.out⟩
  case round =>
    clear HR HB
    obtain ⟨k, hk, rfl, hr, hls, hbel⟩ := hrel
    by_cases hlt : k < n
    · obtain ⟨o, ho⟩ : ∃ o, o = at4 O k := ⟨_, rfl⟩
      obtain ⟨c1, c2, c3, c4⟩ := HL.out k hlt
      have d1 := (hbel.cell (p := ⟨b, off + k * 4, none⟩) hb).trans c1
      have d2 := (hbel.cell (p := ⟨b, off + k * 4 + 1, none⟩) hb).trans c2
      have d3 := (hbel.cell (p := ⟨b, off + k * 4 + 2, none⟩) hb).trans c3
      have d4 := (hbel.cell (p := ⟨b, off + k * 4 + 3, none⟩) hb).trans c4
      rw [← ho] at d1 d2 d3 d4
      clear c1 c2 c3 c4
      have HO := hide2 ho
      have i1 : (k : Int) < (n : Int) := by omega
      obtain ⟨⟨x0, y0⟩, f0⟩ := hr.cell (k * 4) (by omega)
      obtain ⟨⟨x1, y1⟩, f1⟩ := hr.cell (k * 4 + 1) (by omega)
      obtain ⟨⟨x2, y2⟩, f2⟩ := hr.cell (k * 4 + 2) (by omega)
      obtain ⟨⟨x3, y3⟩, f3⟩ := hr.cell (k * 4 + 3) (by omega)
      have HR := hide2 ((((hr.set (k * 4) (.int .i64 o.kind)).set (k * 4 + 1) (.int .i64 o.txn)).set (k * 4 + 2) (.string o.var)).set (k * 4 + 3) (.int .i64 o.ver))
      have HLS := hide2 (hls.step hr hlt HO)
      have HB := hide2 ((((hbel.setCell (p := ⟨w.heap.size, k * 4, none⟩) (Nat.le_refl _) (.int .i64 o.kind)).setCell (p := ⟨w.heap.size, k * 4 + 1, none⟩) (Nat.le_refl _) (.int .i64 o.txn)).setCell (p := ⟨w.heap.size, k * 4 + 2, none⟩) (Nat.le_refl _) (.string o.var)).setCell (p := ⟨w.heap.size, k * 4 + 3, none⟩) (Nat.le_refl _) (.int .i64 o.ver))
      clear ho hr hls hbel
      go_wp2
      go_region
      go_wp2
      go_roundw
      case rel => exact ⟨k + 1, by omega, by go_num, HR.out, HLS.out, HB.out.drew⟩
      case measure => simp [intOf]; omega
    · go_wp2
      go_ret
      obtain rfl : k = n := by omega
      exact ⟨rfl, hls, hbel, by obtain ⟨c, hc, _⟩ := hr; exact (Array.getElem?_eq_some_iff.1 hc).1⟩

theorem toOps_nil (w : World) :
    Calls Try.prog 10 #[.slice none 0 0] w fun e w' => e = .returned (.slice none 0 0) ∧ w = w' := by
  have hne := fun w => Lib.run_eql_slice_nil (P := Try.prog) w 26 30 none 0 0 0 0 Try.underlying26
  go_enter Try.func10, Try.ntmps10
  go_wp2
  go_ret
  exact ⟨rfl, rfl⟩

theorem newOps (a : Option Addr) (n cap : Nat) (w : World) :
    Calls Try.prog 9 #[.slice a n cap] w fun e w' => e = .returned (.pointer (some ⟨w.heap.size, 0, none⟩)) ∧ w'.cell? ⟨w.heap.size, 0, none⟩ = some (.slice a n cap) ∧ Below w.heap.size w w' ∧ w.heap.size < w'.heap.size := by
  go_enter Try.func9, Try.ntmps9
  go_wp2
  go_ret
  exact ⟨rfl, by simp, (Below.refl _ _).alloc (Nat.le_refl _) _, by simp⟩

end Go.Proofs.Qxb6612671a
