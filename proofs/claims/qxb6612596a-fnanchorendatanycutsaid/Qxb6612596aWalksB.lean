import Derived.Test.Qxb6612596aWalksA
namespace Go.Proofs.Qxb6612596a
open Go.RowKit

/-- The run so far. -/
def Sofar (z : List Int) (i k : Nat) : Prop := ∀ j, i ≤ j → j < k → ancB (z.getD j 0) = true
theorem Sofar.start (z : List Int) (i : Nat) : Sofar z i i := fun j h1 h2 => by omega
theorem Sofar.step {z : List Int} {i k : Nat} (h : Sofar z i k) (c : Int) (hc : Hid (c = z.getD k 0)) (hy : ancB c = true) : Sofar z i (k + 1) := fun j h1 h2 => by
  by_cases hj : j < k
  · exact h j h1 hj
  · obtain rfl : j = k := by omega
    rw [← hc.out]; exact hy
theorem Sofar.stop {z : List Int} {i k l : Nat} (h : Sofar z i k) (c : Int) (hc : Hid (c = z.getD k 0)) (hn : ancB c = false) (h1 : i ≤ k) (h2 : k ≤ l) : Ends z i l k := ⟨h1, h2, h, fun _ => by rw [← hc.out]; exact hn⟩
theorem Sofar.full {z : List Int} {i k l : Nat} (h : Sofar z i k) (h1 : i ≤ k) (h2 : k ≤ l) (h3 : ¬ k < l) : Ends z i l k := ⟨h1, h2, h, fun hh => absurd hh h3⟩

set_option maxHeartbeats 1000000 in
theorem anchorEnd_some (pb po b len cap : Nat) (z : List Int) (i l : Nat) (w : World) (hd : w.cell? ⟨pb, po, none⟩ = some (.slice (some ⟨b, 0, none⟩) len cap))
    (hc : ∀ j, j < len → w.cell? ⟨b, j, none⟩ = some (.int .u8 (z.getD j 0))) (hz : ∀ j, 0 ≤ z.getD j 0 ∧ z.getD j 0 ≤ 255) (hil : i ≤ l) (hl : l ≤ len) (hlen : len ≤ 1048576) :
    Calls Try.prog 10 #[.pointer (some ⟨pb, po, none⟩), .int .i64 i, .int .i64 l] w fun e w' => (∃ k : Nat, e = .returned (.int .i64 k) ∧ Ends z i l k) ∧ w' = w := by
  have HC : Hid (∀ j, j < len → w.cell? ⟨b, j, none⟩ = some (.int .u8 (z.getD j 0))) := hc
  have HZ : Hid (∀ j, 0 ≤ z.getD j 0 ∧ z.getD j 0 ≤ 255) := hz
  clear hc hz
  go_enter Try.func10, Try.ntmps10
  go_wp2
  go_loop [1] (fun v => ∃ k : Nat, i ≤ k ∧ k ≤ l ∧ v = .int .i64 k ∧ Sofar z i k) (fun v => l - (intOf v).toNat)
  case atStart => exact ⟨i, Nat.le_refl _, hil, rfl, Sofar.start _ _⟩
  case round =>
    obtain ⟨k, hk1, hk2, rfl, hs⟩ := hrel
    by_cases hlt : k < l
    · obtain ⟨c, hcz⟩ : ∃ c, c = z.getD k 0 := ⟨_, rfl⟩
      have hcell := HC.out k (by omega)
      have hb := HZ.out k
      rw [← hcz] at hcell hb
      have HCZ : Hid (c = z.getD k 0) := hcz
      clear hcz
      obtain ⟨hb0, hb1⟩ := hb
      cases hw : wordB c
      · by_cases hu : c = 95
        · have ha : ancB c = true := by rw [anc_of_word, hw, hu]; rfl
          have hu' : (c == 95) = true := by simp [hu]
          have HU : Hid (c = 95) := hu
          clear hu
          go_wp2_with (go_at_call 12; refine (wordChar _ _ (by omega) (by omega)).mono ?_; rintro e w' ⟨rfl, rfl⟩)
          go_round
          case rel => exact ⟨k + 1, by omega, by omega, by go_num, hs.step c HCZ ha⟩
          case measure => simp [intOf]; omega
        · have ha : ancB c = false := by rw [anc_of_word, hw]; simp [hu]
          have hu' : (c == 95) = false := by simp [hu]
          clear hu
          go_wp2_with (go_at_call 12; refine (wordChar _ _ (by omega) (by omega)).mono ?_; rintro e w' ⟨rfl, rfl⟩)
          go_ret
          exact ⟨⟨k, rfl, hs.stop c HCZ ha hk1 hk2⟩, rfl⟩
      · have ha : ancB c = true := by rw [anc_of_word, hw]; rfl
        go_wp2_with (go_at_call 12; refine (wordChar _ _ (by omega) (by omega)).mono ?_; rintro e w' ⟨rfl, rfl⟩)
        go_round
        case rel => exact ⟨k + 1, by omega, by omega, by go_num, hs.step c HCZ ha⟩
        case measure => simp [intOf]; omega
    · go_wp2
      go_ret
      exact ⟨⟨k, rfl, hs.full hk1 hk2 hlt⟩, rfl⟩

end Go.Proofs.Qxb6612596a
