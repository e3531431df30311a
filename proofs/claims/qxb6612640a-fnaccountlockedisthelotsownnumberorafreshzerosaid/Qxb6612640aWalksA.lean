import Derived.Test.Qxb6612640aParts
namespace Go.Proofs.Qxb6612640a
open Go.RowKit

set_option maxHeartbeats 1000000 in
/-- 'z.norm()' over a row of words of its own. -/
theorem norm_any (g n : Nat) (z : List Int) (w : World) (hr : Row w g 51 z) (hn : z.length = n) (hle : n ≤ 65536) :
    Calls Try.prog 37 #[.slice (some ⟨g, 0, none⟩) n n] w fun e w' => (∃ t, Top z n t ∧ e = .returned (.slice (some ⟨g, 0, none⟩) t n)) ∧ w = w' := by
  have HR := hide hr
  have HN := hide hn
  clear hr hn
  go_enter Try.func37, Try.ntmps37
  go_wp2
  go_loop [3] (fun v => ∃ t : Nat, t ≤ n ∧ v = .int .i64 t ∧ Zeros z n t) (fun v => (intOf v).toNat)
  case atStart => exact ⟨n, Nat.le_refl _, rfl, Zeros.start _ _⟩
  case round =>
    obtain ⟨t, ht, rfl, hz⟩ := hrel
    by_cases hlt : 0 < t
    · obtain ⟨c, hcz⟩ : ∃ c, c = z.getD (t - 1) 0 := ⟨_, rfl⟩
      have hcell := HR.out.cell (t - 1) (by rw [HN.out]; omega)
      rw [← hcz] at hcell
      have HCZ := hide hcz
      clear hcz
      have h1 : (1 : Nat) ≤ t := hlt
      have ht1 : ((t : Int) - 1).toNat = t - 1 := by omega
      by_cases h0 : c = 0
      · have hq : (c == 0) = true := by simp [h0]
        have H0 := hide h0
        clear h0
        go_wp2
        go_round
        case rel => exact ⟨t - 1, by omega, by go_num, hz.step HCZ H0.out⟩
        case measure => simp [intOf]; omega
      · have hq : (c == 0) = false := by simp [h0]
        go_wp2
        go_ret
        exact ⟨⟨t, ⟨ht, fun _ => by rw [← HCZ.out]; exact h0, hz⟩, rfl⟩, rfl⟩
    · obtain rfl : t = 0 := by omega
      go_wp2
      go_ret
      exact ⟨⟨0, ⟨ht, fun h => absurd h hlt, hz⟩, rfl⟩, rfl⟩

theorem setBits_any (b o g n : Nat) (z : List Int) (v0b : Bool) (v1a : Option Addr) (v1l v1c : Nat) (w : World) (hr : Row w g 51 z) (hn : z.length = n) (hle : n ≤ 65536)
    (c0 : w.cell? ⟨b, o, none⟩ = some (.bool v0b)) (c1 : w.cell? ⟨b, o + 1, none⟩ = some (.slice v1a v1l v1c)) (f0 : w.frozen? ⟨b, o, none⟩ = false) (f1 : w.frozen? ⟨b, o + 1, none⟩ = false) :
    Calls Try.prog 23 #[.pointer (some ⟨b, o, none⟩), .slice (some ⟨g, 0, none⟩) n n] w fun e w' => e = .returned (.pointer (some ⟨b, o, none⟩)) ∧
      ∃ t, Top z n t ∧ w' = (w.setCell ⟨b, o + 1, none⟩ (.slice (some ⟨g, 0, none⟩) t n)).setCell ⟨b, o, none⟩ (.bool false) := by
  go_enter Try.func23, Try.ntmps23
  go_wp2_with (go_at_call 37; refine (norm_any g n z _ hr hn hle).mono ?_; rintro e w' ⟨⟨t, ht, rfl⟩, rfl⟩)
  go_ret
  exact ⟨rfl, t, ht, rfl⟩

theorem bits_any (b o : Nat) (a : Option Addr) (n cap : Nat) (w : World) (c1 : w.cell? ⟨b, o + 1, none⟩ = some (.slice a n cap)) :
    Calls Try.prog 26 #[.pointer (some ⟨b, o, none⟩)] w fun e w' => e = .returned (.slice a n cap) ∧ w = w' := by
  go_enter Try.func26, Try.ntmps26
  go_wp2
  go_ret
  exact ⟨rfl, rfl⟩

theorem sign_zero (b o : Nat) (a : Option Addr) (cap : Nat) (w : World) (c1 : w.cell? ⟨b, o + 1, none⟩ = some (.slice a 0 cap)) :
    Calls Try.prog 27 #[.pointer (some ⟨b, o, none⟩)] w fun e w' => e = .returned (.int .i64 0) ∧ w = w' := by
  go_enter Try.func27, Try.ntmps27
  go_wp2
  go_ret
  exact ⟨rfl, rfl⟩

theorem sign_neg (b o : Nat) (a : Option Addr) (n cap : Nat) (hn : 0 < n) (w : World) (c0 : w.cell? ⟨b, o, none⟩ = some (.bool true)) (c1 : w.cell? ⟨b, o + 1, none⟩ = some (.slice a n cap)) :
    Calls Try.prog 27 #[.pointer (some ⟨b, o, none⟩)] w fun e w' => e = .returned (.int .i64 (-1)) ∧ w = w' := by
  have hq : ((n : Int) == 0) = false := by simp; omega
  go_enter Try.func27, Try.ntmps27
  go_wp2
  go_ret
  exact ⟨rfl, rfl⟩

theorem sign_plus (b o : Nat) (a : Option Addr) (n cap : Nat) (hn : 0 < n) (w : World) (c0 : w.cell? ⟨b, o, none⟩ = some (.bool false)) (c1 : w.cell? ⟨b, o + 1, none⟩ = some (.slice a n cap)) :
    Calls Try.prog 27 #[.pointer (some ⟨b, o, none⟩)] w fun e w' => e = .returned (.int .i64 1) ∧ w = w' := by
  have hq : ((n : Int) == 0) = false := by simp; omega
  go_enter Try.func27, Try.ntmps27
  go_wp2
  go_ret
  exact ⟨rfl, rfl⟩

theorem locked_run (ab rb lb : Nat) (w : World) (c0 : w.cell? ⟨ab, 2, none⟩ = some (.pointer (some ⟨rb, 0, none⟩))) (c1 : w.cell? ⟨rb, 2, none⟩ = some (.pointer (some ⟨lb, 0, none⟩))) :
    Calls Try.prog 14 #[.pointer (some ⟨ab, 0, none⟩)] w fun e w' => e = .returned (.pointer (some ⟨lb, 1, none⟩)) ∧ w = w' := by
  go_enter Try.func14, Try.ntmps14
  go_wp2
  go_ret
  exact ⟨rfl, rfl⟩

theorem locked_not (ab rb : Nat) (w : World) (c0 : w.cell? ⟨ab, 2, none⟩ = some (.pointer (some ⟨rb, 0, none⟩))) (c1 : w.cell? ⟨rb, 2, none⟩ = some (.pointer none)) :
    Calls Try.prog 14 #[.pointer (some ⟨ab, 0, none⟩)] w fun e w' => e = .returned (.pointer (some ⟨w.heap.size, 0, none⟩)) ∧ w' = w.alloc (.cells #[.bool false, .slice none 0 0] 54) := by
  go_enter Try.func14, Try.ntmps14
  go_wp2
  go_ret
  exact ⟨rfl, rfl⟩

theorem setWord_zero (a : Option Addr) (n cap : Nat) (w : World) :
    Calls Try.prog 41 #[.slice a n cap, .int .u64 0] w fun e w' => e = .returned (.slice a 0 cap) ∧ w = w' := by
  go_enter Try.func41, Try.ntmps41
  go_wp2
  go_ret
  exact ⟨rfl, rfl⟩

theorem setWord_room (g n cap : Nat) (x y : Int) (w : World) (hc : 1 ≤ cap) (hx : (x == 0) = false) (c0 : w.cell? ⟨g, 0, none⟩ = some (.int .u64 y)) (f0 : w.frozen? ⟨g, 0, none⟩ = false) :
    Calls Try.prog 41 #[.slice (some ⟨g, 0, none⟩) n cap, .int .u64 x] w fun e w' => e = .returned (.slice (some ⟨g, 0, none⟩) 1 cap) ∧ w' = w.setCell ⟨g, 0, none⟩ (.int .u64 x) := by
  go_enter Try.func41, Try.ntmps41
  go_wp2
  go_ret
  exact ⟨rfl, rfl⟩

theorem setWord_grow (a : Option Addr) (x : Int) (w : World) (hx : (x == 0) = false) :
    Calls Try.prog 41 #[.slice a 0 0, .int .u64 x] w fun e w' => e = .returned (.slice (some ⟨w.heap.size, 0, none⟩) 1 1) ∧ w' = w.alloc (.cells #[.int .u64 x] 51) := by
  have hmk : ∀ w, (Instr.makeSlice 52 (.int .i64 1) (.int .i64 1)).run Try.prog w = .ok (.slice (some ⟨w.heap.size, 0, none⟩) 1 1) (w.alloc (.cells #[.int .u64 0] 51)) := fun _ => by kernel_rfl
  go_enter Try.func41, Try.ntmps41
  go_wp2
  go_ret
  exact ⟨rfl, rfl⟩

end Go.Proofs.Qxb6612640a
