import Derived.Test.Qxb6612640aWalksA
import Derived.Laws.BitsAllLaws
namespace Go.Proofs.Qxb6612640a
open Go.RowKit

/-- |d|. -/
def absI (d : Int) : Int := if d < 0 then -d else d

theorem not64 (b : Nat) (hb : b < 18446744073709551616) : (18446744073709551615 : Nat) ^^^ b = 18446744073709551615 - b := by
  have h := congrArg BitVec.toNat (BitVec.allOnes_xor (x := BitVec.ofNat 64 b))
  rw [BitVec.toNat_xor, BitVec.toNat_not, BitVec.toNat_allOnes, BitVec.toNat_ofNat] at h
  have e : b % 2 ^ 64 = b := Nat.mod_eq_of_lt hb
  rw [e] at h
  exact h

theorem mag_neg (d : Int) (hd : d < 0) (h0 : -9223372036854775808 ≤ d) : IntKind.u64.wrap (bits BinOp.xor IntKind.u64 IntKind.u64.max (IntKind.u64.wrap d) + 1) = absI d := by
  have e1 : IntKind.u64.max = ((18446744073709551615 : Nat) : Int) := by rfl
  have e2 : IntKind.u64.wrap d = (((d + 18446744073709551616).toNat : Nat) : Int) := by
    rw [IntKind.wrap_u64]; omega
  rw [e1, e2, u64_xor_nat _ _ (by omega) (by omega), not64 _ (by omega), IntKind.wrap_u64]
  unfold absI
  rw [if_pos hd]
  omega

theorem magnitude_any (d : Int) (w : World) (h0 : -9223372036854775808 ≤ d) (h1 : d ≤ 9223372036854775807) :
    Calls Try.prog 17 #[.int .i64 d] w fun e w' => e = .returned (.int .u64 (absI d)) ∧ w = w' := by
  by_cases hd : d < 0
  · have key := mag_neg d hd h0
    have KEY := hide key
    clear key
    go_enter Try.func17, Try.ntmps17
    go_wp2
    go_ret
    exact ⟨ret_int KEY.out, rfl⟩
  · go_enter Try.func17, Try.ntmps17
    go_wp2
    go_ret
    exact ⟨ret_int (by unfold absI; rw [if_neg (by omega)]), rfl⟩

theorem setUint_zero (a : Option Addr) (n cap : Nat) (w : World) :
    Calls Try.prog 35 #[.slice a n cap, .int .u64 0] w fun e w' => e = .returned (.slice a 0 cap) ∧ w = w' := by
  go_enter Try.func35, Try.ntmps35
  go_wp2_with (go_at_call 41; refine (setWord_zero _ _ _ _).mono ?_; rintro e w' ⟨rfl, rfl⟩)
  go_ret
  exact ⟨rfl, rfl⟩

theorem setUint_room (g n cap : Nat) (x y : Int) (w : World) (hc : 1 ≤ cap) (hx : (x == 0) = false) (c0 : w.cell? ⟨g, 0, none⟩ = some (.int .u64 y)) (f0 : w.frozen? ⟨g, 0, none⟩ = false) :
    Calls Try.prog 35 #[.slice (some ⟨g, 0, none⟩) n cap, .int .u64 x] w fun e w' => e = .returned (.slice (some ⟨g, 0, none⟩) 1 cap) ∧ w' = w.setCell ⟨g, 0, none⟩ (.int .u64 x) := by
  go_enter Try.func35, Try.ntmps35
  go_wp2_with (go_at_call 41; refine (setWord_room g n cap x y _ hc hx c0 f0).mono ?_; rintro e w' ⟨rfl, rfl⟩)
  go_ret
  exact ⟨rfl, rfl⟩

theorem setUint_grow (a : Option Addr) (x : Int) (w : World) (hx : (x == 0) = false) :
    Calls Try.prog 35 #[.slice a 0 0, .int .u64 x] w fun e w' => e = .returned (.slice (some ⟨w.heap.size, 0, none⟩) 1 1) ∧ w' = w.alloc (.cells #[.int .u64 x] 51) := by
  go_enter Try.func35, Try.ntmps35
  go_wp2_with (go_at_call 41; refine (setWord_grow a x _ hx).mono ?_; rintro e w' ⟨rfl, rfl⟩)
  go_ret
  exact ⟨rfl, rfl⟩

theorem setInt_zero (b o : Nat) (ng : Bool) (a : Option Addr) (n cap : Nat) (w : World)
    (c0 : w.cell? ⟨b, o, none⟩ = some (.bool ng)) (c1 : w.cell? ⟨b, o + 1, none⟩ = some (.slice a n cap)) (f0 : w.frozen? ⟨b, o, none⟩ = false) (f1 : w.frozen? ⟨b, o + 1, none⟩ = false) :
    Calls Try.prog 16 #[.pointer (some ⟨b, o, none⟩), .int .i64 0] w fun e w' => e = .returned (.pointer (some ⟨b, o, none⟩)) ∧
      w' = (w.setCell ⟨b, o + 1, none⟩ (.slice a 0 cap)).setCell ⟨b, o, none⟩ (.bool false) := by
  go_enter Try.func16, Try.ntmps16
  go_wp2_with (go_at_call 35; refine (setUint_zero _ _ _ _).mono ?_; rintro e w' ⟨rfl, rfl⟩)
  go_ret
  exact ⟨rfl, rfl⟩

theorem neg_wrap (d : Int) (hd : d < 0) (h0 : -9223372036854775808 ≤ d) : IntKind.u64.wrap (wrap64 (-d)) = absI d := by
  rw [IntKind.wrap_u64]
  unfold wrap64 absI
  rw [if_pos hd]
  omega
theorem absI_ne (d : Int) (hd : d ≠ 0) : (absI d == 0) = false := by
  unfold absI
  simp
  split <;> omega

set_option maxHeartbeats 1000000 in
theorem setInt_room (b o g n cap : Nat) (ng : Bool) (y d : Int) (w : World) (h0 : -9223372036854775808 ≤ d) (h1 : d ≤ 9223372036854775807) (hd0 : d ≠ 0) (hc : 1 ≤ cap) (hgb : g ≠ b)
    (c0 : w.cell? ⟨b, o, none⟩ = some (.bool ng)) (c1 : w.cell? ⟨b, o + 1, none⟩ = some (.slice (some ⟨g, 0, none⟩) n cap)) (f0 : w.frozen? ⟨b, o, none⟩ = false) (f1 : w.frozen? ⟨b, o + 1, none⟩ = false)
    (cg : w.cell? ⟨g, 0, none⟩ = some (.int .u64 y)) (fg : w.frozen? ⟨g, 0, none⟩ = false) :
    Calls Try.prog 16 #[.pointer (some ⟨b, o, none⟩), .int .i64 d] w fun e w' => e = .returned (.pointer (some ⟨b, o, none⟩)) ∧
      w' = ((w.setCell ⟨g, 0, none⟩ (.int .u64 (absI d))).setCell ⟨b, o + 1, none⟩ (.slice (some ⟨g, 0, none⟩) 1 cap)).setCell ⟨b, o, none⟩ (.bool (decide (d < 0))) := by
  have KN := hide (absI_ne d hd0)
  by_cases hd : d < 0
  · have KEY := hide (neg_wrap d hd h0)
    go_enter Try.func16, Try.ntmps16
    go_wp2_with fail
    refine (setUint_room g n cap _ y _ hc (by rw [KEY.out]; exact KN.out) cg fg).mono ?_
    rintro e w' ⟨rfl, rfl⟩
    go_wp2
    go_ret
    refine ⟨rfl, ?_⟩
    rw [KEY.out, decide_eq_true hd]
  · have KEY : Hid (absI d = d) := by unfold absI; exact if_neg hd
    go_enter Try.func16, Try.ntmps16
    go_wp2_with fail
    refine (setUint_room g n cap _ y _ hc (by rw [← KEY.out]; exact KN.out) cg fg).mono ?_
    rintro e w' ⟨rfl, rfl⟩
    go_wp2
    go_ret
    refine ⟨rfl, ?_⟩
    rw [KEY.out, decide_eq_false (by omega)]

set_option maxHeartbeats 1000000 in
theorem setInt_grow (b o : Nat) (a : Option Addr) (ng : Bool) (d : Int) (w : World) (h0 : -9223372036854775808 ≤ d) (h1 : d ≤ 9223372036854775807) (hd0 : d ≠ 0) (hb : b < w.heap.size)
    (c0 : w.cell? ⟨b, o, none⟩ = some (.bool ng)) (c1 : w.cell? ⟨b, o + 1, none⟩ = some (.slice a 0 0)) (f0 : w.frozen? ⟨b, o, none⟩ = false) (f1 : w.frozen? ⟨b, o + 1, none⟩ = false) :
    Calls Try.prog 16 #[.pointer (some ⟨b, o, none⟩), .int .i64 d] w fun e w' => e = .returned (.pointer (some ⟨b, o, none⟩)) ∧
      w' = ((w.setCell ⟨b, o + 1, none⟩ (.slice (some ⟨w.heap.size, 0, none⟩) 1 1)).setCell ⟨b, o, none⟩ (.bool (decide (d < 0)))).alloc (.cells #[.int .u64 (absI d)] 51) := by
  have KN := hide (absI_ne d hd0)
  have hold : ∀ (x : Obj) (j : Nat), (w.alloc x).cell? ⟨b, j, none⟩ = w.cell? ⟨b, j, none⟩ := fun x j => ((Below.refl w.heap.size w).alloc (Nat.le_refl _) x).cell (p := ⟨b, j, none⟩) hb
  have foz : ∀ (x : Obj) (j : Nat), (w.alloc x).frozen? ⟨b, j, none⟩ = w.frozen? ⟨b, j, none⟩ := fun x j => ((Below.refl w.heap.size w).alloc (Nat.le_refl _) x).frozen (p := ⟨b, j, none⟩) hb
  by_cases hd : d < 0
  · have KEY := hide (neg_wrap d hd h0)
    go_enter Try.func16, Try.ntmps16
    go_wp2_with fail
    refine (setUint_grow a _ _ (by rw [KEY.out]; exact KN.out)).mono ?_
    rintro e w' ⟨rfl, rfl⟩
    go_wp2
    go_ret
    refine ⟨rfl, ?_⟩
    rw [KEY.out, decide_eq_true hd]
  · have KEY : Hid (absI d = d) := by unfold absI; exact if_neg hd
    go_enter Try.func16, Try.ntmps16
    go_wp2_with fail
    refine (setUint_grow a _ _ (by rw [← KEY.out]; exact KN.out)).mono ?_
    rintro e w' ⟨rfl, rfl⟩
    go_wp2
    go_ret
    refine ⟨rfl, ?_⟩
    rw [KEY.out, decide_eq_false (by omega)]

end Go.Proofs.Qxb6612640a
