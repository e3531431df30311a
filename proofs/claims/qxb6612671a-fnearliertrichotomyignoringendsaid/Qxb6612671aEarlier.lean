import Derived.Test.Qxb6612671aRows
import Derived.WalkKit
namespace Go.Proofs.Qxb6612671a
open Go.RowKit

/-- 'earlier', plainly. -/
def earB (p q p' q' : Int) : Bool := decide (p < p' ∨ (p = p' ∧ q < q'))
theorem ret_bool {a b : Bool} (h : a = b) : Ending.returned (.bool a) = .returned (.bool b) := by rw [h]
theorem hide {p : Prop} (h : p) : Hid p := h

set_option maxHeartbeats 1000000 in
theorem earlier_any (p q e p' q' e' : Int) (w : World) :
    Calls Try.prog 13 #[.agg #[.int .i64 p, .int .i64 q, .int .i64 e], .agg #[.int .i64 p', .int .i64 q', .int .i64 e']] w fun r w' => r = .returned (.bool (earB p q p' q')) ∧ Below w.heap.size w w' := by
  rcases (show p < p' ∨ (p' < p) ∨ p = p' from by omega) with h | h | h
  · have HR : Hid (true = earB p q p' q') := by unfold earB; simp [h, Hid]
    have hd : decide (p < p') = true := by simpa using h
    go_enter Try.func13, Try.ntmps13
    go_wp2
    go_ret
    exact ⟨ret_bool HR.out, ((Below.refl _ _).alloc (Nat.le_refl _) _).alloc (by simp) _⟩
  · have HR : Hid (false = earB p q p' q') := by unfold earB; simp [Hid]; omega
    have hd : decide (p < p') = false := by simp; omega
    have hq : (p == p') = false := by simp; omega
    go_enter Try.func13, Try.ntmps13
    go_wp2
    go_ret
    exact ⟨ret_bool HR.out, ((Below.refl _ _).alloc (Nat.le_refl _) _).alloc (by simp) _⟩
  · subst h
    by_cases h2 : q < q'
    · have HR : Hid (true = earB p q p q') := by unfold earB; simp [h2, Hid]
      have hd : decide (q < q') = true := by simpa using h2
      go_enter Try.func13, Try.ntmps13
      go_wp2
      go_ret
      exact ⟨ret_bool HR.out, ((Below.refl _ _).alloc (Nat.le_refl _) _).alloc (by simp) _⟩
    · have HR : Hid (false = earB p q p q') := by unfold earB; simp [Hid]; omega
      have hd : decide (q < q') = false := by simp; omega
      go_enter Try.func13, Try.ntmps13
      go_wp2
      go_ret
      exact ⟨ret_bool HR.out, ((Below.refl _ _).alloc (Nat.le_refl _) _).alloc (by simp) _⟩

set_option maxHeartbeats 1000000 in
theorem zzEarlier (p q e p' q' e' : Int) (w : World) :
    Calls Try.prog 6 #[.agg #[.int .i64 p, .int .i64 q, .int .i64 e], .agg #[.int .i64 p', .int .i64 q', .int .i64 e']] w fun r w' => r = .returned (.bool (earB p q p' q')) ∧ Below w.heap.size w w' := by
  go_enter Try.func6, Try.ntmps6
  go_wp2_with fail
  refine (earlier_any _ _ _ _ _ _ _).mono ?_
  rintro r w1 ⟨rfl, hb⟩
  have HB := hide (((((Below.refl _ _).alloc (Nat.le_refl _) _).alloc (by simp) _).trans (hb.mono (by simp; omega)) : Below w.heap.size w w1))
  clear hb
  go_wp2
  go_ret
  exact ⟨rfl, HB.out⟩

theorem bcell {W w1 : World} (hb : Below W.heap.size W w1) : (∀ b o, b < W.heap.size → w1.cell? ⟨b, o, none⟩ = W.cell? ⟨b, o, none⟩) ∧ (∀ b o, b < W.heap.size → w1.frozen? ⟨b, o, none⟩ = W.frozen? ⟨b, o, none⟩) :=
  ⟨fun b o h => hb.cell (p := ⟨b, o, none⟩) h, fun b o h => hb.frozen (p := ⟨b, o, none⟩) h⟩

set_option maxHeartbeats 4000000 in
/-- THE LAW, the five ways of two pairs decided ahead. -/
theorem tri (p q e p' q' e' : Int) (w : World) (ab ba s1 s2 : Bool) (hab : earB p q p' q' = ab) (hba : earB p' q' p q = ba) (hs1 : (p == p') = s1) (hs2 : (q == q') = s2)
    (hone : (ab = true ∧ ba = false ∧ (s1 && s2) = false) ∨ (ab = false ∧ ba = true ∧ (s1 && s2) = false) ∨ (ab = false ∧ ba = false ∧ s1 = true ∧ s2 = true)) :
    Calls Try.prog 3 #[.int .i64 p, .int .i64 q, .int .i64 e, .int .i64 p', .int .i64 q', .int .i64 e'] w fun r w' => r = .returned (.bool true) ∧ Below w.heap.size w w' := by
  have HAB := hide hab
  have HBA := hide hba
  clear hab hba
  cases ab <;> cases ba <;> cases s1 <;> cases s2 <;> simp at hone
  all_goals
    go_enter Try.func3, Try.ntmps3
    go_wp2_with fail
    refine (zzEarlier _ _ _ _ _ _ _).mono ?_
    rintro r w1 ⟨rfl, hb1⟩
    rw [HAB.out]
    obtain ⟨hc1, hf1⟩ := bcell hb1
    have hz1 : w.heap.size + 1 < w1.heap.size := by have := hb1.size; simp at this; omega
    have HB1 := hide (((((Below.refl _ _).alloc (Nat.le_refl _) _).alloc (by simp) _).trans (hb1.mono (by simp; omega)) : Below w.heap.size w w1))
    clear hb1
    go_wp2_with fail
    refine (zzEarlier _ _ _ _ _ _ _).mono ?_
    rintro r w2 ⟨rfl, hb2⟩
    rw [HBA.out]
    have HB2 := hide (HB1.out.trans (hb2.mono (by omega)))
    have hz2 : w.heap.size < w2.heap.size := by have := hb2.size; omega
    clear hb2 hc1 hf1 HB1
    go_wp2_with fail
    refine (zzEarlier _ _ _ _ _ _ _).mono ?_
    rintro r w3 ⟨rfl, hb3⟩
    rw [HAB.out]
    have HB3 := hide (HB2.out.trans ((((Below.refl _ _).alloc (Nat.le_refl _) _).alloc (by simp) _ |>.mono (Nat.le_of_lt hz2)).trans (hb3.mono (by simp; omega))))
    clear hb3
    go_wp2
    go_ret
    exact ⟨rfl, HB3.out⟩

end Go.Proofs.Qxb6612671a
