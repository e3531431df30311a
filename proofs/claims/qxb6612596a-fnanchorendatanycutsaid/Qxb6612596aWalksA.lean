import Derived.Test.Qxb6612596aRows
import Derived.WalkKit
import Derived.WalkSpells
namespace Go.Proofs.Qxb6612596a
open Go.RowKit

/-- A letter, a digit, a dash, an underscore. -/
def ancB (c : Int) : Bool := decide (c = 45 ∨ c = 95 ∨ (48 ≤ c ∧ c ≤ 57) ∨ (97 ≤ c ∧ c ≤ 122) ∨ (65 ≤ c ∧ c ≤ 90))
/-- A letter, a digit, a dash. -/
def wordB (c : Int) : Bool := decide (c = 45 ∨ (48 ≤ c ∧ c ≤ 57) ∨ (97 ≤ c ∧ c ≤ 122) ∨ (65 ≤ c ∧ c ≤ 90))

theorem ret_bool {a b : Bool} (h : a = b) : Ending.returned (.bool a) = .returned (.bool b) := by rw [h]
theorem ret_int {k : IntKind} {a b : Int} (h : a = b) : Ending.returned (.int k a) = .returned (.int k b) := by rw [h]

set_option maxHeartbeats 1000000 in
theorem ancByte (c : Int) (w : World) (h0 : 0 ≤ c) (h1 : c ≤ 255) :
    Calls Try.prog 7 #[.int .u8 c] w fun e w' => e = .returned (.bool (ancB c)) ∧ w' = w := by
  go_enter Try.func7, Try.ntmps7
  go_wp2
  all_goals
    go_ret
    refine ⟨ret_bool ?_, rfl⟩
    rw [Bool.eq_iff_iff]
    simp [ancB]
    try omega

set_option maxHeartbeats 1000000 in
theorem wordChar (c : Int) (w : World) (h0 : 0 ≤ c) (h1 : c ≤ 255) :
    Calls Try.prog 12 #[.int .u8 c] w fun e w' => e = .returned (.bool (wordB c)) ∧ w' = w := by
  go_enter Try.func12, Try.ntmps12
  go_wp2
  all_goals
    go_ret
    refine ⟨ret_bool ?_, rfl⟩
    rw [Bool.eq_iff_iff]
    simp [wordB]
    try omega

theorem anc_of_word (c : Int) : ancB c = (wordB c || c == 95) := by
  rw [Bool.eq_iff_iff]; simp [ancB, wordB]; omega

/-- WHERE THE RUN OF ANCHOR BYTES FROM i STOPS, no further than limit. -/
def Ends (z : List Int) (i l e : Nat) : Prop := i ≤ e ∧ e ≤ l ∧ (∀ j, i ≤ j → j < e → ancB (z.getD j 0) = true) ∧ (e < l → ancB (z.getD e 0) = false)

theorem Ends.one {z : List Int} {i l e e' : Nat} (h : Ends z i l e) (k : Ends z i l e') : e = e' := by
  obtain ⟨a1, a2, a3, a4⟩ := h
  obtain ⟨b1, b2, b3, b4⟩ := k
  rcases Nat.lt_trichotomy e e' with h | h | h
  · have := b3 e a1 h; rw [a4 (by omega)] at this; cases this
  · exact h
  · have := a3 e' b1 h; rw [b4 (by omega)] at this; cases this

theorem Ends.cut_short {z : List Int} {i m l a : Nat} (h : Ends z i m a) (hm : m ≤ l) (ha : a < m) : Ends z i l a :=
  ⟨h.1, by have := h.2.1; omega, h.2.2.1, fun _ => h.2.2.2 ha⟩

theorem Ends.cut_on {z : List Int} {i m l b : Nat} (h : Ends z i m m) (k : Ends z m l b) : Ends z i l b :=
  ⟨by have := h.1; have := k.1; omega, k.2.1, fun j h1 h2 => by
    by_cases hj : j < m
    · exact h.2.2.1 j h1 hj
    · exact k.2.2.1 j (by omega) h2, k.2.2.2⟩

end Go.Proofs.Qxb6612596a
