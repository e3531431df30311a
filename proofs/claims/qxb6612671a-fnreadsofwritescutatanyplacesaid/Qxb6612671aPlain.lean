import Derived.Test.Qxb6612671aRows
import Derived.WalkKit
import Derived.WalkSpells
import Derived.Maps.OwnSet
import Derived.DeepKeys4
import Derived.ProofKit
namespace Go.Proofs.Qxb6612671a
open Go.RowKit
open Go.Maps (Keyed)

/-- ONE OPERATION OF A SCHEDULE, as plain data. -/
structure Op4 where
  kind : Int
  txn : Int
  var : ByteArray
  ver : Int
def op0 : Op4 := { kind := 0, txn := 0, var := ByteArray.empty, ver := 0 }
def at4 (O : List Op4) (j : Nat) : Op4 := O.getD j op0
def takes (T : List Bool) (j : Nat) : Bool := T.getD j false

/-- Is operation j a taken write of version n of variable v? -/
def mtc (O : List Op4) (T : List Bool) (v : ByteArray) (n : Int) (j : Nat) : Bool := decide ((at4 O j).kind = 1 ∧ (at4 O j).var = v ∧ (at4 O j).ver = n ∧ takes T j = true)
theorem mtc_iff {O : List Op4} {T : List Bool} {v : ByteArray} {n : Int} {j : Nat} : mtc O T v n j = true ↔ ((at4 O j).kind = 1 ∧ (at4 O j).var = v ∧ (at4 O j).ver = n ∧ takes T j = true) := by unfold mtc; exact decide_eq_true_iff
/-- THE LATEST SUCH WRITE BEFORE k. -/
def lastW (O : List Op4) (T : List Bool) (v : ByteArray) (n : Int) : Nat → Option Nat
  | 0 => none
  | k + 1 => if mtc O T v n k = true then some k else lastW O T v n k
/-- WHAT ReadsOfWrites YIELDS OF THE FIRST k OPERATIONS. -/
def yielded1 (O : List Op4) (T : List Bool) (k : Nat) : List (Nat × Nat) :=
  if (at4 O k).kind = 0 then ((lastW O T (at4 O k).var (at4 O k).ver k).map fun w => (w, k)).toList else []
def outs (O : List Op4) (T : List Bool) : Nat → List (Nat × Nat)
  | 0 => []
  | k + 1 => outs O T k ++ yielded1 O T k

theorem lastW_some {O : List Op4} {T : List Bool} {v : ByteArray} {n : Int} : ∀ {k w : Nat}, lastW O T v n k = some w → w < k ∧ mtc O T v n w = true ∧ ∀ j, w < j → j < k → mtc O T v n j = false
  | 0, w, h => by cases h
  | k + 1, w, h => by
    unfold lastW at h
    split at h
    · rename_i hm
      cases h
      exact ⟨by omega, hm, fun j h1 h2 => by omega⟩
    · rename_i hm
      obtain ⟨h1, h2, h3⟩ := lastW_some h
      refine ⟨by omega, h2, fun j hj1 hj2 => ?_⟩
      by_cases e : j = k
      · subst e; simpa using hm
      · exact h3 j hj1 (by omega)
theorem lastW_none {O : List Op4} {T : List Bool} {v : ByteArray} {n : Int} : ∀ {k : Nat}, lastW O T v n k = none → ∀ j, j < k → mtc O T v n j = false
  | 0, _, j, hj => by omega
  | k + 1, h, j, hj => by
    unfold lastW at h
    split at h
    · cases h
    · rename_i hm
      by_cases e : j = k
      · subst e; simpa using hm
      · exact lastW_none h j (by omega)
theorem lastW_of {O : List Op4} {T : List Bool} {v : ByteArray} {n : Int} {k w : Nat} (h1 : w < k) (h2 : mtc O T v n w = true) (h3 : ∀ j, w < j → j < k → mtc O T v n j = false) : lastW O T v n k = some w := by
  cases h : lastW O T v n k with
  | none => have := lastW_none h w h1; rw [h2] at this; cases this
  | some u =>
    obtain ⟨g1, g2, g3⟩ := lastW_some h
    rcases Nat.lt_trichotomy u w with hh | hh | hh
    · have := g3 w hh h1; rw [h2] at this; cases this
    · rw [hh]
    · have := h3 u hh g1; rw [g2] at this; cases this
theorem lastW_of_none {O : List Op4} {T : List Bool} {v : ByteArray} {n : Int} {k : Nat} (h : ∀ j, j < k → mtc O T v n j = false) : lastW O T v n k = none := by
  cases hh : lastW O T v n k with
  | none => rfl
  | some u => obtain ⟨g1, g2, _⟩ := lastW_some hh; rw [h u g1] at g2; cases g2

theorem yielded1_read {O : List Op4} {T : List Bool} {k w : Nat} (hk : (at4 O k).kind = 0) (h : lastW O T (at4 O k).var (at4 O k).ver k = some w) : yielded1 O T k = [(w, k)] := by
  unfold yielded1; rw [if_pos hk, h]; rfl
theorem yielded1_unseen {O : List Op4} {T : List Bool} {k : Nat} (h : lastW O T (at4 O k).var (at4 O k).ver k = none) : yielded1 O T k = [] := by
  unfold yielded1; rw [h]; split <;> rfl
theorem yielded1_other {O : List Op4} {T : List Bool} {k : Nat} (hk : (at4 O k).kind ≠ 0) : yielded1 O T k = [] := by
  unfold yielded1; rw [if_neg hk]
theorem yielded1_length (O : List Op4) (T : List Bool) (k : Nat) : (yielded1 O T k).length ≤ 1 := by
  unfold yielded1
  split
  · cases lastW O T (at4 O k).var (at4 O k).ver k <;> simp
  · simp
theorem outs_length (O : List Op4) (T : List Bool) : ∀ k, (outs O T k).length ≤ k
  | 0 => Nat.le_refl _
  | k + 1 => by
    have h1 := outs_length O T k
    have h2 := yielded1_length O T k
    show (outs O T k ++ yielded1 O T k).length ≤ k + 1
    rw [List.length_append]; omega

/-- The operations lie from ⟨b, off⟩ on, four cells each (below B). -/
def Lies (w : World) (b off : Nat) (O : List Op4) (n : Nat) : Prop := ∀ j, j < n →
  w.cell? ⟨b, off + j * 4, none⟩ = some (.int .i64 (at4 O j).kind) ∧ w.cell? ⟨b, off + j * 4 + 1, none⟩ = some (.int .i64 (at4 O j).txn) ∧
  w.cell? ⟨b, off + j * 4 + 2, none⟩ = some (.string (at4 O j).var) ∧ w.cell? ⟨b, off + j * 4 + 3, none⟩ = some (.int .i64 (at4 O j).ver)

/-- Each operation is well formed. -/
def Fine (O : List Op4) : Prop := ∀ j, (at4 O j).var.size ≤ maxLen ∧ (Lit.int .i64 (at4 O j).ver).wf = true

/-! ### the key -/
def klit (s : ByteArray) (n : Int) : Lit := .string (keyBytes [.string s.data.toList, .int .i64 n])
theorem laidOut : laidOutB Try.prog = true := by kernel_rfl
theorem row55 : (55 : Nat) < Try.prog.types.size := of_decide_eq_true (by kernel_rfl)
theorem wide55 : (match Try.prog.underlying 55 with | some (.array _ _) | some (.struct _) => true | _ => false) = true := by kernel_rfl
theorem law55 : Keyed Try.prog 55 := Keyed.of_law (deep_law_laid laidOut (m := 2) (by omega) row55 (by kernel_rfl) wide55)
theorem kt55 : Try.prog.keyType 55 = true := by kernel_rfl
theorem sz55 : ∃ m, Try.prog.types.size + 1 = m + 2 := ⟨Try.prog.types.size - 1, by have := row55; omega⟩
theorem cells55 : Try.prog.cellsOf 55 = 2 := by kernel_rfl
theorem cells9 : Try.prog.cellsOf 9 = 1 := by kernel_rfl
theorem cells3 : Try.prog.cellsOf 3 = 1 := by kernel_rfl
theorem lits9 (d : Nat) (s : ByteArray) (hs : s.size ≤ maxLen) : Try.prog.keyLits (d + 1) 9 [.string s] = some [.string s.data.toList] := by
  unfold Program.keyLits
  simp only [Try.underlying9]
  exact if_pos hs
theorem lits3 (d : Nat) (n : Int) (hn : (Lit.int .i64 n).wf = true) : Try.prog.keyLits (d + 1) 3 [.int .i64 n] = some [.int .i64 n] := by
  unfold Program.keyLits
  simp only [Try.underlying3]
  exact if_pos (by simp [hn])
theorem klit_key (s : ByteArray) (n : Int) (hs : s.size ≤ maxLen) (hn : (Lit.int .i64 n).wf = true) : keyOf Try.prog 55 (.agg #[.string s, .int .i64 n]) = some (klit s n) := by
  obtain ⟨m, hm⟩ := sz55
  have h1 := lits9 m s hs
  have h2 := lits3 m n hn
  unfold keyOf
  rw [hm]
  have e : Try.prog.keyLits (m + 1 + 1) 55 [.string s, .int .i64 n] = some [.string s.data.toList, .int .i64 n] := by
    unfold Program.keyLits
    simp only [Try.underlying55]
    rw [if_pos ⟨by rw [cells55]; rfl, by simp⟩]
    simp only [List.mapM_cons, List.mapM_nil, cells9, cells3]
    simp [h1, h2]
  have ef : (Value.agg #[.string s, .int .i64 n]).formed Try.prog 55 = true := by
    simp [Value.formed, Try.underlying55, cells55]
  rw [Try.underlying55]
  simp only [kt55, ef, Bool.and_self, if_true]
  show Option.map _ (Try.prog.keyLits (m + 1 + 1) 55 [.string s, .int .i64 n]) = _
  rw [e]
  rfl

end Go.Proofs.Qxb6612671a
