import Derived.Test.Qxb6612671aOpen
import Derived.ChangeKeysEq
namespace Go.Proofs.Qxb6612671a
open Go.RowKit Go.Shelf

/-! ### the plain law -/
theorem yielded1_snd {O : List Op4} {T : List Bool} {k : Nat} {x : Nat × Nat} (h : x ∈ yielded1 O T k) : x.2 = k := by
  unfold yielded1 at h
  split at h
  · cases hl : lastW O T (at4 O k).var (at4 O k).ver k with
    | none => rw [hl] at h; simp at h
    | some w => rw [hl] at h; simp at h; rw [h]
  · simp at h
theorem outs_snd {O : List Op4} {T : List Bool} : ∀ {k : Nat} {x : Nat × Nat}, x ∈ outs O T k → x.2 < k
  | 0, x, h => by simp [outs] at h
  | k + 1, x, h => by
    rcases List.mem_append.1 (show x ∈ outs O T k ++ yielded1 O T k from h) with h | h
    · have := outs_snd h; omega
    · have := yielded1_snd h; omega
theorem outs_rest {O : List Op4} {T : List Bool} {k n : Nat} (h : k ≤ n) : ∃ r, outs O T n = outs O T k ++ r ∧ ∀ x ∈ r, k ≤ x.2 := by
  induction n with
  | zero => obtain rfl : k = 0 := by omega
            exact ⟨[], by simp, fun x hx => by cases hx⟩
  | succ n ih =>
    by_cases e : k = n + 1
    · subst e; exact ⟨[], by simp, fun x hx => by cases hx⟩
    · obtain ⟨r, hr, hx⟩ := ih (by omega)
      refine ⟨r ++ yielded1 O T n, by show outs O T n ++ _ = _; rw [hr, List.append_assoc], fun x hm => ?_⟩
      rcases List.mem_append.1 hm with hm | hm
      · exact hx x hm
      · have := yielded1_snd hm; omega
theorem outs_early {O : List Op4} {T : List Bool} {k n m : Nat} (h : k ≤ n) (hm : m < (outs O T k).length) :
    ∃ a b, ((outs O T n).map (·.1))[m]? = some a ∧ ((outs O T n).map (·.2))[m]? = some b ∧ ((outs O T k).map (·.1))[m]? = some a ∧ ((outs O T k).map (·.2))[m]? = some b ∧ b < k := by
  obtain ⟨r, hr, _⟩ := outs_rest (O := O) (T := T) h
  refine ⟨((outs O T k)[m]).1, ((outs O T k)[m]).2, ?_, ?_, ?_, ?_, outs_snd (List.getElem_mem hm)⟩
  · rw [hr, List.getElem?_map, List.getElem?_append_left hm, List.getElem?_eq_getElem hm]; rfl
  · rw [hr, List.getElem?_map, List.getElem?_append_left hm, List.getElem?_eq_getElem hm]; rfl
  · rw [List.getElem?_map, List.getElem?_eq_getElem hm]; rfl
  · rw [List.getElem?_map, List.getElem?_eq_getElem hm]; rfl
theorem outs_late {O : List Op4} {T : List Bool} {k n : Nat} (h : k ≤ n) (hm : (outs O T k).length < (outs O T n).length) :
    ∃ b, ((outs O T n).map (·.2))[(outs O T k).length]? = some b ∧ k ≤ b := by
  obtain ⟨r, hr, hx⟩ := outs_rest (O := O) (T := T) h
  cases r with
  | nil => rw [hr] at hm; simp at hm
  | cons y ys => exact ⟨y.2, by rw [hr]; simp, hx y (by simp)⟩
theorem outs_len_le {O : List Op4} {T : List Bool} {k n : Nat} (h : k ≤ n) : (outs O T k).length ≤ (outs O T n).length := by
  obtain ⟨r, hr⟩ := outs_le (O := O) (T := T) h
  rw [hr, List.length_append]; omega

/-! ### 'ops[:k]' -/
theorem info30 : (Try.prog.info? 30).map (fun i => (i.zero, i.size, i.bytes)) = some (some (.agg #[.int .i64 0, .int .i64 0, .string ByteArray.empty, .int .i64 0]), 4, 40) := by kernel_rfl
theorem add_zero' (ad : Addr) : ad.add 0 = ad := by
  unfold Addr.add; simp
theorem cut_slice (oa : Option Addr) (n cap k : Nat) (hk : k ≤ cap) (w : World) :
    (Instr.slice 26 (.slice oa n cap) none (some (.int .i64 (k : Int))) none).run Try.prog w = .ok (.slice oa k cap) w := by
  obtain ⟨i0, hi, _, _, _⟩ := info_parts info30
  rw [run_slice_h (P := Try.prog) (w := w) 26 oa n cap (by kernel_rfl) .i64 (k : Int) (by omega) (by omega)]
  have e : (Try.prog.elem 26) = 30 := by kernel_rfl
  rw [e, run_sizeOf w hi]
  cases oa
  · simp [sliced, Result.andThen]
  · simp [sliced, Result.andThen, add_zero']
theorem Src.cut {w : World} {oa : Option Addr} {n cap k : Nat} {O : List Op4} (h : Src w oa n cap O) (hk : k ≤ n) : Src w oa k cap O := by
  rcases h with ⟨h1, h2, h3⟩ | ⟨ad, h1, h2⟩ | ⟨b, off, h1, h2, h3⟩
  · exact .inl ⟨h1, by omega, h3⟩
  · exact .inr (.inl ⟨ad, h1, by omega⟩)
  · exact .inr (.inr ⟨b, off, h1, h2, h3.mono hk⟩)

end Go.Proofs.Qxb6612671a
