import Derived.Test.Qxb6612671aIter
import Derived.Deep.QuietTactic
import Derived.BigQuiet
import Derived.WalkSmall
namespace Go.Proofs.Qxb6612671a
open Go.RowKit Go.Shelf
attribute [local go_sem] Oper.semAt_some

theorem str_ne {o a : ByteArray} (h : ¬ o = a) : (o.toList == a.toList) = false := by
  rw [beq_eq_false_iff_ne]
  intro e
  rw [ByteArray.toList_eq, ByteArray.toList_eq] at e
  exact h (ByteArray.ext (Array.toList_inj.1 e))

theorem mtc_no {O : List Op4} {T : List Bool} {v : ByteArray} {n : Int} {j : Nat} (h : ¬ ((at4 O j).kind = 1 ∧ (at4 O j).var = v ∧ (at4 O j).ver = n ∧ takes T j = true)) : mtc O T v n j = false := by
  unfold mtc; exact decide_eq_false h

set_option maxRecDepth 100000 in
set_option maxHeartbeats 2000000 in
/-- 'takenWriteOf(ops, take, j, i)'. -/
theorem taken (b off len cap B : Nat) (O : List Op4) (T : List Bool) (ta : Option Addr) (tl tc i j : Nat) (w : World) (hl : Lies w b off O len) (hm : Mask B w (.slice ta tl tc) T) (hi : i < len) (hj : j < len) (hT : T.length ≤ 4096) :
    Calls Try.prog 11 #[.slice (some ⟨b, off, none⟩) len cap, .slice ta tl tc, .int .i64 j, .int .i64 i] w fun e w' => e = .returned (.bool (mtc O T (at4 O i).var (at4 O i).ver j)) ∧ ∃ nq, w' = w.drewN nq := by
  obtain ⟨c1, c2, c3, c4⟩ := hl j hj
  obtain ⟨d1, d2, d3, d4⟩ := hl i hi
  clear hl d1 c2 d2
  have HMT := hide3 (@mtc_iff O T (at4 O i).var (at4 O i).ver j)
  have HMN := hide3 (@mtc_no O T (at4 O i).var (at4 O i).ver j)
  have HTI := hide3 (@takes_out T j)
  obtain ⟨r, hr⟩ : ∃ r, r = mtc O T (at4 O i).var (at4 O i).ver j := ⟨_, rfl⟩
  obtain ⟨kj, hkj⟩ : ∃ x, x = (at4 O j).kind := ⟨_, rfl⟩
  obtain ⟨vj, hvj⟩ : ∃ x, x = (at4 O j).var := ⟨_, rfl⟩
  obtain ⟨nj, hnj⟩ : ∃ x, x = (at4 O j).ver := ⟨_, rfl⟩
  obtain ⟨vi, hvi⟩ : ∃ x, x = (at4 O i).var := ⟨_, rfl⟩
  obtain ⟨ni, hni⟩ : ∃ x, x = (at4 O i).ver := ⟨_, rfl⟩
  rw [← hr]
  rw [← hkj] at c1
  rw [← hvj] at c3
  rw [← hnj] at c4
  rw [← hvi] at d3
  rw [← hni] at d4
  rw [← hr, ← hvi, ← hni, ← hkj, ← hvj, ← hnj] at HMT HMN
  clear hr hkj hvj hnj hvi hni
  by_cases h1 : kj = 1
  · have b1 : (kj == 1) = true := by simp [h1]
    by_cases h2 : vj = vi
    · have b2 : (vj.toList == vi.toList) = true := by simp [h2]
      by_cases h3 : nj = ni
      · have b3 : (nj == ni) = true := by simp [h3]
        rcases hm with ⟨hm, rfl⟩ | ⟨g, cp, hm, hg, hcm⟩
        · cases hm
          have b4 : decide ((j : Int) < (0 : Int)) = false := by simp
          obtain rfl := HMN.out (fun h => by rw [HTI.out (Nat.zero_le _)] at h; cases h.2.2.2)
          clear HMT HMN HTI
          go_enter Try.func11, Try.ntmps11
          go_wp2
          go_quiet (fail)
          go_wp2
          go_ret
          exact ⟨rfl, _, rfl⟩
        · cases hm
          have hcm' := hcm j
          clear hcm
          by_cases h4 : j < T.length
          · have c5 := hcm' h4
            cases h5 : takes T j
            · rw [h5] at c5 HMN HMT
              obtain rfl := HMN.out (fun h => by cases h.2.2.2)
              clear h5 hcm'
              have b4 : (j : Int) < (T.length : Int) := by omega
              clear HMT HMN HTI
              go_enter Try.func11, Try.ntmps11
              go_wp2
              go_quiet (fail)
              go_wp2
              go_ret
              exact ⟨rfl, _, rfl⟩
            · rw [h5] at c5 HMN HMT
              obtain rfl := HMT.out.2 ⟨h1, h2, h3, rfl⟩
              clear h5 hcm'
              have b4 : (j : Int) < (T.length : Int) := by omega
              clear HMT HMN HTI
              go_enter Try.func11, Try.ntmps11
              go_wp2
              go_quiet (fail)
              go_wp2
              go_ret
              exact ⟨rfl, _, rfl⟩
          · obtain rfl := HMN.out (fun h => by rw [HTI.out (by omega)] at h; cases h.2.2.2)
            clear hcm'
            have b4 : decide ((j : Int) < (T.length : Int)) = false := by simp; omega
            clear HMT HMN HTI
            go_enter Try.func11, Try.ntmps11
            go_wp2
            go_quiet (fail)
            go_wp2
            go_ret
            exact ⟨rfl, _, rfl⟩
      · have b3 : (nj == ni) = false := by simp [h3]
        obtain rfl := HMN.out (fun h => h3 h.2.2.1)
        clear HMT HMN HTI hm
        go_enter Try.func11, Try.ntmps11
        go_wp2
        go_quiet (fail)
        go_wp2
        go_ret
        exact ⟨rfl, _, rfl⟩
    · have b2 := str_ne h2
      obtain rfl := HMN.out (fun h => h2 h.2.1)
      clear HMT HMN HTI hm
      go_enter Try.func11, Try.ntmps11
      go_wp2
      go_quiet (fail)
      go_wp2
      go_ret
      exact ⟨rfl, _, rfl⟩
  · have b1 : (kj == 1) = false := by simp [h1]
    obtain rfl := HMN.out (fun h => h1 h.1)
    clear HMT HMN HTI hm
    go_enter Try.func11, Try.ntmps11
    go_wp2
    go_quiet (fail)
    go_wp2
    go_ret
    exact ⟨rfl, _, rfl⟩

end Go.Proofs.Qxb6612671a
