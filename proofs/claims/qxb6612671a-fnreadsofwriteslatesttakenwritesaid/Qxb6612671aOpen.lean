import Derived.Test.Qxb6612671aLawFour
import Derived.Deep.Slices
import Derived.Deep.Grids
import Derived.Lib.SmallJoins
import Derived.ProofKit
namespace Go.Proofs.Qxb6612671a
open Go.ChangeShapes Go.WideShapes Go.RowKit

theorem law4_big (oa : Option Addr) (n cap : Nat) (O : List Op4) (ta : Option Addr) (tl tc : Nat) (w : World) (hs : Src w oa n cap O) (hO : Fine O) (hb : 2048 < n ∨ 4096 < tl) :
    Calls Try.prog 4 #[.slice oa n cap, .slice ta tl tc] w fun e w' => e = .returned (.bool true) ∧ Below w.heap.size w w' := by
  have HS := hide3 hs
  have HO := hide3 hO
  clear hs hO
  by_cases h1 : (2048 : Int) < (n : Int)
  · clear hb
    go_enter Try.func4, Try.ntmps4
    go_wp2_with fail
    refine (zz7 oa n cap O ta tl tc _ HS.out HO.out).mono ?_
    rintro e w' ⟨h, hw⟩
    subst hw
    rcases h with ⟨rfl, hsh⟩ | rfl
    all_goals
      go_wp2
      go_ret
      exact ⟨rfl, Below.refl _ _⟩
  · have h2 : (4096 : Int) < (tl : Int) := by omega
    have h3 : decide ((2048 : Int) < (n : Int)) = false := by simp; omega
    clear hb
    go_enter Try.func4, Try.ntmps4
    go_wp2_with fail
    refine (zz7 oa n cap O ta tl tc _ HS.out HO.out).mono ?_
    rintro e w' ⟨h, hw⟩
    subst hw
    rcases h with ⟨rfl, hsh⟩ | rfl
    all_goals
      go_wp2
      go_ret
      exact ⟨rfl, Below.refl _ _⟩

theorem law4 (oa : Option Addr) (n cap : Nat) (O : List Op4) (ta : Option Addr) (tl tc : Nat) (T : List Bool) (w : World) (hs : Src w oa n cap O) (hO : Fine O) (ht : TakeSrc w ta tl tc T) :
    Calls Try.prog 4 #[.slice oa n cap, .slice ta tl tc] w fun e w' => e = .returned (.bool true) ∧ Below w.heap.size w w' := by
  by_cases h : 2048 < n ∨ 4096 < tl
  · exact law4_big oa n cap O ta tl tc w hs hO h
  · exact law4_small oa n cap O ta tl tc T w hs hO ht (by omega) (by omega)

/-! ### the arguments opened -/
theorem add_at (b off j : Nat) : (⟨b, off, none⟩ : Addr).add j = ⟨b, off + j, none⟩ := by
  unfold Addr.add
  split
  · rename_i h; rw [h]; rfl
  · rfl
theorem cells30 : Try.prog.cellsOf 30 = 4 := by kernel_rfl
theorem cells4 : Try.prog.cellsOf 4 = 1 := by kernel_rfl

theorem op_of {H : Type} {enc : TypeId × Value → H} {w : World} {base : Nat} {spare : Nat → Bool} {held : Bool} {n : Nat} {cs : List Value} {x : DataW H × List MemPlace} (h : DataW.trod enc Try.prog w base spare held n 30 cs = some x) :
    ∃ o : Op4, cs = [.int .i64 o.kind, .int .i64 o.txn, .string o.var, .int .i64 o.ver] ∧ o.var.size ≤ maxLen ∧ (Lit.int .i64 o.ver).wf = true := by
  obtain ⟨y0, y1, y2, y3, m, _, hl, h0, h1, h2, h3⟩ := Joins.trod_struct4 Try.underlying30 h
  rw [cells30] at hl
  match cs, hl with
  | [c0, c1, c2, c3], _ =>
    rw [cells3] at h0 h1 h3
    rw [cells9] at h2
    simp only [List.drop_zero, List.drop_succ_cons, List.take_succ_cons, List.take_zero] at h0 h1 h2 h3
    obtain ⟨a, ha, _, _⟩ := DataW.trod_int Try.underlying3 h0
    obtain ⟨b, hb, _, _⟩ := DataW.trod_int Try.underlying3 h1
    obtain ⟨s, hs, _, hz⟩ := DataW.trod_string Try.underlying9 h2
    obtain ⟨d, hd, _, hw⟩ := DataW.trod_int Try.underlying3 h3
    cases ha; cases hb; cases hs; cases hd
    exact ⟨⟨a, b, s, d⟩, rfl, hz, hw⟩

theorem at4_range (F : Nat → Op4) (n j : Nat) : at4 ((List.range n).map F) j = if j < n then F j else op0 := by
  unfold at4
  by_cases h : j < n
  · simp [h]
  · simp [h]

theorem open_ops {H : Type} {enc : TypeId × Value → H} {w : World} {base : Nat} {spare : Nat → Bool} {held : Bool} {fuel : Nat} {oa : Option Addr} {n cap : Nat} {x : DataW H × List MemPlace} (h : DataW.trod enc Try.prog w base spare held fuel 26 [.slice oa n cap] = some x) :
    ∃ O, Src w oa n cap O ∧ Fine O := by
  rcases Deep.open_slice Try.underlying26 h with ⟨h0, _⟩ | ⟨a, len, cp, m, k, D, Pl, hcs, hb, hl, hm, hmm, _, hx⟩
  · cases h0
    exact ⟨[], .inl ⟨rfl, rfl, rfl⟩, fun j => ⟨by simp [at4, op0], by simp [at4, op0]; decide⟩⟩
  · cases hcs
    have hlm : n ≤ m := by rw [hmm]; split <;> omega
    have each : ∀ i, i < n → ∃ o : Op4, (w.cell? (a.add (i * 4)) = some (.int .i64 o.kind) ∧ w.cell? (a.add (i * 4 + 1)) = some (.int .i64 o.txn) ∧ w.cell? (a.add (i * 4 + 2)) = some (.string o.var) ∧ w.cell? (a.add (i * 4 + 3)) = some (.int .i64 o.ver)) ∧ o.var.size ≤ maxLen ∧ (Lit.int .i64 o.ver).wf = true := by
      intro i hi
      obtain ⟨cs', h1, h2⟩ := hx i (by omega)
      rw [cells30] at h1
      obtain ⟨_, _, hcell⟩ := World.cells?_some h1
      obtain ⟨o, rfl, hz, hw⟩ := op_of h2
      have e0 := hcell 0 (by omega)
      have e1 := hcell 1 (by omega)
      have e2 := hcell 2 (by omega)
      have e3 := hcell 3 (by omega)
      rw [Addr.add_add] at e0 e1 e2 e3
      exact ⟨o, ⟨e0, e1, e2, e3⟩, hz, hw⟩
    have dflt : Inhabited Op4 := ⟨op0⟩
    obtain ⟨F, hF⟩ := Deep.choose_lt each
    refine ⟨(List.range n).map F, ?_, ?_⟩
    · by_cases hp : 0 < n
      · obtain ⟨b, off, spot⟩ := a
        have hspot : spot = none := by simpa [Addr.add] using World.cell?_spot (hF 0 hp).1.1
        subst hspot
        refine .inr (.inr ⟨b, off, rfl, ?_, fun j hj => ?_⟩)
        · have := block_lt_of_cell (hF 0 hp).1.1
          rw [add_at] at this
          exact this
        · obtain ⟨⟨q0, q1, q2, q3⟩, _⟩ := hF j hj
          rw [add_at] at q0 q1 q2 q3
          rw [at4_range, if_pos hj]
          exact ⟨q0, q1, q2, q3⟩
      · exact .inr (.inl ⟨a, rfl, by omega⟩)
    · intro j
      rw [at4_range]
      split
      · rename_i hj
        exact ⟨(hF j hj).2.1, (hF j hj).2.2⟩
      · exact ⟨by simp [op0], by simp [op0]; decide⟩

theorem open_take {H : Type} {enc : TypeId × Value → H} {w : World} {base : Nat} {held : Bool} {fuel : Nat} {ta : Option Addr} {tl tc : Nat} {x : DataW H × List MemPlace} (h : DataW.trod enc Try.prog w base (fun _ => true) held fuel 27 [.slice ta tl tc] = some x) :
    ∃ T, TakeSrc w ta tl tc T := by
  rcases Deep.open_bools Try.underlying27 Try.underlying4 cells4 h with ⟨h0, _⟩ | ⟨a, len, cp, B, hcs, hb, hl, hm, _, hx⟩
  · cases h0
    exact ⟨[], .inl ⟨rfl, rfl, rfl, rfl⟩⟩
  · cases hcs
    refine ⟨(List.range tl).map B, .inr ⟨a, rfl, by simp, fun j hj => ?_⟩⟩
    rw [List.length_map, List.length_range] at hj
    rw [hx j (by omega)]
    simp [takes, hj]

end Go.Proofs.Qxb6612671a
