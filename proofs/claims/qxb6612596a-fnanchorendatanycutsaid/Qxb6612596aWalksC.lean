import Derived.Test.Qxb6612596aWalksB
import Derived.Laws.CopyOwn
import Derived.OwnWalk
namespace Go.Proofs.Qxb6612596a
open Go.RowKit

theorem anchorEnd_none (p : Value) (w : World) :
    Calls Try.prog 10 #[p, .int .i64 0, .int .i64 0] w fun e w' => e = .returned (.int .i64 0) ∧ w' = w := by
  go_enter Try.func10, Try.ntmps10
  go_wp2
  refine wp_loop_rounds 1 ?_
  rw [rounds_succ]
  go_wp2
  go_ret
  exact ⟨rfl, rfl⟩

set_option maxHeartbeats 1000000 in
theorem zzEnd_some (b len cap : Nat) (z : List Int) (i l : Nat) (w : World)
    (hc : ∀ j, j < len → w.cell? ⟨b, j, none⟩ = some (.int .u8 (z.getD j 0))) (hbw : b < w.heap.size) (hz : ∀ j, 0 ≤ z.getD j 0 ∧ z.getD j 0 ≤ 255) (hil : i ≤ l) (hl : l ≤ len) (hlen : len ≤ 1048576) :
    Calls Try.prog 6 #[.slice (some ⟨b, 0, none⟩) len cap, .int .i64 i, .int .i64 l] w fun e w' => (∃ k : Nat, e = .returned (.int .i64 k) ∧ Ends z i l k) ∧ Below w.heap.size w w' := by
  have HC : Hid (∀ j, j < len → w.cell? ⟨b, j, none⟩ = some (.int .u8 (z.getD j 0))) := hc
  have HZ : Hid (∀ j, 0 ≤ z.getD j 0 ∧ z.getD j 0 ≤ 255) := hz
  clear hc hz
  go_enter Try.func6, Try.ntmps6
  go_wp2_with fail
  refine (anchorEnd_some w.heap.size 0 b len cap z i l _ ?hd ?hcc HZ.out hil hl hlen).mono ?_
  case hd => simp
  case hcc =>
    intro j hj
    rw [← HC.out j hj]
    exact ((Below.refl w.heap.size w).alloc (Nat.le_refl _) _).cell (p := ⟨b, j, none⟩) hbw
  rintro e w' ⟨⟨k, rfl, hk⟩, rfl⟩
  go_wp2
  go_ret
  exact ⟨⟨k, rfl, hk⟩, (Below.refl _ _).alloc (Nat.le_refl _) _⟩

set_option maxHeartbeats 1000000 in
theorem zzEnd_none (w : World) :
    Calls Try.prog 6 #[.slice none 0 0, .int .i64 0, .int .i64 0] w fun e w' => e = .returned (.int .i64 0) ∧ Below w.heap.size w w' := by
  go_enter Try.func6, Try.ntmps6
  go_wp2_with fail
  refine (anchorEnd_none _ _).mono ?_
  rintro e w' ⟨rfl, rfl⟩
  go_wp2
  go_ret
  exact ⟨rfl, (Below.refl _ _).alloc (Nat.le_refl _) _⟩

theorem info5 : (Try.prog.info? 5).map (fun i => (i.zero, i.size, i.bytes)) = some (some (.int .u8 0), 1, 1) := by kernel_rfl

/-- The row that 'make' laid, whole. -/
theorem row_of_owns {w : World} {base e g n m : Nat} {xs : List Value} (h : w.ownsRow base e 1 (.slice (some ⟨g, 0, none⟩) n m) n xs) :
    ∃ cur : List Value, cur.length = m ∧ w.heap[g]? = some (.cells cur.toArray e (0, 0)) := by
  rcases h.2 with ⟨h2, _⟩ | ⟨g', cap, cur, hv, _, hh, _, _, hs, _⟩
  · cases h2
  · cases hv
    exact ⟨cur.toList, by simpa using hs, by simpa using hh⟩

theorem splice_whole (cur cs : List Value) (h : cs.length = cur.length) : splice cur 0 cs = cs := by
  simp [splice, h]

/-- The cells of the copy. -/
theorem copied_cell {w : World} {g : Nat} {z : List Int} {len : Nat} (hz : len ≤ z.length) (hg : w.heap[g]? = some (.cells ((z.take len).map (Value.int .u8)).toArray 5 (0, 0))) (j : Nat) (hj : j < len) :
    w.cell? ⟨g, j, none⟩ = some (.int .u8 (z.getD j 0)) := by
  simp [World.cell?, hg]
  rw [List.getElem?_take_of_lt hj, List.getElem?_map, List.getElem?_eq_getElem (by omega)]
  rfl

end Go.Proofs.Qxb6612596a
