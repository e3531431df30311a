import Derived.Test.Qxb6612640aRows
import Derived.WalkKit
import Derived.WalkSpells
import Derived.OwnWalk
import Derived.LaidEqlPtr
namespace Go.Proofs.Qxb6612640a
open Go.RowKit

theorem hide {p : Prop} (h : p) : Hid p := h
theorem ret_bool {a b : Bool} (h : a = b) : Ending.returned (.bool a) = .returned (.bool b) := by rw [h]
theorem ret_int {k : IntKind} {a b : Int} (h : a = b) : Ending.returned (.int k a) = .returned (.int k b) := by rw [h]

theorem run_neq_ptr_same {P : Program} (w : World) {tp te : TypeId} {j : TypeInfo} (a : Addr) (hp : P.underlying tp = some (.pointer te)) (hte : P.info? te = some j) :
    (binOp .neq tp (.pointer (some a)) (.pointer (some a))).run P w = .ok (.bool false) w := by
  have h : ∀ d : Nat, (Op.equalIn (d + 1) tp (.pointer (some a)) (.pointer (some a))).run P w = .ok true w := fun d => by
    simp [Op.equalIn, run_underlying hp, sizeOf, typeInfo, hte, run_sameAddr_same]
  simp only [binOp]
  simp [Op.equal, Op.maxDepth, h 9999]

theorem run_neq_ptr_other {P : Program} (w : World) {tp te : TypeId} {j : TypeInfo} {a b : Addr} {ca cb : Array Value} {ta tb : TypeId} (hp : P.underlying tp = some (.pointer te)) (hte : P.info? te = some j) (hsz : j.size ≠ 0)
    (hne : a ≠ b) (ha : w.heap[a.block]? = some (.cells ca ta (0, 0))) (hb : w.heap[b.block]? = some (.cells cb tb (0, 0))) :
    (binOp .neq tp (.pointer (some a)) (.pointer (some b))).run P w = .ok (.bool true) w := by
  have h : ∀ d : Nat, (Op.equalIn (d + 1) tp (.pointer (some a)) (.pointer (some b))).run P w = .ok false w := fun d => by
    simp [Op.equalIn, run_underlying hp, sizeOf, typeInfo, hte, hsz, run_sameAddr_other w hne ha hb]
  simp only [binOp]
  simp [Op.equal, Op.maxDepth, h 9999]

/-- A BLOCK OF 64-BIT WORDS, whole, of element type e. -/
def Row (w : World) (g : Nat) (e : TypeId) (z : List Int) : Prop := w.heap[g]? = some (.cells (z.map (Value.int .u64)).toArray e (0, 0))

theorem Row.lt {w : World} {g : Nat} {e : TypeId} {z : List Int} (h : Row w g e z) : g < w.heap.size := (Array.getElem?_eq_some_iff.1 h).1
theorem Row.cell {w : World} {g : Nat} {e : TypeId} {z : List Int} (h : Row w g e z) (j : Nat) (hj : j < z.length) : w.cell? ⟨g, j, none⟩ = some (.int .u64 (z.getD j 0)) := by
  unfold Row at h
  simp [World.cell?, h, List.getElem?_eq_getElem hj]
theorem Row.frozen {w : World} {g : Nat} {e : TypeId} {z : List Int} (h : Row w g e z) (j : Nat) : w.frozen? ⟨g, j, none⟩ = false := by
  unfold Row at h
  simp [World.frozen?, h]
theorem Row.below {w w' : World} {g B : Nat} {e : TypeId} {z : List Int} (h : Row w g e z) (hb : Below B w w') (hg : g < B) : Row w' g e z := (hb.block g hg).trans h
theorem Row.set {w : World} {g : Nat} {e : TypeId} {z : List Int} (h : Row w g e z) (j : Nat) (x : Int) : Row (w.setCell ⟨g, j, none⟩ (.int .u64 x)) g e (z.set j x) := by
  unfold Row at h ⊢
  simp [World.setCell, Array.getElem?_modify, h, List.map_set]
theorem Row.setOther {w : World} {g : Nat} {e : TypeId} {z : List Int} (h : Row w g e z) (a : Addr) (x : Value) (ha : g ≠ a.block) : Row (w.setCell a x) g e z := (Below.heap_setCell w a x g ha).trans h

theorem Row.made {w : World} {base g n : Nat} {e : TypeId} (h : w.ownsRow base e 1 (.slice (some ⟨g, 0, none⟩) n n) n (madeCells (Value.int .u64 0).cells (n * 1)).toList) : Row w g e (List.replicate n 0) := by
  obtain ⟨_, h2⟩ := h
  rcases h2 with ⟨h2, _⟩ | ⟨g', cap, cur, hv, _, hh, _, _, hs, ht⟩
  · cases h2
  · cases hv
    unfold Row
    rw [hh]
    have : cur.toList = List.replicate n (Value.int .u64 0) := by
      have e1 : (Value.int .u64 0).cells = #[Value.int .u64 0] := rfl
      rw [e1, toList_madeCells_one, Nat.mul_one] at ht
      rw [← ht, List.take_of_length_le]
      simp [hs]
    rw [List.map_replicate, ← this]

/-- The first k words of z, then zeros, n in all. -/
def fill (z : List Int) (n k : Nat) : List Int := z.take k ++ List.replicate (n - k) 0
theorem fill_zero (z : List Int) (n : Nat) : fill z n 0 = List.replicate n 0 := by simp [fill]
theorem fill_full (z : List Int) (n : Nat) : fill z n n = z.take n := by simp [fill]
theorem fill_length (z : List Int) (n k : Nat) (hk : k ≤ n) (hz : n ≤ z.length) : (fill z n k).length = n := by simp [fill]; omega
theorem fill_set (z : List Int) (n k : Nat) (hk : k < n) (hz : n ≤ z.length) : (fill z n k).set k (z.getD k 0) = fill z n (k + 1) := by
  unfold fill
  have e1 : n - k = (n - (k + 1)) + 1 := by omega
  have e3 : z.getD k 0 = z[k]'(by omega) := by simp [List.getElem?_eq_getElem (show k < z.length by omega)]
  rw [e1, List.replicate_succ, e3]
  rw [List.set_append_right (h := by simp; omega)]
  have e2 : k - (z.take k).length = 0 := by simp; omega
  rw [e2, List.set_cons_zero, List.take_succ_eq_append_getElem (show k < z.length by omega), List.append_assoc]
  rfl

/-- t IS HOW MANY WORDS ARE LEFT WHEN LEADING ZEROS ARE STRUCK. -/
def Top (z : List Int) (n t : Nat) : Prop := t ≤ n ∧ (0 < t → z.getD (t - 1) 0 ≠ 0) ∧ ∀ j, t ≤ j → j < n → z.getD j 0 = 0
theorem Top.one {z : List Int} {n t s : Nat} (h : Top z n t) (k : Top z n s) : t = s := by
  rcases Nat.lt_trichotomy t s with hh | hh | hh
  · exact absurd (h.2.2 (s - 1) (by omega) (by have := k.1; omega)) (k.2.1 (by omega))
  · exact hh
  · exact absurd (k.2.2 (t - 1) (by omega) (by have := h.1; omega)) (h.2.1 (by omega))

/-- From index t on all is zero. -/
def Zeros (z : List Int) (n t : Nat) : Prop := ∀ j, t ≤ j → j < n → z.getD j 0 = 0
theorem Zeros.start (z : List Int) (n : Nat) : Zeros z n n := fun j h1 h2 => by omega
theorem Zeros.step {z : List Int} {n t : Nat} (h : Zeros z n t) {c : Int} (hc : Hid (c = z.getD (t - 1) 0)) (h0 : c = 0) : Zeros z n (t - 1) := fun j h1 h2 => by
  by_cases hj : t ≤ j
  · exact h j hj h2
  · obtain rfl : j = t - 1 := by omega
    rw [← hc.out, h0]

end Go.Proofs.Qxb6612640a
