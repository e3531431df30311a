import Derived.Test.Qxb6612644aLocks
import Derived.Maps.OwnSet
import Derived.WalkSpells
import Derived.LaidEqlPtr
namespace Go.Proofs.Qxb6612644a
open Go.MuLone Go.RowKit
open Go.Maps (Keyed)

theorem hide {p : Prop} (h : p) : Hid p := h

/-- HOW AN ELEMENT OF TYPE *agentLog READS: nil, or the number of the block that it leads to. -/
def ptrElem : Value → Option (DataW Unit × List MemPlace)
  | .pointer none => some (.nil, [])
  | .pointer (some ⟨b, 0, none⟩) => some (.lit (.int .i64 b), [])
  | _ => none
theorem ptrElem_nil {v : Value} {ps : List MemPlace} (h : ptrElem v = some (.nil, ps)) : v = .pointer none := by
  unfold ptrElem at h
  split at h <;> simp_all
theorem ptrElem_at {v : Value} {b : Nat} {ps : List MemPlace} (h : ptrElem v = some (.lit (.int .i64 b), ps)) : v = .pointer (some ⟨b, 0, none⟩) := by
  unfold ptrElem at h
  split at h
  · simp at h
  · rename_i c
    simp at h
    obtain rfl : c = b := by omega
    rfl
  · simp at h
theorem ptrElem_mk (b : Nat) : ptrElem (.pointer (some ⟨b, 0, none⟩)) = some (.lit (.int .i64 b), []) := rfl
/-- HOW A BOOL READS. -/
def boolElem : Value → Option (DataW Unit × List MemPlace)
  | .bool x => some (.lit (.bool x), [])
  | _ => none
theorem boolElem_at {v : Value} {x : Bool} {ps : List MemPlace} (h : boolElem v = some (.lit (.bool x), ps)) : v = .bool x := by
  unfold boolElem at h
  split at h <;> simp_all

/-- 'm[k]' WHERE WHAT IS AT THE KEY IS KNOWN. -/
theorem wpList_lookup_known {P : Program} (w : World) {ops : Array Oper} {rest : List Oper} {o : Oper} {a : Act} {Q : Exit → Act → World → Prop}
    (hg : o.guard = none) (m x : Operand) (t : TypeId) (hop : o.op = Op.lookup t m x false)
    (k e : TypeId) (K : Keyed P k) (ht : P.underlying t = some (.map k e)) (R : Value → Option (DataW Unit × List MemPlace)) (z : Value) (hz : (zeroValue e).run P w = .ok z w) (zd : DataW Unit) (zp : List MemPlace) (hzd : R z = some (zd, zp)) (b n : Nat) (D : DataW Unit)
    (hm : a.eval m = .map (some b)) (hown : w.ownsMap P k R b n D) (key : Value) (kl : Lit) (hx : a.eval x = key) (hkey : keyOf P k key = some kl) (V : Value) (hV : ∀ v ps, R v = some (D.atKey kl zd, ps) → v = V)
    (hK : wpList P ops Q rest (a.put o.dst V) w) :
    wpList P ops Q (o :: rest) a w := by
  refine wpList_plain hg fun K' hK' => ?_
  obtain ⟨v, ps, hrun, hv⟩ := hown.lookup K ht hz hzd hkey
  obtain rfl := hV v ps hv
  unfold Oper.wp
  simp [execOp, hop, hm, hx, hrun, Result.andThen]
  exact hK' _ _ hK

theorem law9 : Keyed Try.prog 9 := Maps.string_keyed Try.underlying9
theorem zero27 (w : World) : (zeroValue 27).run Try.prog w = .ok (.pointer none) w := Try.zeroValue27 w
theorem zero4 (w : World) : (zeroValue 4).run Try.prog w = .ok (.bool false) w := Try.zeroValue4 w

/-- The key that a string makes. -/
def klit (s : ByteArray) : Lit := .string s.data.toList
theorem klit_key (s : ByteArray) (hs : s.size ≤ maxLen) : keyOf Try.prog 9 (.string s) = some (klit s) := WideMaps.keyOf_string_mk Try.underlying9 hs
theorem klit_inj {s t : ByteArray} (h : klit s = klit t) : s = t := by
  unfold klit at h
  have h1 : s.data.toList = t.data.toList := by simpa using h
  cases s; cases t
  simp at h1
  rw [h1]

/-- WHAT lockAgent LEAVES OF A NEW AGENT: its own lock held, its id, one user. -/
def Agent (w : World) (A : Nat) (s : ByteArray) : Prop :=
  w.heap[A]? = some (.cells #[.int .i32 1, .int .u32 0, .string s, .int .i64 1, .pointer none, .pointer none, .pointer none, .slice none 0 0] 51 (0, 0))

/-- THE Log IN BLOCK lb, its lock free, its map in block mb. -/
def Log (w : World) (lb mb : Nat) : Prop :=
  w.cell? ⟨lb, 2, none⟩ = some (.int .i32 0) ∧ w.cell? ⟨lb, 4, none⟩ = some (.map (some mb)) ∧ w.cell? ⟨lb, 7, none⟩ = some (.int .i64 0) ∧ w.frozen? ⟨lb, 2, none⟩ = false ∧ ∃ c, w.heap[lb]? = some (.cells c 46 (0, 0))

/-- Nothing that was there has turned but blocks lb and mb. -/
structure Kept (w w' : World) (lb mb : Nat) : Prop where
  os : w'.os = w.os
  tape : w'.tape = w.tape
  output : w'.output = w.output
  size : w.heap.size ≤ w'.heap.size
  block : ∀ k, k < w.heap.size → k ≠ lb → k ≠ mb → w'.heap[k]? = w.heap[k]?
theorem Kept.refl (w : World) (lb mb : Nat) : Kept w w lb mb := ⟨rfl, rfl, rfl, Nat.le_refl _, fun _ _ _ _ => rfl⟩
theorem Kept.trans {a b c : World} {lb mb : Nat} (h : Kept a b lb mb) (k : Kept b c lb mb) : Kept a c lb mb :=
  ⟨k.os.trans h.os, k.tape.trans h.tape, k.output.trans h.output, Nat.le_trans h.size k.size, fun i hi h1 h2 => (k.block i (Nat.lt_of_lt_of_le hi h.size) h1 h2).trans (h.block i hi h1 h2)⟩
theorem Kept.below {w w' : World} {lb mb B : Nat} (h : Kept w w' lb mb) (h1 : B ≤ lb) (h2 : B ≤ mb) (h3 : B ≤ w.heap.size) : Below B w w' :=
  ⟨h.os, h.tape, h.output, h.size, fun k hk => h.block k (by omega) (by omega) (by omega)⟩
theorem Kept.setLog {a w : World} {lb mb : Nat} (h : Kept a w lb mb) (o : Nat) (v : Value) : Kept a (w.setCell ⟨lb, o, none⟩ v) lb mb :=
  h.trans ⟨rfl, rfl, rfl, by simp [World.setCell], fun k _ h1 _ => Below.heap_setCell _ _ _ _ h1⟩
theorem Kept.setNew {a w : World} {lb mb : Nat} (h : Kept a w lb mb) (p : Addr) (hp : a.heap.size ≤ p.block) (v : Value) : Kept a (w.setCell p v) lb mb :=
  ⟨h.os, h.tape, h.output, by simp [World.setCell]; exact h.size, fun k hk h1 h2 => (Below.heap_setCell _ _ _ _ (by omega)).trans (h.block k hk h1 h2)⟩
theorem Kept.alloc {a w : World} {lb mb : Nat} (h : Kept a w lb mb) (o : Obj) : Kept a (w.alloc o) lb mb :=
  h.trans ⟨rfl, rfl, rfl, by simp, fun k hk _ _ => Below.heap_alloc _ _ _ hk⟩
theorem Kept.grown {a w w' : World} {lb mb : Nat} (h : Kept a w lb mb) (hg : w.grownBy w' (some mb)) : Kept a w' lb mb :=
  h.trans ⟨hg.os, hg.tape, hg.output, hg.size, fun k hk _ h2 => hg.block k hk (by simpa using h2)⟩

theorem new_kept {w w2 : World} {o : Obj} {mb : Nat} (hg : (w.alloc o).grownBy w2 (some mb)) (h : mb < w.heap.size) : w2.heap[w.heap.size]? = some o := by
  rw [hg.block w.heap.size (by simp) (by simp; omega)]
  show (w.heap.push o)[w.heap.size]? = _
  simp
theorem old_kept {w w2 : World} {o : Obj} {mb k : Nat} (hg : (w.alloc o).grownBy w2 (some mb)) (h : k < w.heap.size) (hk : k ≠ mb) : w2.heap[k]? = w.heap[k]? := by
  rw [hg.block k (by simp; omega) (by simpa using hk)]
  exact Below.heap_alloc _ _ _ h
/-- A new agent as lockAgent's literal lays it. -/
def Fresh (w : World) (A : Nat) (s : ByteArray) : Prop :=
  w.heap[A]? = some (.cells #[.int .i32 0, .int .u32 0, .string s, .int .i64 0, .pointer none, .pointer none, .pointer none, .slice none 0 0] 51 (0, 0))
theorem Fresh.users {w : World} {A : Nat} {s : ByteArray} (h : Fresh w A s) : w.cell? ⟨A, 3, none⟩ = some (.int .i64 0) ∧ w.frozen? ⟨A, 3, none⟩ = false ∧ w.cell? ⟨A, 0, none⟩ = some (.int .i32 0) ∧ w.frozen? ⟨A, 0, none⟩ = false := by
  unfold Fresh at h
  simp [World.cell?, World.frozen?, h]
theorem Fresh.held {w : World} {A : Nat} {s : ByteArray} (h : Fresh w A s) {lb : Nat} (hlb : A ≠ lb) (v : Value) : Agent (((w.setCell ⟨A, 3, none⟩ (.int .i64 1)).setCell ⟨lb, 2, none⟩ v).setCell ⟨A, 0, none⟩ (.int .i32 1)) A s := by
  unfold Fresh at h
  unfold Agent
  simp [World.setCell, Array.getElem?_modify, h, Ne.symm hlb]

set_option maxRecDepth 100000 in
set_option maxHeartbeats 2000000 in
/-- 'lg.lockAgent(s)' WHERE THE Log HOLDS NOTHING UNDER s. -/
theorem lock_new (lb mb n : Nat) (D : DataW Unit) (s : ByteArray) (w : World) (hl : Log w lb mb) (hown : w.ownsMap Try.prog 9 ptrElem mb n D) (hn : n ≤ 5000) (hs : s.size ≤ maxLen) (hno : D.atKey (klit s) .nil = .nil) :
    Calls Try.prog 17 #[.pointer (some ⟨lb, 0, none⟩), .string s] w fun e w' => e = .returned (.pointer (some ⟨w.heap.size, 0, none⟩)) ∧ Log w' lb mb ∧
      w'.ownsMap Try.prog 9 ptrElem mb (n + 1) (D.put (klit s) (.lit (.int .i64 w.heap.size))) ∧ Agent w' w.heap.size s ∧ Kept w w' lb mb := by
  obtain ⟨l2, l4, l7, lf, c, lc⟩ := hl
  have hlm : mb ≠ lb := fun e => by
    obtain ⟨es, cl, he, _⟩ := hown
    rw [e, lc] at he
    cases he
  have hlt : lb < w.heap.size := block_lt_of_cell l2
  have hmt : mb < w.heap.size := hown.lt
  have HN := hide hno
  have HK := hide (klit_key s hs)
  clear hno
  go_enter Try.func17, Try.ntmps17
  go_wp2_with fail
  refine (lock_free muLib ⟨lb, 2, none⟩ _ l2 lf).mono ?_
  rintro e w1 ⟨rfl, hw1⟩
  have a2 : w1.cell? ⟨lb, 2, none⟩ = some (.int .i32 1) := by rw [hw1]; exact World.cell?_setCell_same _ _ _ l2
  have a4 : w1.cell? ⟨lb, 4, none⟩ = some (.map (some mb)) := by rw [hw1, World.cell?_setCell_other _ _ _ _ (by simp)]; exact l4
  have a7 : w1.cell? ⟨lb, 7, none⟩ = some (.int .i64 0) := by rw [hw1, World.cell?_setCell_other _ _ _ _ (by simp)]; exact l7
  have af : w1.frozen? ⟨lb, 2, none⟩ = false := by rw [hw1]; simp [lf]
  have HC1 : Hid (∃ c, w1.heap[lb]? = some (.cells c 46 (0, 0))) := by rw [hw1]; exact ⟨_, by simp [World.setCell, Array.getElem?_modify, lc]; rfl⟩
  have hs1 : w1.heap.size = w.heap.size := by rw [hw1]; simp
  have HO1 : Hid (w1.ownsMap Try.prog 9 ptrElem mb n D) := by rw [hw1]; exact hown.setCell (a := ⟨lb, 2, none⟩) hlm (.int .i32 1)
  have HKP : Hid (Kept w w1 lb mb) := by rw [hw1]; exact (Kept.refl w lb mb).setLog 2 _
  clear hw1 hown lc l2 l4 l7 lf
  have HS1 := hide hs1
  have hlt1 : lb < w1.heap.size := by omega
  have hmt1 : mb < w1.heap.size := by omega
  clear hs1
  have hal : ∀ (x : Obj) (j : Nat), (w1.alloc x).cell? ⟨lb, j, none⟩ = w1.cell? ⟨lb, j, none⟩ := fun x j => ((Below.refl w1.heap.size w1).alloc (Nat.le_refl _) x).cell (p := ⟨lb, j, none⟩) hlt1
  go_wp2_with (first
    | (at_lookup; refine wpList_lookup_known _ rfl _ _ 36 rfl 9 27 law9 Try.underlying36 ptrElem _ (zero27 _) .nil [] rfl mb n D rfl HO1.out _ _ rfl HK.out (.pointer none) (fun v ps h => ptrElem_nil (by rw [HN.out] at h; exact h)) ?_)
    | (at_mapUpdate; refine wpList_mapUpdate_own _ rfl _ _ _ 36 rfl 9 27 law9 Try.underlying36 ptrElem mb n D rfl (HO1.out.alloc _) (by unfold maxLen; omega) _ _ _ rfl rfl HK.out (.lit (.int .i64 w1.heap.size)) [] (ptrElem_mk _) ?_; intro w2 hown2 hgr2; have HF : Hid (Fresh w2 w1.heap.size s) := new_kept hgr2 hmt1; obtain ⟨d1, d2, d3, d4⟩ := HF.out.users; have b2 := (World.cell?_of_block (w := w1) (a := ⟨lb, 2, none⟩) (old_kept hgr2 hlt1 (Ne.symm hlm))).trans a2; have b4 := (World.cell?_of_block (w := w1) (a := ⟨lb, 4, none⟩) (old_kept hgr2 hlt1 (Ne.symm hlm))).trans a4; have b7 := (World.cell?_of_block (w := w1) (a := ⟨lb, 7, none⟩) (old_kept hgr2 hlt1 (Ne.symm hlm))).trans a7; have bf := (World.frozen?_of_block (w := w1) (a := ⟨lb, 2, none⟩) (old_kept hgr2 hlt1 (Ne.symm hlm))).trans af; have HO2 := hide hown2; have HG2 := hide hgr2; clear a2 a4 a7 af hal hown2 hgr2))
  have hAl : w1.heap.size ≠ lb := by omega
  have hAm : w1.heap.size ≠ mb := by omega
  refine (unlock_held muLib ⟨lb, 2, none⟩ _ ?_ ?_).mono ?_
  · exact (World.cell?_setCell_other _ ⟨w1.heap.size, 3, none⟩ ⟨lb, 2, none⟩ _ (by simp)).trans b2
  · simp [bf]
  rintro e w3 ⟨rfl, hw3⟩
  have e3 : w3.cell? ⟨w1.heap.size, 0, none⟩ = some (.int .i32 0) := by rw [hw3, World.cell?_setCell_other _ ⟨lb, 2, none⟩ _ _ (by simp), World.cell?_setCell_other _ ⟨w1.heap.size, 3, none⟩ _ _ (by simp)]; exact d3
  have e4 : w3.frozen? ⟨w1.heap.size, 0, none⟩ = false := by rw [hw3]; simp [d4]
  have HW3 := hide hw3
  clear hw3
  go_wp2_with fail
  refine (lock_free muLib ⟨w1.heap.size, 0, none⟩ _ e3 e4).mono ?_
  rintro e w4 ⟨rfl, hw4⟩
  rw [HW3.out] at hw4
  have HW4 := hide hw4
  clear hw4
  go_wp2
  go_ret
  have hw4 := HW4.out
  refine ⟨by rw [HS1.out]; rfl, ⟨?_, ?_, ?_, ?_, ?_⟩, ?_, ?_, ?_⟩
  · rw [hw4, World.cell?_setCell_other _ ⟨w1.heap.size, 0, none⟩ _ _ (by simp)]
    exact World.cell?_setCell_same _ _ _ ((World.cell?_setCell_other _ ⟨w1.heap.size, 3, none⟩ ⟨lb, 2, none⟩ _ (by simp)).trans b2)
  · rw [hw4, World.cell?_setCell_other _ ⟨w1.heap.size, 0, none⟩ _ _ (by simp), World.cell?_setCell_other _ ⟨lb, 2, none⟩ _ _ (by simp), World.cell?_setCell_other _ ⟨w1.heap.size, 3, none⟩ _ _ (by simp)]; exact b4
  · rw [hw4, World.cell?_setCell_other _ ⟨w1.heap.size, 0, none⟩ _ _ (by simp), World.cell?_setCell_other _ ⟨lb, 2, none⟩ _ _ (by simp), World.cell?_setCell_other _ ⟨w1.heap.size, 3, none⟩ _ _ (by simp)]; exact b7
  · rw [hw4]; simp [bf]
  · obtain ⟨c1, hc1⟩ := HC1.out
    have hc2 := (old_kept HG2.out hlt1 (Ne.symm hlm)).trans hc1
    rw [hw4, Below.heap_setCell _ _ _ _ (Ne.symm hAl)]
    exact ⟨_, by simp [World.setCell, Array.getElem?_modify, hc2, hAl]; rfl⟩
  · rw [← HS1.out, hw4]
    exact ((HO2.out.setCell (a := ⟨w1.heap.size, 3, none⟩) (Ne.symm hAm) _).setCell (a := ⟨lb, 2, none⟩) hlm _).setCell (a := ⟨w1.heap.size, 0, none⟩) (Ne.symm hAm) _
  · rw [← HS1.out, hw4]
    exact HF.out.held hAl _
  · rw [hw4]
    exact ((((HKP.out.alloc _).grown HG2.out).setNew ⟨w1.heap.size, 3, none⟩ (by show w.heap.size ≤ w1.heap.size; rw [HS1.out]; exact Nat.le_refl _) _).setLog 2 _).setNew ⟨w1.heap.size, 0, none⟩ (by show w.heap.size ≤ w1.heap.size; rw [HS1.out]; exact Nat.le_refl _) _

end Go.Proofs.Qxb6612644a
