import Derived.Test.Qxb6612671aPlain
import Derived.RangeFuncNested
import Derived.RangeFuncBound
import Derived.RangeFuncCalls
import Derived.RangeFuncLeaves
import Derived.RangeFuncBox
import Derived.Shelf.Abstract
import Derived.Shelf.RegionOpen
import Derived.WalkKit
import Derived.OwnWalkIn
import Derived.TacticsInMore
import Derived.LoopNIn
import Derived.LoopIn
import Derived.Maps.OwnIn
import Derived.Maps.AppendAt
namespace Go.Proofs.Qxb6612671a
open Go.RowKit Go.Shelf
attribute [local go_sem] Oper.semAt_some

theorem hide3 {p : Prop} (h : p) : Hid p := h

/-- THE MASK T LIES IN THE SLICE v, in a block below B. -/
def Mask (B : Nat) (w : World) (v : Value) (T : List Bool) : Prop :=
  (v = .slice none 0 0 ∧ T = []) ∨ ∃ g cap, v = .slice (some ⟨g, 0, none⟩) T.length cap ∧ g < B ∧ ∀ j, j < T.length → w.cell? ⟨g, j, none⟩ = some (.bool (takes T j))
theorem Mask.below {B : Nat} {w w' : World} {v : Value} {T : List Bool} (h : Mask B w v T) (hb : Below B w w') : Mask B w' v T := by
  rcases h with h | ⟨g, cap, h1, h2, h3⟩
  · exact .inl h
  · exact .inr ⟨g, cap, h1, h2, fun j hj => (hb.cell (p := ⟨g, j, none⟩) h2).trans (h3 j hj)⟩
theorem takes_out {T : List Bool} {i : Nat} (h : T.length ≤ i) : takes T i = false := by
  unfold takes; simp [List.getElem?_eq_none h]

set_option maxHeartbeats 1000000 in
/-- 's.Ops()'. -/
theorem ops_in (F : Fence) (n : Nat) (h17 : F.fn 17) (hro : F.round = none) (sb : Nat) (a : Option Addr) (len cap : Nat) (w : World) (c0 : w.cell? ⟨sb, 0, none⟩ = some (.slice a len cap)) :
    CallsIn F n Try.prog 17 #[.pointer (some ⟨sb, 0, none⟩)] w fun e w' => e = .returned (.slice a len cap) ∧ w = w' := by
  refine callsIn_of_wp Try.func17 rfl h17 ?_ hro
  simp only [Try.ntmps17, List.size_toArray, List.length_cons, List.length_nil, Nat.reduceAdd, Nat.reduceSub, Array.replicate_succ, Array.replicate_zero, List.push_toArray, List.append_toArray, List.nil_append, List.cons_append]
  gi_wp2
  go_ret
  exact ⟨rfl, rfl⟩

set_option maxHeartbeats 1000000 in
/-- The predicate that the mask gives. -/
theorem from_in (F : Fence) (n : Nat) (h15 : F.fn 15) (hro : F.round = none) (tb B i : Nat) (v : Value) (T : List Bool) (w : World) (c0 : w.cell? ⟨tb, 0, none⟩ = some v) (hm : Mask B w v T) (hT : T.length ≤ 4096) :
    CallsIn F n Try.prog 15 #[.int .i64 i, .pointer (some ⟨tb, 0, none⟩)] w fun e w' => e = .returned (.bool (takes T i)) ∧ w = w' := by
  rcases hm with ⟨rfl, rfl⟩ | ⟨g, cap, rfl, hg, hc⟩
  · have ht : takes [] i = false := takes_out (Nat.zero_le _)
    rw [ht]
    refine callsIn_of_wp Try.func15 rfl h15 ?_ hro
    simp only [Try.ntmps15, List.size_toArray, List.length_cons, List.length_nil, Nat.reduceAdd, Nat.reduceSub, Array.replicate_succ, Array.replicate_zero, List.push_toArray, List.append_toArray, List.nil_append, List.cons_append]
    gi_wp2
    go_ret
    exact ⟨rfl, rfl⟩
  · by_cases hlt : i < T.length
    · have hcell := hc i hlt
      clear hc
      have hd : decide (i < T.length) = true := by simpa using hlt
      refine callsIn_of_wp Try.func15 rfl h15 ?_ hro
      simp only [Try.ntmps15, List.size_toArray, List.length_cons, List.length_nil, Nat.reduceAdd, Nat.reduceSub, Array.replicate_succ, Array.replicate_zero, List.push_toArray, List.append_toArray, List.nil_append, List.cons_append]
      gi_wp2
      go_ret
      exact ⟨rfl, rfl⟩
    · have ht : takes T i = false := takes_out (by omega)
      rw [ht]
      clear hc
      have hd : decide (i < T.length) = false := by simp; omega
      refine callsIn_of_wp Try.func15 rfl h15 ?_ hro
      simp only [Try.ntmps15, List.size_toArray, List.length_cons, List.length_nil, Nat.reduceAdd, Nat.reduceSub, Array.replicate_succ, Array.replicate_zero, List.push_toArray, List.append_toArray, List.nil_append, List.cons_append]
      gi_wp2
      go_ret
      exact ⟨rfl, rfl⟩

set_option maxHeartbeats 1000000 in
/-- 'ReadsOfWrites(s, from)': both are boxed; the function value captures the boxes. -/
theorem reads_in (F : Fence) (n : Nat) (h14 : F.fn 14) (hro : F.round = none) (s : Option Addr) (tb : Nat) (w : World) :
    CallsIn F n Try.prog 14 #[.pointer s, .func (.func 15) #[] #[.pointer (some ⟨tb, 0, none⟩)]] w fun e w' => e = .returned (.func (.func 16) #[] #[.pointer (some ⟨w.heap.size, 0, none⟩), .pointer (some ⟨w.heap.size + 1, 0, none⟩)]) ∧
      w' = (w.alloc (.cells #[.pointer s] 34)).alloc (.cells #[.func (.func 15) #[] #[.pointer (some ⟨tb, 0, none⟩)]] 43) := by
  refine callsIn_of_wp Try.func14 rfl h14 ?_ hro
  simp only [Try.ntmps14, List.size_toArray, List.length_cons, List.length_nil, Nat.reduceAdd, Nat.reduceSub, Array.replicate_succ, Array.replicate_zero, List.push_toArray, List.append_toArray, List.nil_append, List.cons_append]
  gi_wp2
  go_ret
  exact ⟨rfl, rfl⟩


/-- WHAT THE ITERATOR's OWN MAP HOLDS BEFORE ROUND k: at each key the latest taken write before k. -/
structure Made (w : World) (O : List Op4) (T : List Bool) (mb k : Nat) (D : DataW Unit) : Prop where
  own : w.ownsMap Try.prog 55 (plainElem Try.prog 3) mb k D
  each : ∀ (s : ByteArray) (m : Int), s.size ≤ maxLen → (Lit.int .i64 m).wf = true →
    (lastW O T s m k = none ∧ Maps.has D (klit s m) = false) ∨ ∃ j : Nat, lastW O T s m k = some j ∧ Maps.has D (klit s m) = true ∧ D.atKey (klit s m) (.lit (.int .i64 0)) = .lit (.int .i64 j)

theorem klit_inj {s s' : ByteArray} {m m' : Int} (hs : s.size ≤ maxLen) (hm : (Lit.int .i64 m).wf = true) (hs' : s'.size ≤ maxLen) (hm' : (Lit.int .i64 m').wf = true) (h : klit s m = klit s' m') : s = s' ∧ m = m' := by
  have h1 := klit_key s m hs hm
  have h2 := klit_key s' m' hs' hm'
  rw [← h] at h2
  have h3 := law55.inj h1 h2
  simpa using h3

theorem Made.start (w : World) (O : List Op4) (T : List Bool) : Made (w.alloc (.map #[] 0)) O T w.heap.size 0 (.map []) :=
  ⟨World.ownsMap_made w Try.prog 55 (plainElem Try.prog 3), fun _ _ _ _ => .inl ⟨rfl, rfl⟩⟩

/-- No write at k: the map says what it said. -/
theorem Made.pass {w w' : World} {O : List Op4} {T : List Bool} {mb k : Nat} {D : DataW Unit} (h : Made w O T mb k D) (hb : w'.heap[mb]? = w.heap[mb]?) (hno : ¬ ((at4 O k).kind = 1 ∧ takes T k = true)) : Made w' O T mb (k + 1) D := by
  refine ⟨?_, fun s m hs hm => ?_⟩
  · obtain ⟨es, c, hc, r⟩ := h.own.mono (Nat.le_succ k)
    exact ⟨es, c, hb.trans hc, r⟩
  · have e : lastW O T s m (k + 1) = lastW O T s m k := by
      show (if mtc O T s m k = true then some k else lastW O T s m k) = _
      rw [if_neg]
      intro hh
      have := mtc_iff.1 hh
      exact hno ⟨this.1, this.2.2.2⟩
    rw [e]
    exact h.each s m hs hm

/-- A taken write at k. -/
theorem Made.put {w w' : World} {O : List Op4} {T : List Bool} {mb k : Nat} {D : DataW Unit} {v : ByteArray} {n : Int} (h : Made w O T mb k D) (hv : v.size ≤ maxLen) (hn : (Lit.int .i64 n).wf = true)
    (hk : (at4 O k).kind = 1) (ht : takes T k = true) (ev : (at4 O k).var = v) (en : (at4 O k).ver = n)
    (ho : w'.ownsMap Try.prog 55 (plainElem Try.prog 3) mb (k + 1) (D.put (klit v n) (.lit (.int .i64 k)))) : Made w' O T mb (k + 1) (D.put (klit v n) (.lit (.int .i64 k))) := by
  refine ⟨ho, fun s m hs hm => ?_⟩
  by_cases e : klit s m = klit v n
  · obtain ⟨rfl, rfl⟩ := klit_inj hs hm hv hn e
    refine .inr ⟨k, ?_, Maps.has_put_same h.own.isMap (law55.key (klit_key s m hs hm)) _, Maps.atKey_put_same h.own.isMap (law55.key (klit_key s m hs hm)) _ _⟩
    show (if mtc O T s m k = true then some k else lastW O T s m k) = _
    rw [if_pos (mtc_iff.2 ⟨hk, ev, en, ht⟩)]
  · rw [Maps.has_put_other e, Maps.atKey_put_other e]
    have el : lastW O T s m (k + 1) = lastW O T s m k := by
      show (if mtc O T s m k = true then some k else lastW O T s m k) = _
      rw [if_neg]
      intro hh
      have := mtc_iff.1 hh
      rw [ev, en] at this
      rw [this.2.1, this.2.2.1] at e
      exact e rfl
    rw [el]
    exact h.each s m hs hm

/-- What a round that goes on keeps. -/
def Kpt (n₀ Bf : Nat) (W W' : World) : Prop := Below n₀ W W' ∧ KeepsWalks W W' ∧ W'.heap[Bf]? = W.heap[Bf]?

theorem map_walk {w : World} {mb n : Nat} {D : DataW Unit} {k : TypeId} {R : Value → Option (DataW Unit × List MemPlace)} (h : w.ownsMap Try.prog k R mb n D) : ∃ o : Obj, w.heap[mb]? = some o ∧ o.isWalk = true := by
  obtain ⟨es, c, hc, _⟩ := h
  exact ⟨_, hc, rfl⟩
theorem map_keeps {w w' : World} {mb n : Nat} {D : DataW Unit} {k : TypeId} {R : Value → Option (DataW Unit × List MemPlace)} (h : w.ownsMap Try.prog k R mb n D) (hk : KeepsWalks w w') : w'.heap[mb]? = w.heap[mb]? := by
  obtain ⟨es, c, hc, _⟩ := h
  rw [hk.same mb _ hc rfl, hc]

/-- 'v, ok := m[k]' WHERE WHAT IS AT THE KEY IS KNOWN. -/
theorem look_known {F : Fence} {nF : Nat} (w : World) {ops : Array Oper} {rest : List Oper} {o : Oper} {a : Act} {Q : Exit → Act → World → Prop} (hg : o.guard = none) (m x : Operand) (hop : o.op = Op.lookup 52 m x true) (b n : Nat) (D : DataW Unit)
    (hm : a.eval m = .map (some b)) (hown : w.ownsMap Try.prog 55 (plainElem Try.prog 3) b n D) (key : Value) (kl : Lit) (hx : a.eval x = key) (hkey : keyOf Try.prog 55 key = some kl) (j : Int) (hj : D.atKey kl (.lit (.int .i64 0)) = .lit (.int .i64 j)) (bv : Bool) (hbv : Maps.has D kl = bv)
    (h : wpListIn F nF Try.prog ops Q rest (a.put o.dst (.tuple #[.int .i64 j, .bool bv])) w) : wpListIn F nF Try.prog ops Q (o :: rest) a w :=
  wpListIn_lookup_own_ok_int w hg m x 52 hop 55 3 .i64 law55 Try.underlying52 Try.underlying3 (Try.zeroValue3 w) b n D hm hown key kl hx hkey (fun c hat _ => by
    rw [hj] at hat
    cases hat
    rw [hbv]
    exact h)

set_option maxRecDepth 100000 in
set_option maxHeartbeats 4000000 in
/-- THE ITERATOR, FOR EVERY LOOP BODY THAT KEEPS WHAT LAY BELOW n₀ AND EVERY MAP. -/
theorem iter_in (F : Fence) (n : Nat) (h15 : F.fn 15) (h16 : F.fn 16) (h17 : F.fn 17) (hro : F.round = none) (hn : 2 ≤ n) (l Bs Bf n₀ sb tb b len cap : Nat) (O : List Op4) (T : List Bool) (tv : Value) (J Jx : List (Nat × Nat) → World → Prop)
    (hlen : len ≤ 2048) (hT : T.length ≤ 4096) (hO : Fine O) (hb : b < n₀) (hsb : sb < n₀) (htb : tb < n₀) 
    (W : World) (hBs : Bs < W.heap.size) (hBf : Bf < W.heap.size) (hn₀ : n₀ ≤ W.heap.size) (hJ : AbidesFrom W.heap.size J)
    (hY : ∀ pre x W1, J pre W1 → pre.length < len → YieldAt F (n - 1) Try.prog l #[.int .i64 (x.1 : Int), .int .i64 (x.2 : Int)] W1 fun e W' =>
      (e = .returned (.bool true) ∧ J (pre ++ [x]) W' ∧ Kpt n₀ Bf W1 W') ∨ (e = .returned (.bool false) ∧ Jx (pre ++ [x]) W'))
    (cs : W.cell? ⟨Bs, 0, none⟩ = some (.pointer (some ⟨sb, 0, none⟩))) (cf : W.cell? ⟨Bf, 0, none⟩ = some (.func (.func 15) #[] #[.pointer (some ⟨tb, 0, none⟩)]))
    (co : W.cell? ⟨sb, 0, none⟩ = some (.slice (some ⟨b, 0, none⟩) len cap)) (ct : W.cell? ⟨tb, 0, none⟩ = some tv) (hm : Mask n₀ W tv T) (hl : Lies W b 0 O len) (h0 : J [] W) :
    CallsIn F n Try.prog 16 #[.func (.yield l) #[] #[], .pointer (some ⟨Bs, 0, none⟩), .pointer (some ⟨Bf, 0, none⟩)] W fun e W' => (∃ v, e = .returned v) ∧
      ((∃ ys, ys = outs O T len ∧ J ys W') ∨ (∃ pre, Jx pre W')) := by
  have hmm := @run_makeMap Try.prog
  have HJ := hide3 hJ
  have HY := hide3 hY
  have HM := hide3 hm
  have HL := hide3 hl
  have HO := hide3 hO
  clear hJ hY hm hl hO
  have a1 : (W.alloc (.map #[] 0)).cell? ⟨Bs, 0, none⟩ = some (.pointer (some ⟨sb, 0, none⟩)) := (((Below.refl W.heap.size W).alloc (Nat.le_refl _) _).cell (p := ⟨Bs, 0, none⟩) hBs).trans cs
  have a2 : (W.alloc (.map #[] 0)).cell? ⟨sb, 0, none⟩ = some (.slice (some ⟨b, 0, none⟩) len cap) := (((Below.refl n₀ W).alloc hn₀ _).cell (p := ⟨sb, 0, none⟩) hsb).trans co
  have h1 : 1 ≤ n := by omega
  refine callsIn_of_wp Try.func16 rfl h16 ?_ hro
  simp only [Try.ntmps16, List.size_toArray, List.length_cons, List.length_nil, Nat.reduceAdd, Nat.reduceSub, Array.replicate_succ, Array.replicate_zero, List.push_toArray, List.append_toArray, List.nil_append, List.cons_append]
  gi_wp2_with (gi_at_call 17; refine (ops_in F _ h17 hro sb _ len cap _ a2).mono ?_; rintro e w' ⟨rfl, hw⟩; subst hw)
  gi_loopw [13] (fun i wr => ∃ (k : Nat) (D : DataW Unit), k ≤ len ∧ i = .int .i64 k ∧ J (outs O T k) wr ∧ Made wr O T W.heap.size k D ∧ Below n₀ W wr ∧ W.heap.size < wr.heap.size ∧ wr.heap[Bf]? = W.heap[Bf]?)
    (fun i _ => len - (intOf i).toNat)
  case atStart => exact ⟨0, .map [], Nat.zero_le _, rfl, HJ.out [] W _ none h0 (World.grownBy_alloc W _ none) (fun r e => by cases e), Made.start W O T, (Below.refl n₀ W).alloc hn₀ _, by simp, Below.heap_alloc _ _ _ hBf⟩
  case round =>
    obtain ⟨k, D, hk, rfl, hJs, hmd, hbel, hsz, hbf⟩ := hrel
    clear a1 a2
    by_cases hlt : k < len
    · obtain ⟨o, ho⟩ : ∃ o, o = at4 O k := ⟨_, rfl⟩
      obtain ⟨q1, q2, q3, q4⟩ := HL.out k hlt
      obtain ⟨hv, hn4⟩ := HO.out k
      have d1 := (hbel.cell (p := ⟨b, 0 + k * 4, none⟩) hb).trans q1
      have d2 := (hbel.cell (p := ⟨b, 0 + k * 4 + 1, none⟩) hb).trans q2
      have d3 := (hbel.cell (p := ⟨b, 0 + k * 4 + 2, none⟩) hb).trans q3
      have d4 := (hbel.cell (p := ⟨b, 0 + k * 4 + 3, none⟩) hb).trans q4
      rw [Nat.zero_add, ← ho] at d1 d2 d3 d4
      rw [← ho] at hv hn4
      have HOK := hide3 ho
      clear q1 q2 q3 q4 ho
      have e1 := (World.cell?_of_block (w := W) (a := ⟨Bf, 0, none⟩) hbf).trans cf
      have e1' : ∀ x : Obj, (wr.alloc x).cell? ⟨Bf, 0, none⟩ = some (.func (.func 15) #[] #[.pointer (some ⟨tb, 0, none⟩)]) := fun x => (((Below.refl wr.heap.size wr).alloc (Nat.le_refl _) x).cell (p := ⟨Bf, 0, none⟩) (by show Bf < _; omega)).trans e1
      have e2 := (hbel.cell (p := ⟨tb, 0, none⟩) htb).trans ct
      have HMK := hide3 (HM.out.below hbel)
      obtain ⟨w1, hw1⟩ : ∃ w1, w1 = wr.alloc (.cells #[.int .i64 o.kind, .int .i64 o.txn, .string o.var, .int .i64 o.ver] 50) := ⟨_, rfl⟩
      have g1 : wr.grownBy w1 none := by rw [hw1]; exact World.grownBy_alloc wr _ none
      have HJ1 := hide3 (HJ.out _ wr w1 none hJs g1 (fun r e => by cases e))
      have hbel1 : Below n₀ W w1 := by rw [hw1]; exact hbel.alloc (by omega) _
      have hsz1 : W.heap.size < w1.heap.size := by rw [hw1]; simp; omega
      have HMD1 : Hid (Made w1 O T W.heap.size k D) := ⟨by rw [hw1]; exact hmd.own.alloc _, hmd.each⟩
      have al : ∀ (x : Obj) (B : Nat) (j : Nat), B < n₀ → (wr.alloc x).cell? ⟨B, j, none⟩ = wr.cell? ⟨B, j, none⟩ := fun x B j hB => ((Below.refl wr.heap.size wr).alloc (Nat.le_refl _) x).cell (p := ⟨B, j, none⟩) (by show B < _; omega)
      have hbf1 : w1.heap[Bf]? = W.heap[Bf]? := by rw [hw1]; exact (Below.heap_alloc _ _ _ (by omega)).trans hbf
      have HBF1 := hide3 hbf1
      have HW1 := hide3 hw1
      clear hw1 hJs hmd g1 hbf hbf1
      have cT : (wr.alloc (.cells #[.int .i64 o.kind, .int .i64 o.txn, .string o.var, .int .i64 o.ver] 50)).cell? ⟨tb, 0, none⟩ = some tv := (al _ tb 0 htb).trans e2
      have HMA : Hid (Mask n₀ (wr.alloc (.cells #[.int .i64 o.kind, .int .i64 o.txn, .string o.var, .int .i64 o.ver] 50)) tv T) := HMK.out.below ((Below.refl n₀ wr).alloc (by omega) _)
      have HKEY := hide3 (klit_key o.var o.ver hv hn4)
      have HMDA : Hid (Made (wr.alloc (.cells #[.int .i64 o.kind, .int .i64 o.txn, .string o.var, .int .i64 o.ver] 50)) O T W.heap.size k D) := by rw [← HW1.out]; exact HMD1.out
      have HWF : Hid ((Lit.int .i64 (k : Int)).wf = true) := WalkArith.wf_i64 (by omega)
      by_cases hk1 : o.kind = 1
      · have b1 : (o.kind == 1) = true := by simp [hk1]
        have b0 : (o.kind == 0) = false := by simp [hk1]
        have HK1 := hide3 hk1
        clear hk1
        cases htk : takes T k
        · have HTK := hide3 htk
          clear htk
          gi_wp2_with (gi_at_call 15; refine (from_in F _ h15 hro tb n₀ k tv T _ cT HMA.out hT).mono ?_; rintro e w' ⟨rfl, hw⟩; subst hw; rw [HTK.out])
          go_roundw
          case rel =>
            rw [← HW1.out]
            refine ⟨k + 1, D, by omega, by go_num, ?_, HMD1.out.pass rfl (fun h => by rw [HTK.out] at h; cases h.2), hbel1, hsz1, HBF1.out⟩
            show J (outs O T k ++ yielded1 O T k) w1
            rw [yielded1_other (by rw [← HOK.out, HK1.out]; omega), List.append_nil]
            exact HJ1.out
          case measure => simp [intOf]; omega
        · have HTK := hide3 htk
          clear htk
          gi_wp2_with (first
            | (gi_at_call 15; refine (from_in F _ h15 hro tb n₀ k tv T _ cT HMA.out hT).mono ?_; rintro e w' ⟨rfl, hw⟩; subst hw; rw [HTK.out])
            | (gi_at_mapUpdate; refine wpListIn_mapUpdate_own _ rfl _ _ _ 52 rfl 55 3 law55 Try.underlying52 (plainElem Try.prog 3) W.heap.size k D rfl HMDA.out.own (by unfold maxLen; omega) _ _ _ rfl rfl HKEY.out (.lit (.int .i64 k)) [] (plainElem_int Try.underlying3 HWF.out) ?_; intro w2 ho2 hg2; have HO2 := hide3 ho2; have HG2 := hide3 hg2; clear ho2 hg2))
          go_roundw
          case rel =>
            have hg2 := HG2.out
            rw [← HW1.out] at hg2
            refine ⟨k + 1, _, by omega, by go_num, ?_, HMD1.out.put hv hn4 (by rw [← HOK.out]; exact HK1.out) HTK.out (by rw [← HOK.out]) (by rw [← HOK.out]) HO2.out, hbel1.grown hg2 (by omega) (fun r e => by cases e; exact hn₀), Nat.lt_of_lt_of_le hsz1 hg2.size, (hg2.block Bf (by omega) (by simp; omega)).trans HBF1.out⟩
            show J (outs O T k ++ yielded1 O T k) w2
            rw [yielded1_other (by rw [← HOK.out, HK1.out]; omega), List.append_nil]
            exact HJ.out _ w1 w2 (some W.heap.size) HJ1.out hg2 (fun r e => by cases e; exact ⟨Nat.le_refl _, map_walk HMD1.out.own⟩)
          case measure => simp [intOf]; omega
      · have b1 : (o.kind == 1) = false := by simp [hk1]
        have HK1 := hide3 hk1
        clear hk1
        by_cases hk0 : o.kind = 0
        · have b0 : (o.kind == 0) = true := by simp [hk0]
          have HK0 := hide3 hk0
          clear hk0
          rcases HMD1.out.each o.var o.ver hv hn4 with ⟨l1, l2⟩ | ⟨j, l1, l2, l3⟩
          · have HL1 := hide3 l1
            have HL2 := hide3 l2
            have HL3 := hide3 (Maps.atKey_of_not_has l2 (.lit (.int .i64 0)))
            clear l1 l2
            gi_wp2
            refine ⟨fun _ h => (by cases h), ?_⟩
            gi_wp2_with (gi_at_lookup; refine look_known _ rfl _ _ rfl W.heap.size k D rfl HMDA.out.own _ _ rfl HKEY.out 0 HL3.out false HL2.out ?_)
            refine ⟨fun _ h => (by cases h), ?_⟩
            gi_wp2
            go_roundw
            case rel =>
              rw [← HW1.out]
              refine ⟨k + 1, D, by omega, by go_num, ?_, HMD1.out.pass rfl (fun h => by rw [← HOK.out] at h; exact HK1.out h.1), hbel1, hsz1, HBF1.out⟩
              show J (outs O T k ++ yielded1 O T k) w1
              rw [yielded1_unseen (by rw [← HOK.out]; exact HL1.out), List.append_nil]
              exact HJ1.out
            case measure => simp [intOf]; omega
          · have HL1 := hide3 l1
            have HL2 := hide3 l2
            have HL3 := hide3 l3
            clear l1 l2 l3
            obtain ⟨fn, tmps, assign, body, hy, hR⟩ := HY.out (outs O T k) (j, k) w1 HJ1.out (Nat.lt_of_le_of_lt (outs_length O T k) hlt)
            dsimp only at hy
            rw [HW1.out] at hy hR
            have HRR := hide3 hR
            clear hR
            gi_wp2
            refine ⟨fun _ h => (by cases h), ?_⟩
            gi_wp2_with (gi_at_lookup; refine look_known _ rfl _ _ rfl W.heap.size k D rfl HMDA.out.own _ _ rfl HKEY.out j HL3.out true HL2.out ?_)
            refine HRR.out.mono ?_
            rintro e W3 (⟨rfl, hJ3, hk3, hkw3, hkf3⟩ | ⟨rfl, hJx3⟩)
            · rw [← HW1.out] at hk3 hkw3 hkf3
              have HKF3 := hide3 hkf3
              have HJ3 := hide3 hJ3
              have HK3 := hide3 hk3
              have HKW3 := hide3 hkw3
              clear hJ3 hk3 hkw3 hkf3
              gi_wp2
              go_roundw
              case rel =>
                refine ⟨k + 1, D, by omega, by go_num, ?_, HMD1.out.pass (map_keeps HMD1.out.own HKW3.out) (fun h => by rw [← HOK.out] at h; exact HK1.out h.1), hbel1.trans HK3.out, Nat.lt_of_lt_of_le hsz1 HK3.out.size, HKF3.out.trans HBF1.out⟩
                show J (outs O T k ++ yielded1 O T k) W3
                rw [yielded1_read (by rw [← HOK.out]; exact HK0.out) (by rw [← HOK.out]; exact HL1.out)]
                exact HJ3.out
              case measure => simp [intOf]; omega
            · have HJX := hide3 hJx3
              clear hJx3
              gi_wp2
              refine bodyPost_ret (results_none rfl _ _ _) rfl ?_
              exact ⟨⟨_, rfl⟩, .inr ⟨_, HJX.out⟩⟩
        · have b0 : (o.kind == 0) = false := by simp [hk0]
          have HK0 := hide3 hk0
          clear hk0
          gi_wp2
          refine ⟨fun _ h => (by cases h), ?_⟩
          gi_wp2
          go_roundw
          case rel =>
            rw [← HW1.out]
            refine ⟨k + 1, D, by omega, by go_num, ?_, HMD1.out.pass rfl (fun h => by rw [← HOK.out] at h; exact HK1.out h.1), hbel1, hsz1, HBF1.out⟩
            show J (outs O T k ++ yielded1 O T k) w1
            rw [yielded1_other (by rw [← HOK.out]; exact HK0.out), List.append_nil]
            exact HJ1.out
          case measure => simp [intOf]; omega
    · obtain rfl : k = len := by omega
      gi_wp2
      go_end0
      exact ⟨⟨_, rfl⟩, .inl ⟨_, rfl, hJs⟩⟩

set_option maxRecDepth 100000 in
set_option maxHeartbeats 2000000 in
/-- .. over no operation at all: no round. -/
theorem iter_nil_in (F : Fence) (n : Nat) (h16 : F.fn 16) (h17 : F.fn 17) (hro : F.round = none) (hn : 2 ≤ n) (l Bs Bf sb : Nat) (J : List (Nat × Nat) → World → Prop) (W : World) (hBs : Bs < W.heap.size) (hsb : sb < W.heap.size) (hJ : AbidesFrom W.heap.size J)
    (cs : W.cell? ⟨Bs, 0, none⟩ = some (.pointer (some ⟨sb, 0, none⟩))) (co : W.cell? ⟨sb, 0, none⟩ = some (.slice none 0 0)) (h0 : J [] W) :
    CallsIn F n Try.prog 16 #[.func (.yield l) #[] #[], .pointer (some ⟨Bs, 0, none⟩), .pointer (some ⟨Bf, 0, none⟩)] W fun e W' => (∃ v, e = .returned v) ∧ J [] W' := by
  have hmm := @run_makeMap Try.prog
  have HJ := hide3 (hJ [] W _ none h0 (World.grownBy_alloc W (.map #[] 0) none) (fun r e => by cases e))
  clear hJ
  have a1 : (W.alloc (.map #[] 0)).cell? ⟨Bs, 0, none⟩ = some (.pointer (some ⟨sb, 0, none⟩)) := (((Below.refl W.heap.size W).alloc (Nat.le_refl _) _).cell (p := ⟨Bs, 0, none⟩) hBs).trans cs
  have a2 : (W.alloc (.map #[] 0)).cell? ⟨sb, 0, none⟩ = some (.slice none 0 0) := (((Below.refl W.heap.size W).alloc (Nat.le_refl _) _).cell (p := ⟨sb, 0, none⟩) hsb).trans co
  have h1 : 1 ≤ n := by omega
  refine callsIn_of_wp Try.func16 rfl h16 ?_ hro
  simp only [Try.ntmps16, List.size_toArray, List.length_cons, List.length_nil, Nat.reduceAdd, Nat.reduceSub, Array.replicate_succ, Array.replicate_zero, List.push_toArray, List.append_toArray, List.nil_append, List.cons_append]
  gi_wp2_with (gi_at_call 17; refine (ops_in F _ h17 hro sb _ 0 0 _ a2).mono ?_; rintro e w' ⟨rfl, hw⟩; subst hw)
  gi_loopw [13] (fun i wr => i = .int .i64 0 ∧ J [] wr) (fun _ _ => 0)
  case atStart => exact ⟨rfl, HJ.out⟩
  case round =>
    obtain ⟨rfl, hJs⟩ := hrel
    gi_wp2
    go_end0
    exact ⟨⟨_, rfl⟩, hJs⟩

end Go.Proofs.Qxb6612671a
