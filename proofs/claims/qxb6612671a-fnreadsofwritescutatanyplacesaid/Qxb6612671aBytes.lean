import Derived.Test.Qxb6612671aReads
import Derived.Test.Qxb6612671aTw
import Derived.Test.Qxb6612671aOps
import Derived.Laws.CopyOwn
namespace Go.Proofs.Qxb6612671a
open Go.RowKit Go.Shelf

/-- THE SLICE AT oa HOLDS THE FIRST n OPERATIONS OF O; or it is nil and there are none. -/
def Src (w : World) (oa : Option Addr) (n cap : Nat) (O : List Op4) : Prop := (oa = none ∧ n = 0 ∧ cap = 0) ∨ (∃ ad, oa = some ad ∧ n = 0) ∨ ∃ b off, oa = some ⟨b, off, none⟩ ∧ b < w.heap.size ∧ Lies w b off O n
theorem Src.at {w : World} {oa : Option Addr} {n cap k : Nat} {O : List Op4} (h : Src w oa n cap O) (hk : k < n) : ∃ b off, oa = some ⟨b, off, none⟩ ∧ b < w.heap.size ∧ Lies w b off O n := by
  rcases h with h | ⟨_, _, h⟩ | h
  · omega
  · omega
  · exact h
theorem Src.below {w w' : World} {oa : Option Addr} {n cap : Nat} {O : List Op4} (h : Src w oa n cap O) (hb : Below w.heap.size w w') : Src w' oa n cap O := by
  rcases h with h | h | ⟨b, off, h1, h2, h3⟩
  · exact .inl h
  · exact .inr (.inl h)
  · exact .inr (.inr ⟨b, off, h1, Nat.lt_of_lt_of_le h2 hb.size, h3.below hb h2⟩)

/-- The first k variables are short. -/
def Short (O : List Op4) (k : Nat) : Prop := ∀ j, j < k → (at4 O j).var.size ≤ 1048576
theorem Short.step {O : List Op4} {k : Nat} {o : Op4} (h : Short O k) (ho : o = at4 O k) (hs : o.var.size ≤ 1048576) : Short O (k + 1) := fun j hj => by
  by_cases e : j < k
  · exact h j e
  · obtain rfl : j = k := by omega
    rw [← ho]; exact hs

set_option maxRecDepth 100000 in
set_option maxHeartbeats 2000000 in
theorem zz7 (oa : Option Addr) (n cap : Nat) (O : List Op4) (ta : Option Addr) (tl tc : Nat) (w : World) (hs : Src w oa n cap O) (hO : Fine O) :
    Calls Try.prog 7 #[.slice oa n cap, .slice ta tl tc] w fun e w' => ((e = .returned (.bool true) ∧ Short O n) ∨ e = .returned (.bool false)) ∧ w = w' := by
  have HS := hide3 hs
  have HO := hide3 hO
  clear hs hO
  by_cases h0 : (1048576 : Int) < (n : Int)
  · go_enter Try.func7, Try.ntmps7
    go_wp2
    go_ret
    exact ⟨.inr rfl, rfl⟩
  · have h1 : decide ((1048576 : Int) < (n : Int)) = false := by simp; omega
    go_enter Try.func7, Try.ntmps7
    go_wp2
    go_loop [5, 6] (fun t i => ∃ k m : Nat, k ≤ n ∧ i = .int .i64 k ∧ m ≤ 1048576 ∧ t = .int .i64 m ∧ Short O k) (fun _ i => n - (intOf i).toNat)
    case atStart => exact ⟨0, n, Nat.zero_le _, rfl, by omega, rfl, fun j hj => by omega⟩
    case round =>
      obtain ⟨k, m, hk, rfl, hm, rfl, hsh⟩ := hrel
      have HSH := hide3 hsh
      clear hsh
      by_cases hlt : k < n
      · obtain ⟨b, off, rfl, hb, hl⟩ := HS.out.at hlt
        obtain ⟨o, ho⟩ : ∃ o, o = at4 O k := ⟨_, rfl⟩
        obtain ⟨_, _, c3, _⟩ := hl k hlt
        have hsz := (HO.out k).1
        rw [← ho] at c3 hsz
        have HOO := hide3 ho
        clear ho hl HS HO
        unfold maxLen at hsz
        by_cases hb1 : (1048576 : Int) < (o.var.size : Int)
        · go_wp2
          go_ret
          exact ⟨.inr rfl, rfl⟩
        · by_cases hb2 : (1048576 : Int) < (m : Int) + (o.var.size : Int)
          · go_wp2
            go_ret
            exact ⟨.inr rfl, rfl⟩
          · go_wp2
            go_round
            case rel => exact ⟨k + 1, m + o.var.size, by omega, by go_num, by omega, by go_num, HSH.out.step HOO.out (by omega)⟩
            case measure => simp [intOf]; omega
      · by_cases hb1 : (1048576 : Int) < (tl : Int)
        · go_wp2
          go_ret
          exact ⟨.inr rfl, rfl⟩
        · by_cases hb2 : (1048576 : Int) < (m : Int) + (tl : Int)
          · go_wp2
            go_ret
            exact ⟨.inr rfl, rfl⟩
          · go_wp2
            go_ret
            obtain rfl : k = n := by omega
            exact ⟨.inl ⟨rfl, HSH.out⟩, rfl⟩

set_option maxRecDepth 100000 in
set_option maxHeartbeats 2000000 in
theorem zz12 (oa : Option Addr) (n cap : Nat) (O : List Op4) (ta : Option Addr) (tl tc : Nat) (x : Int) (w : World) (hs : Src w oa n cap O) (hO : Fine O) :
    Calls Try.prog 12 #[.slice oa n cap, .slice ta tl tc, .int .i64 x] w fun e w' => ((e = .returned (.bool true) ∧ Short O n) ∨ e = .returned (.bool false)) ∧ w = w' := by
  have HS := hide3 hs
  have HO := hide3 hO
  clear hs hO
  by_cases h0 : (1048576 : Int) < (n : Int)
  · go_enter Try.func12, Try.ntmps12
    go_wp2
    go_ret
    exact ⟨.inr rfl, rfl⟩
  · have h1 : decide ((1048576 : Int) < (n : Int)) = false := by simp; omega
    go_enter Try.func12, Try.ntmps12
    go_wp2
    go_loop [7, 8] (fun t i => ∃ k m : Nat, k ≤ n ∧ i = .int .i64 k ∧ m ≤ 1048576 ∧ t = .int .i64 m ∧ Short O k) (fun _ i => n - (intOf i).toNat)
    case atStart => exact ⟨0, n, Nat.zero_le _, rfl, by omega, rfl, fun j hj => by omega⟩
    case round =>
      obtain ⟨k, m, hk, rfl, hm, rfl, hsh⟩ := hrel
      have HSH := hide3 hsh
      clear hsh
      by_cases hlt : k < n
      · obtain ⟨b, off, rfl, hb, hl⟩ := HS.out.at hlt
        obtain ⟨o, ho⟩ : ∃ o, o = at4 O k := ⟨_, rfl⟩
        obtain ⟨_, _, c3, _⟩ := hl k hlt
        have hsz := (HO.out k).1
        rw [← ho] at c3 hsz
        have HOO := hide3 ho
        clear ho hl HS HO
        unfold maxLen at hsz
        by_cases hb1 : (1048576 : Int) < (o.var.size : Int)
        · go_wp2
          go_ret
          exact ⟨.inr rfl, rfl⟩
        · by_cases hb2 : (1048576 : Int) < (m : Int) + (o.var.size : Int)
          · go_wp2
            go_ret
            exact ⟨.inr rfl, rfl⟩
          · go_wp2
            go_round
            case rel => exact ⟨k + 1, m + o.var.size, by omega, by go_num, by omega, by go_num, HSH.out.step HOO.out (by omega)⟩
            case measure => simp [intOf]; omega
      · by_cases hb1 : (1048576 : Int) < (tl : Int)
        · go_wp2
          go_ret
          exact ⟨.inr rfl, rfl⟩
        · by_cases hb2 : (1048576 : Int) < (m : Int) + (tl : Int)
          · go_wp2
            go_ret
            exact ⟨.inr rfl, rfl⟩
          · go_wp2
            go_ret
            obtain rfl : k = n := by omega
            exact ⟨.inl ⟨rfl, HSH.out⟩, rfl⟩

set_option maxHeartbeats 1000000 in
theorem toOps_empty (ad : Addr) (cap : Nat) (w : World) :
    Calls Try.prog 10 #[.slice (some ad) 0 cap] w fun e w' => e = .returned (.slice (some ⟨w.heap.size, 0, none⟩) 0 0) ∧ Below w.heap.size w w' ∧ w.heap.size < w'.heap.size := by
  have hne := fun w => Lib.run_eql_slice_nil (P := Try.prog) w 26 30 (some ad) 0 cap 0 0 Try.underlying26
  obtain ⟨i0, hi, hz0, hz1, hz2⟩ := info_parts info50
  go_enter Try.func10, Try.ntmps10
  go_wp2_with (at_make; refine wpList_make_full _ rfl _ _ 36 rfl w.heap.size 50 i0 (.agg #[.int .i64 0, .int .i64 0, .string ByteArray.empty, .int .i64 0]) 4 Try.underlying36 hi hz0 hz1 _ _ _ _ 0 rfl rfl rfl rfl (by rw [hz2]; omega) (by unfold maxLen; omega) (Nat.le_refl _) ?_; intro w1 hown hgr)
  have hlt : w.heap.size < w1.heap.size := by
    rcases hown.2 with ⟨h2, _⟩ | ⟨g, cp, cur, hv, _, hh, _⟩
    · cases h2
    · cases hv
      exact (Array.getElem?_eq_some_iff.1 hh).1
  have hB1 := (Below.refl w.heap.size w).grown hgr (Nat.le_refl _) (fun k e => by cases e)
  clear hown hgr
  refine wp_loop_rounds 1 ?_
  rw [rounds_succ]
  go_wp2
  go_ret
  exact ⟨rfl, hB1, hlt⟩

/-- 'toOps', whatever the slice. -/
theorem toOps_any (oa : Option Addr) (n cap : Nat) (O : List Op4) (w : World) (hs : Src w oa n cap O) (hn : n ≤ 2048) :
    Calls Try.prog 10 #[.slice oa n cap] w fun e w' => ∃ oa' cap', e = .returned (.slice oa' n cap') ∧ OpsAt w'.heap.size w' (.slice oa' n cap') O n ∧ Below w.heap.size w w' := by
  rcases hs with ⟨rfl, rfl, rfl⟩ | ⟨ad, rfl, rfl⟩ | ⟨b, off, rfl, h2, h3⟩
  · refine (toOps_nil w).mono ?_
    rintro e w' ⟨rfl, rfl⟩
    exact ⟨_, _, rfl, .inr ⟨rfl, rfl⟩, Below.refl _ _⟩
  · refine (toOps_empty ad cap w).mono ?_
    rintro e w' ⟨rfl, h5, h6⟩
    exact ⟨_, _, rfl, .inl ⟨_, _, rfl, h6, fun j hj => by omega⟩, h5⟩
  · refine (toOps_some b off n cap O w h3 h2 hn).mono ?_
    rintro e w' ⟨rfl, h4, h5, h6⟩
    exact ⟨_, _, rfl, .inl ⟨_, _, rfl, h6, h4⟩, h5⟩

theorem OpsAt.grow {B B' : Nat} {w : World} {ov : Value} {O : List Op4} {len : Nat} (h : OpsAt B w ov O len) (hB : B ≤ B') : OpsAt B' w ov O len := by
  rcases h with ⟨b, cap, h1, h2, h3⟩ | h
  · exact .inl ⟨b, cap, h1, by omega, h3⟩
  · exact .inr h
theorem Mask.grow {B B' : Nat} {w : World} {v : Value} {T : List Bool} (h : Mask B w v T) (hB : B ≤ B') : Mask B' w v T := by
  rcases h with h | ⟨g, cap, h1, h2, h3⟩
  · exact .inl h
  · exact .inr ⟨g, cap, h1, by omega, h3⟩

/-- WHAT A CALL OF zzReads GIVES: a slice that holds xs, in a block below B. -/
def Row (B : Nat) (w : World) (a : Option Addr) (n : Nat) (xs : List Nat) : Prop := xs.length = n ∧ (n = 0 ∨ ∃ g, a = some ⟨g, 0, none⟩ ∧ g < B ∧ ∀ j, j < n → w.cell? ⟨g, j, none⟩ = some (.int .i64 ((xs.getD j 0 : Nat) : Int)))
theorem Row.of {w : World} {n₀ n : Nat} {v : Value} {xs : List Nat} (h : w.ownsRow n₀ 3 1 v n (ints xs)) : ∃ a cap, v = .slice a n cap ∧ Row w.heap.size w a n xs := by
  have hl : xs.length = n := by have := h.1; rw [ints_length] at this; omega
  rcases h.2 with ⟨rfl, rfl⟩ | ⟨g, cap, cur, rfl, _, hg, _⟩
  · exact ⟨none, 0, rfl, hl, .inl rfl⟩
  · refine ⟨_, _, rfl, hl, .inr ⟨g, rfl, (Array.getElem?_eq_some_iff.1 hg).1, fun j hj => ?_⟩⟩
    rw [h.cellAt j (by omega)]
    unfold ints
    rw [List.getElem?_map, List.getElem?_eq_getElem (by omega)]
    simp [List.getElem?_eq_getElem (show j < xs.length by omega)]
theorem Row.below {B : Nat} {w w' : World} {a : Option Addr} {n : Nat} {xs : List Nat} (h : Row B w a n xs) (hb : Below B w w') : Row B w' a n xs := by
  rcases h with ⟨h0, h | ⟨g, h1, h2, h3⟩⟩
  · exact ⟨h0, .inl h⟩
  · exact ⟨h0, .inr ⟨g, h1, h2, fun j hj => (hb.cell (p := ⟨g, j, none⟩) h2).trans (h3 j hj)⟩⟩
theorem Row.grow {B B' : Nat} {w : World} {a : Option Addr} {n : Nat} {xs : List Nat} (h : Row B w a n xs) (hB : B ≤ B') : Row B' w a n xs := by
  rcases h with ⟨h0, h | ⟨g, h1, h2, h3⟩⟩
  · exact ⟨h0, .inl h⟩
  · exact ⟨h0, .inr ⟨g, h1, by omega, h3⟩⟩
theorem Row.at {B : Nat} {w : World} {a : Option Addr} {n : Nat} {xs : List Nat} (h : Row B w a n xs) (k x : Nat) (hk : xs[k]? = some x) : k < n ∧ ∃ g, a = some ⟨g, 0, none⟩ ∧ w.cell? ⟨g, k, none⟩ = some (.int .i64 (x : Int)) := by
  have hlt := (List.getElem?_eq_some_iff.1 hk).1
  have h0 := h.1
  rcases h.2 with h | ⟨g, h1, h2, h3⟩
  · omega
  · refine ⟨by omega, g, h1, ?_⟩
    rw [h3 k (by omega), List.getD_eq_getElem?_getD, hk]; rfl

/-! ### the copy of the mask -/
theorem row_of_owns {w : World} {base e g n m : Nat} {xs : List Value} (h : w.ownsRow base e 1 (.slice (some ⟨g, 0, none⟩) n m) n xs) :
    ∃ cur : List Value, cur.length = m ∧ w.heap[g]? = some (.cells cur.toArray e (0, 0)) := by
  rcases h.2 with ⟨h2, _⟩ | ⟨g', cap, cur, hv, _, hh, _, _, hs, _⟩
  · cases h2
  · cases hv
    exact ⟨cur.toList, by simpa using hs, by simpa using hh⟩
theorem splice_whole (cur cs : List Value) (h : cs.length = cur.length) : splice cur 0 cs = cs := by
  simp [splice, h]
theorem copied_mask {w : World} {g : Nat} {T : List Bool} (hg : w.heap[g]? = some (.cells (T.map Value.bool).toArray 4 (0, 0))) (j : Nat) (hj : j < T.length) :
    w.cell? ⟨g, j, none⟩ = some (.bool (takes T j)) := by
  simp [World.cell?, hg, takes, List.getElem?_eq_getElem hj]
theorem bools_oneCell (T : List Bool) : ∀ u ∈ T.map Value.bool, u.oneCell' = true := by
  intro u hu
  obtain ⟨b, _, rfl⟩ := List.mem_map.1 hu
  rfl
theorem source_kept {w w1 : World} {ad : Addr} {T : List Bool} {X : List Value} (hgr : w.grownBy w1 none) (hX : Hid (X = T.map Value.bool))
    (hc : ∀ j, j < T.length → w.cell? (ad.add j) = some (.bool (takes T j))) (j : Nat) (v : Value) (hj : X[j]? = some v) : w1.cell? (ad.add j) = some v := by
  rw [hX.out] at hj
  have hlt : j < T.length := by
    have := (List.getElem?_eq_some_iff.1 hj).1
    simpa using this
  have h1 := hc j hlt
  have h2 := block_lt_of_cell h1
  rw [World.cell?_of_block (w := w) (hgr.block _ h2 (by simp)), h1]
  rw [List.getElem?_map, List.getElem?_eq_getElem hlt] at hj
  simp at hj
  rw [← hj]
  simp [takes, List.getElem?_eq_getElem hlt]
theorem size4 : (Try.prog.info? 4).map (·.size) = some 1 := by kernel_rfl
theorem info4 : (Try.prog.info? 4).map (fun i => (i.zero, i.size, i.bytes)) = some (some (.bool false), 1, 1) := by kernel_rfl

/-! ### the plain law -/
theorem outs_le {O : List Op4} {T : List Bool} {i n : Nat} (h : i ≤ n) : ∃ r, outs O T n = outs O T i ++ r := by
  induction n with
  | zero => obtain rfl : i = 0 := by omega
            exact ⟨[], by simp⟩
  | succ n ih =>
    by_cases e : i = n + 1
    · subst e; exact ⟨[], by simp⟩
    · obtain ⟨r, hr⟩ := ih (by omega)
      exact ⟨r ++ yielded1 O T n, by show outs O T n ++ _ = _; rw [hr, List.append_assoc]⟩
theorem outs_at {O : List Op4} {T : List Bool} {i n j : Nat} (h : i < n) (hk : (at4 O i).kind = 0) (hw : lastW O T (at4 O i).var (at4 O i).ver i = some j) :
    ((outs O T n).map (·.1))[(outs O T i).length]? = some j ∧ ((outs O T n).map (·.2))[(outs O T i).length]? = some i ∧ (outs O T (i + 1)).length = (outs O T i).length + 1 := by
  obtain ⟨r, hr⟩ := outs_le (O := O) (T := T) (show i + 1 ≤ n from h)
  have e : outs O T (i + 1) = outs O T i ++ [(j, i)] := by show outs O T i ++ yielded1 O T i = _; rw [yielded1_read hk hw]
  rw [hr, e]
  simp
theorem outs_skip {O : List Op4} {T : List Bool} {i : Nat} (h : yielded1 O T i = []) : (outs O T (i + 1)).length = (outs O T i).length := by
  show (outs O T i ++ yielded1 O T i).length = _
  rw [h]; simp

end Go.Proofs.Qxb6612671a
