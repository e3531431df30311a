import Derived.Test.Qxb6612671aIter
import Derived.Deep.QuietTactic
import Derived.BigQuiet
import Derived.WalkSmall
namespace Go.Proofs.Qxb6612671a
open Go.RowKit Go.Shelf
attribute [local go_sem] Oper.semAt_some

theorem info3 : (Try.prog.info? 3).map (fun i => (i.zero, i.size, i.bytes)) = some (some (.int .i64 0), 1, 8) := by kernel_rfl

/-- The numbers as values. -/
def ints (xs : List Nat) : List Value := xs.map fun (x : Nat) => Value.int .i64 (x : Int)
theorem ints_snoc (xs : List Nat) (x : Nat) : ints (xs ++ [x]) = ints xs ++ [.int .i64 x] := by simp [ints]
theorem ints_length (xs : List Nat) : (ints xs).length = xs.length := by simp [ints]

/-- No row is shared. -/
def Apart (v u : Value) : Prop := ∀ g, v.ownBlock = some g → u.ownBlock = some g → False

/-- TWO VARIABLES' BOXES HOLD SLICES THAT OWN xs AND ys, in rows apart; the box of the predicate lies as it lay. -/
def Two (n₀ B1 B2 Bf : Nat) (fv : Value) (xs ys : List Nat) (W : World) : Prop :=
  ∃ v u, Boxed W B1 31 v ∧ Boxed W B2 31 u ∧ Boxed W Bf 43 fv ∧ W.ownsRow n₀ 3 1 v xs.length (ints xs) ∧ W.ownsRow n₀ 3 1 u ys.length (ints ys) ∧ Apart v u
theorem Two.swap {n₀ B1 B2 Bf : Nat} {fv : Value} {xs ys : List Nat} {W : World} (h : Two n₀ B1 B2 Bf fv xs ys W) : Two n₀ B2 B1 Bf fv ys xs W := by
  obtain ⟨v, u, h1, h2, h3, h4, h5, h6⟩ := h
  exact ⟨u, v, h2, h1, h3, h5, h4, fun g a b => h6 g b a⟩

theorem own_kept {W W' : World} {row : Option Nat} {n₀ : Nat} {v : Value} {k : Nat} {xs : List Value} (h : W.ownsRow n₀ 3 1 v k xs) (hg : W.grownBy W' row) (hr : ∀ r, row = some r → ∃ o : Obj, W.heap[r]? = some o ∧ o.isCells = false) : W'.ownsRow n₀ 3 1 v k xs := by
  refine h.kept hg ?_
  rcases h.2 with ⟨rfl, _⟩ | ⟨g, cap, cur, rfl, _, hgb, _⟩
  · exact .inl rfl
  · refine .inr fun e' => ?_
    obtain ⟨o, ho, hc⟩ := hr g (by simpa [Value.ownBlock] using e'.symm)
    rw [hgb] at ho; cases ho; cases hc
theorem boxed_kept {W W' : World} {row : Option Nat} {B : Nat} {t : TypeId} {v : Value} (h : Boxed W B t v) (hg : W.grownBy W' row) (hr : ∀ r, row = some r → ∃ o : Obj, W.heap[r]? = some o ∧ o.isCells = false) : Boxed W' B t v := by
  refine h.kept hg (fun e' => ?_)
  obtain ⟨o, ho, hc⟩ := hr B e'.symm
  rw [show W.heap[B]? = _ from h] at ho; cases ho; cases hc
theorem Two.own (n₀ B1 B2 Bf : Nat) (fv : Value) (f g : List (Nat × Nat) → List Nat) : Own (fun pre W => Two n₀ B1 B2 Bf fv (f pre) (g pre) W) := by
  rintro s X Y row ⟨v, u, h1, h2, h3, h4, h5, h6⟩ hg hr
  exact ⟨v, u, boxed_kept h1 hg hr, boxed_kept h2 hg hr, boxed_kept h3 hg hr, own_kept h4 hg hr, own_kept h5 hg hr, h6⟩

theorem row_lt {W : World} {n₀ : Nat} {v : Value} {k : Nat} {xs : List Value} (h : W.ownsRow n₀ 3 1 v k xs) (g : Nat) (hg : v.ownBlock = some g) : g < W.heap.size := (h.lt g hg).2

/-- WHAT ONE append TO THE FIRST OF THEM LEAVES. -/
theorem pushed {n₀ B1 B2 Bf : Nat} {fv v u v' : Value} {W w1 : World} {tmp : Obj} {xs ys zs : List Value} {k m l : Nat} (hne1 : B1 ≠ B2) (hne2 : B1 ≠ Bf)
    (h1 : Boxed W B1 31 v) (h2 : Boxed W B2 31 u) (h3 : Boxed W Bf 43 fv) (h4 : W.ownsRow n₀ 3 1 v k xs) (h5 : W.ownsRow n₀ 3 1 u l ys) (h6 : Apart v u) (hn : n₀ ≤ W.heap.size) (hB : n₀ ≤ B1)
    (hown' : w1.ownsRow n₀ 3 1 v' m zs) (hgrow : (W.alloc tmp).grownBy w1 v.ownBlock) (hat : v'.ownBlock = v.ownBlock ∨ v'.ownBlock = some (W.alloc tmp).heap.size) :
    Boxed w1 B1 31 v ∧ Boxed (w1.setCell ⟨B1, 0, none⟩ v') B1 31 v' ∧ Boxed (w1.setCell ⟨B1, 0, none⟩ v') B2 31 u ∧ Boxed (w1.setCell ⟨B1, 0, none⟩ v') Bf 43 fv ∧
      (w1.setCell ⟨B1, 0, none⟩ v').ownsRow n₀ 3 1 v' m zs ∧ (w1.setCell ⟨B1, 0, none⟩ v').ownsRow n₀ 3 1 u l ys ∧ Apart v' u ∧ KeepsOthers W (w1.setCell ⟨B1, 0, none⟩ v') ∧ Below n₀ W (w1.setCell ⟨B1, 0, none⟩ v') := by
  obtain ⟨g1, g2, g3, g4, g5⟩ := h1.appended (by decide) h4 hn hB hown' hgrow
  have u1 : w1.ownsRow n₀ 3 1 u l ys := by
    refine (h5.alloc tmp).kept hgrow ?_
    cases hu : u.ownBlock with
    | none => exact .inl rfl
    | some g => exact .inr (fun e => h6 g e.symm hu)
  have b2 : Boxed w1 B2 31 u := (h2.alloc tmp).kept hgrow (h2.not_row (by decide) h4)
  have b3 : Boxed w1 Bf 43 fv := (h3.alloc tmp).kept hgrow (h3.not_row (by decide) h4)
  refine ⟨g1, g2, b2.kept (grownBy_setCell' w1 B1 v') (by simp; omega), b3.kept (grownBy_setCell' w1 B1 v') (by simp; omega), g3, u1.kept (grownBy_setCell' w1 B1 v') (.inr (g1.not_row (by decide) u1).symm), ?_, g4, g5⟩
  intro g hg hu
  rcases hat with e | e
  · exact h6 g (e.symm.trans hg) hu
  · rw [e] at hg
    have := row_lt h5 g hu
    simp at hg
    omega

theorem cell_one_new_set (w : World) (a : Addr) (x u : Value) (t : TypeId) : ∀ (j : Nat) (y : Value), [u][j]? = some y → ((w.setCell a x).alloc (.cells #[u] t)).cell? ((⟨w.heap.size, 0, none⟩ : Addr).add j) = some y := by
  have h := cell_one_new (w.setCell a x) u t
  have e : (w.setCell a x).heap.size = w.heap.size := by simp
  rw [e] at h
  exact h

theorem walks_of_others {W W' : World} (h : KeepsOthers W W') : KeepsWalks W W' := ⟨h.size, fun k o hk ho => h.same k o hk (Obj.not_cells_of_walk ho)⟩

theorem kpt_t {n₀ Bf : Nat} {A B C : World} (h : Kpt n₀ Bf A B) (k : Kpt n₀ Bf B C) : Kpt n₀ Bf A C := ⟨h.1.trans k.1, h.2.1.trans k.2.1, k.2.2.trans h.2.2⟩
theorem kpt_b {n₀ Bf : Nat} {w : World} (hn : n₀ ≤ w.heap.size) (hBf : Bf < w.heap.size) (W : World) (l : Nat) (o o' : Obj) (hl : w.heap.size ≤ l) (h : W.heap[l]? = some o) (hc : o.isCells = false) (hw : o.isWalk = false) : Kpt n₀ Bf W (W.putObj l o') :=
  ⟨belowK_b hn W l o o' hl h hc hw, walksK_b W l o o' hl h hc hw, World.putObj_heap_other (by omega)⟩

/-- THE SLICE ov HOLDS THE FIRST len OPERATIONS OF O, in a block below B; or it is nil and there are none. -/
def OpsAt (B : Nat) (w : World) (ov : Value) (O : List Op4) (len : Nat) : Prop := (∃ b cap, ov = .slice (some ⟨b, 0, none⟩) len cap ∧ b < B ∧ Lies w b 0 O len) ∨ (ov = .slice none 0 0 ∧ len = 0)
theorem OpsAt.below {B : Nat} {w W : World} {ov : Value} {O : List Op4} {len : Nat} (h : OpsAt B w ov O len) (hW : Below B w W) : OpsAt B W ov O len := by
  rcases h with ⟨b, cap, h1, h2, h3⟩ | h
  · refine .inl ⟨b, cap, h1, h2, fun j hj => ?_⟩
    obtain ⟨q1, q2, q3, q4⟩ := h3 j hj
    exact ⟨(hW.cell (p := ⟨b, 0 + j * 4, none⟩) h2).trans q1, (hW.cell (p := ⟨b, 0 + j * 4 + 1, none⟩) h2).trans q2, (hW.cell (p := ⟨b, 0 + j * 4 + 2, none⟩) h2).trans q3, (hW.cell (p := ⟨b, 0 + j * 4 + 3, none⟩) h2).trans q4⟩
  · exact .inr h

/-- THE ITERATOR AS THE LAW ON LOOPS TAKES IT. -/
theorem iter_stops (F : Fence) (n : Nat) (h15 : F.fn 15) (h16 : F.fn 16) (h17 : F.fn 17) (hro : F.round = none) (hn : 2 ≤ n) (Bs Bf n₀ sb tb len : Nat) (ov : Value) (O : List Op4) (T : List Bool) (tv : Value) (w : World)
    (hlen : len ≤ 2048) (hT : T.length ≤ 4096) (hO : Fine O) (hsb : sb < n₀) (htb : tb < n₀) (hBs : Bs < w.heap.size) (hBf : Bf < w.heap.size) (hn₀ : n₀ ≤ w.heap.size)
    (cs : w.cell? ⟨Bs, 0, none⟩ = some (.pointer (some ⟨sb, 0, none⟩))) (cf : w.cell? ⟨Bf, 0, none⟩ = some (.func (.func 15) #[] #[.pointer (some ⟨tb, 0, none⟩)]))
    (co : w.cell? ⟨sb, 0, none⟩ = some ov) (ct : w.cell? ⟨tb, 0, none⟩ = some tv) (hm : Mask n₀ w tv T) (hl : OpsAt n₀ w ov O len) :
    SeqStopsK F n Try.prog 16 #[.pointer (some ⟨Bs, 0, none⟩), .pointer (some ⟨Bf, 0, none⟩)] (fun x : Nat × Nat => #[Value.int .i64 (x.1 : Int), Value.int .i64 (x.2 : Int)]) (Kpt n₀ Bf) (fun ys => ys = outs O T len) (fun _ => True) len w := fun l J Jx W hW hJ _ hY h0 => by
  have hsz := hW.size
  rcases hl.below (hW.mono hn₀) with ⟨b, cap, rfl, hb, hlie⟩ | ⟨rfl, rfl⟩
  · refine (iter_in F n h15 h16 h17 hro hn l Bs Bf n₀ sb tb b len cap O T tv J Jx hlen hT hO hb hsb htb W (by omega) (by omega) (by omega) hJ hY ((hW.cell (p := ⟨Bs, 0, none⟩) hBs).trans cs) ((hW.cell (p := ⟨Bf, 0, none⟩) hBf).trans cf)
      ((hW.cell (p := ⟨sb, 0, none⟩) (by show sb < _; omega)).trans co) ((hW.cell (p := ⟨tb, 0, none⟩) (by show tb < _; omega)).trans ct) (hm.below (hW.mono hn₀)) hlie h0).mono ?_
    rintro e W' ⟨he, ⟨ys, hy, hj⟩ | ⟨pre, hj⟩⟩
    · exact ⟨he, .inl ⟨ys, hy, hj⟩⟩
    · exact ⟨he, .inr ⟨pre, trivial, hj⟩⟩
  · refine (iter_nil_in F n h16 h17 hro hn l Bs Bf sb J W (by omega) (by omega) hJ ((hW.cell (p := ⟨Bs, 0, none⟩) hBs).trans cs) ((hW.cell (p := ⟨sb, 0, none⟩) (by show sb < _; omega)).trans co) h0).mono ?_
    rintro e W' ⟨he, hj⟩
    exact ⟨he, .inl ⟨_, rfl, hj⟩⟩

set_option maxRecDepth 100000 in
set_option maxHeartbeats 4000000 in
/-- 'ZZReadsOfWrites(s, take)': two slices of the call's own, the writes and the reads of what ReadsOfWrites yields. -/
theorem zzReads_in (F : Fence) (n : Nat) (h8 : F.fn 8) (h14 : F.fn 14) (h15 : F.fn 15) (h16 : F.fn 16) (h17 : F.fn 17) (hro : F.round = none) (hn : 4 ≤ n) (sb len : Nat) (ov : Value) (O : List Op4) (T : List Bool) (ta : Option Addr) (tl tc : Nat) (w : World)
    (hlen : len ≤ 2048) (hT : T.length ≤ 4096) (hO : Fine O) (hsb : sb < w.heap.size)
    (co : w.cell? ⟨sb, 0, none⟩ = some ov) (hm : Mask w.heap.size w (.slice ta tl tc) T) (hl : OpsAt w.heap.size w ov O len) :
    CallsIn F n Try.prog 8 #[.pointer (some ⟨sb, 0, none⟩), .slice ta tl tc] w fun e W' => ∃ v u, e = .returned (.tuple #[v, u]) ∧
      W'.ownsRow (w.heap.size + 1) 3 1 v (outs O T len).length (ints ((outs O T len).map (·.1))) ∧ W'.ownsRow (w.heap.size + 1) 3 1 u (outs O T len).length (ints ((outs O T len).map (·.2))) ∧ Below w.heap.size w W' := by
  have h1 : 1 ≤ n := by omega
  obtain ⟨i0, hi, hz0, hz1, hz2⟩ := info_parts info3
  have HM := hide3 hm
  have HL := hide3 hl
  have HO := hide3 hO
  clear hm hl hO
  refine callsIn_of_wp_marks Try.func8 rfl h8 ?_ hro
  simp only [Try.ntmps8, List.size_toArray, List.length_cons, List.length_nil, Nat.reduceAdd, Nat.reduceSub, Array.replicate_succ, Array.replicate_zero, List.push_toArray, List.append_toArray, List.nil_append, List.cons_append]
  gi_wp2_with (gi_at_call 14; refine (reads_in F (n - 1) h14 hro _ _ _).mono ?_; rintro e w' ⟨rfl, rfl⟩)
  obtain ⟨W0, hW0⟩ : ∃ W0, W0 = (((((w.alloc (Obj.cells #[Value.slice ta tl tc] 27)).alloc (Obj.cells #[Value.slice none 0 0] 31)).alloc (Obj.cells #[Value.slice none 0 0] 31)).alloc (Obj.cells #[Value.pointer (some { block := sb, off := 0 })] 34)).alloc (Obj.cells #[Value.func (Fn.func 15) #[] #[Value.pointer (some { block := w.heap.size, off := 0 })]] 43)) := ⟨_, rfl⟩
  rw [← hW0]
  have z0 : W0.heap.size = w.heap.size + 5 := by rw [hW0]; simp
  have bT : Boxed W0 w.heap.size 27 (.slice ta tl tc) := by rw [hW0]; exact ((((Boxed.new w 27 (.slice ta tl tc)).alloc _).alloc _).alloc _).alloc _
  have bV : Boxed W0 (w.heap.size + 1) 31 (.slice none 0 0) := by
    rw [hW0]
    have := Boxed.new (w.alloc (Obj.cells #[Value.slice ta tl tc] 27)) 31 (.slice none 0 0)
    rw [World.size_alloc] at this
    exact ((this.alloc _).alloc _).alloc _
  have bU : Boxed W0 (w.heap.size + 1 + 1) 31 (.slice none 0 0) := by
    rw [hW0]
    have := Boxed.new ((w.alloc (Obj.cells #[Value.slice ta tl tc] 27)).alloc (Obj.cells #[Value.slice none 0 0] 31)) 31 (.slice none 0 0)
    rw [World.size_alloc, World.size_alloc] at this
    exact (this.alloc _).alloc _
  have bS : Boxed W0 (w.heap.size + 1 + 1 + 1) 34 (.pointer (some ⟨sb, 0, none⟩)) := by
    rw [hW0]
    have := Boxed.new (((w.alloc (Obj.cells #[Value.slice ta tl tc] 27)).alloc (Obj.cells #[Value.slice none 0 0] 31)).alloc (Obj.cells #[Value.slice none 0 0] 31)) 34 (.pointer (some ⟨sb, 0, none⟩))
    rw [World.size_alloc, World.size_alloc, World.size_alloc] at this
    exact this.alloc _
  have bF : Boxed W0 (w.heap.size + 1 + 1 + 1 + 1) 43 (Value.func (Fn.func 15) #[] #[Value.pointer (some { block := w.heap.size, off := 0 })]) := by
    rw [hW0]
    have := Boxed.new ((((w.alloc (Obj.cells #[Value.slice ta tl tc] 27)).alloc (Obj.cells #[Value.slice none 0 0] 31)).alloc (Obj.cells #[Value.slice none 0 0] 31)).alloc (Obj.cells #[Value.pointer (some { block := sb, off := 0 })] 34)) 43 (Value.func (Fn.func 15) #[] #[Value.pointer (some { block := w.heap.size, off := 0 })])
    rw [World.size_alloc, World.size_alloc, World.size_alloc, World.size_alloc] at this
    exact this
  have hB0 : Below w.heap.size w W0 := by rw [hW0]; exact (((((Below.refl _ w).alloc (Nat.le_refl _) _).alloc (by simp) _).alloc (by simp; omega) _).alloc (by simp; omega) _).alloc (by simp; omega) _
  clear hW0
  have cS := (hB0.cell (p := ⟨sb, 0, none⟩) hsb).trans co
  have hM0 : Mask (w.heap.size + 1) W0 (.slice ta tl tc) T := by
    rcases HM.out.below hB0 with h | ⟨g, cp, e1, e2, e3⟩
    · exact .inl h
    · exact .inr ⟨g, cp, e1, by omega, e3⟩
  have hL0 : OpsAt (w.heap.size + 1) W0 ov O len := by
    rcases HL.out.below hB0 with ⟨b, cap, h1, h2, h3⟩ | h
    · exact .inl ⟨b, cap, h1, by omega, h3⟩
    · exact .inr h
  refine wpIn_rangeFunc_ownG hro h1 (gf := 16) (lb := #[.pointer (some ⟨w.heap.size + 1 + 1 + 1, 0, none⟩), .pointer (some ⟨w.heap.size + 1 + 1 + 1 + 1, 0, none⟩)]) rfl h16 (enters_of Try.func16 (by kernel_rfl) rfl)
    (iter_stops F (n - 1) h15 h16 h17 hro (by omega) (w.heap.size + 1 + 1 + 1) (w.heap.size + 1 + 1 + 1 + 1) (w.heap.size + 1) sb w.heap.size len ov O T (.slice ta tl tc) W0 hlen hT HO.out (by omega) (by omega) (by omega) (by omega) (by omega) bS.cell bF.cell cS bT.cell hM0 hL0)
    kpt_t (kpt_b (by omega) (by omega)) (Below.refl _ _) (fun _ => rfl)
    (fun pre W => Two (w.heap.size + 1) (w.heap.size + 1) (w.heap.size + 1 + 1) (w.heap.size + 1 + 1 + 1 + 1) (Value.func (Fn.func 15) #[] #[Value.pointer (some { block := w.heap.size, off := 0 })]) (pre.map (·.1)) (pre.map (·.2)) W ∧ Below w.heap.size w W)
    (fun _ _ _ => False)
    (OwnFrom.and (Own.from (Two.own _ _ _ _ _ (fun pre => pre.map (·.1)) (fun pre => pre.map (·.2))) _) (ownFrom_below (Nat.le_refl _) (by omega)))
    (fun _ _ _ _ _ hs _ _ => hs)
    ⟨⟨_, _, bV, bU, bF, World.ownsRow_nil _ _ _ _, World.ownsRow_nil _ _ _ _, fun g e => by cases e⟩, hB0⟩
    (fun x => { tmps := #[.pointer (some ⟨sb, 0, none⟩), .slice ta tl tc, undef, .pointer (some ⟨w.heap.size, 0, none⟩), .slice none 0 0, .slice none 0 0, .pointer (some ⟨w.heap.size + 1, 0, none⟩), .pointer (some ⟨w.heap.size + 1 + 1, 0, none⟩), .int .i64 (x.1 : Int), .int .i64 (x.2 : Int), .pointer (some ⟨sb, 0, none⟩),
      .func (.func 15) #[] #[.pointer (some ⟨w.heap.size, 0, none⟩)], .func (.func 16) #[] #[.pointer (some ⟨w.heap.size + 1 + 1 + 1, 0, none⟩), .pointer (some ⟨w.heap.size + 1 + 1 + 1 + 1, 0, none⟩)], .int .i64 (x.1 : Int), .int .i64 (x.2 : Int), undef, undef, undef, undef, undef, undef, undef, undef, undef, undef], defers := [] }) ?assign ?body ?done ?stop
  case assign =>
    intro l x W K hK
    gi_wp2
    exact hK
  case body =>
    rintro l pre x W ⟨⟨v, u, g1, g2, g3, g4, g5, g6⟩, hB⟩ hlt
    rw [List.length_map] at g4 g5
    have c1 := g1.cell
    have c2 := g2.cell
    have hz := hB.size
    have lt1 := g3.lt
    have HB := hide3 hB
    have HGF : Hid (W.heap[w.heap.size + 1 + 1 + 1 + 1]? = some (.cells #[Value.func (Fn.func 15) #[] #[Value.pointer (some { block := w.heap.size, off := 0 })]] 43 (0, 0))) := g3
    clear hB bT bV bU bS bF cS hM0 hL0 co HM HL HO
    gi_wp2_with (first
      | (gi_at_builtin; refine wpListIn_append_own_at _ rfl (.tmp 15) (.tmp 17) 31 rfl (w.heap.size + 1) 3 i0 (.int .i64 0) 1 8 Try.underlying31 hi hz0 hz1 hz2 rfl (by decide) v pre.length (ints (pre.map (·.1))) rfl (g4.alloc _) ⟨W.heap.size, 0, none⟩ 1 1 [.int .i64 (x.1 : Int)] rfl rfl (cell_one_new _ _ _) (by simp [Value.oneCell']) (by unfold maxLen; omega) (by omega) (by simp; omega) ?_; intro v' w1 hown' hgrow _ hat; obtain ⟨g', cap', rfl⟩ := ownsRow_succ hown'; obtain ⟨k1, k2, k3, k4, k5, k6, k7, k8, k9⟩ := pushed (by omega) (by omega) g1 g2 g3 g4 g5 g6 (by omega) (Nat.le_refl _) hown' hgrow hat; have c3 := k1.cell; have f3 := k1.frozen; have c4 := k3.cell; have f4 := k3.frozen; have z1 : W.heap.size < w1.heap.size := (by have := hgrow.size; simp at this; omega); have K2 := hide3 k2; have K3 := hide3 k3; have K4 := hide3 k4; have K5 := hide3 k5; have K6 := hide3 k6; have K7 := hide3 k7; have K8 := hide3 k8; have K9 := hide3 k9; clear g1 g2 g3 g4 g5 g6 c1 c2 hown' hgrow hat k1 k2 k3 k4 k5 k6 k7 k8 k9)
      | (gi_at_builtin; go_loud (refine wpListIn_append_own_at _ rfl (.tmp 19) (.tmp 21) 31 rfl (w.heap.size + 1) 3 i0 (.int .i64 0) 1 8 Try.underlying31 hi hz0 hz1 hz2 rfl (by decide) u pre.length (ints (pre.map (·.2))) rfl (K6.out.alloc _) ⟨w1.heap.size, 0, none⟩ 1 1 [.int .i64 (x.2 : Int)] rfl rfl (cell_one_new_set _ _ _ _ _) (by simp [Value.oneCell']) (by unfold maxLen; omega) (by omega) (by simp; omega) ?_); intro v2 w2 hown2 hgrow2 _ hat2; obtain ⟨g2', cap2', rfl⟩ := ownsRow_succ hown2; obtain ⟨m1, m2, m3, m4, m5, m6, m7, m8, m9⟩ := pushed (B2 := w.heap.size + 1) (by omega) (by omega) K3.out K2.out K4.out K6.out K5.out (fun g a b => K7.out g b a) (by simp; omega) (by omega) hown2 hgrow2 hat2; have c5 := m1.cell; have f5 := m1.frozen; have M2 := hide3 m2; have M3 := hide3 m3; have M4 := hide3 m4; have M5 := hide3 m5; have M6 := hide3 m6; have M7 := hide3 m7; have M8 := hide3 m8; have M9 := hide3 m9; clear hown2 hgrow2 hat2 m1 m2 m3 m4 m5 m6 m7 m8 m9 c4 f4))
    have hbe := K9.out.trans M9.out
    have hot := K8.out.trans M8.out
    refine ⟨hot.from _, ⟨hbe, walks_of_others hot, ?_⟩, ⟨_, _, M3.out, M2.out, M4.out, ?_, ?_, fun g a b => M7.out g b a⟩, HB.out.trans (hbe.mono (by omega))⟩
    · have e4 := M4.out
      unfold Boxed at e4
      rw [e4]
      exact HGF.out.symm
    · rw [List.map_append, List.length_append, List.length_map]
      simp only [List.map_cons, List.map_nil, List.length_cons, List.length_nil, ints_snoc]
      exact M6.out
    · rw [List.map_append, List.length_append, List.length_map]
      simp only [List.map_cons, List.map_nil, List.length_cons, List.length_nil, ints_snoc]
      exact M5.out
  case done =>
    rintro D ys W hD rfl ⟨⟨v, u, g1, g2, g3, g4, g5, g6⟩, hB⟩ hK
    rw [List.length_map] at g4 g5
    have c1 := g1.cell
    have c2 := g2.cell
    clear bT bV bU bS bF cS hM0 hL0 co HM HL HO
    gi_wp2
    gi_region
    all_goals gi_wp2
    all_goals
      refine ⟨by simp, .inl ⟨_, _, rfl, run_takeDeferred (show W.drew.heap[D]? = _ from hK), ?_⟩⟩
      exact ⟨_, results_tmp2 rfl _ _ _, v, u, rfl, ownsRow_putObj (W := W.drew) g4 _ hK rfl, ownsRow_putObj (W := W.drew) g5 _ hK rfl, hB.drew.trans (belowK_b (w := w) (Nat.le_refl _) W.drew D _ _ (by omega) hK rfl rfl)⟩
  case stop =>
    rintro D c pre W _ _ h _
    exact h.elim

/-- THE SAME, AS A PLAIN CONTRACT. -/
theorem zzReads (sb len : Nat) (ov : Value) (O : List Op4) (T : List Bool) (ta : Option Addr) (tl tc : Nat) (w : World)
    (hlen : len ≤ 2048) (hT : T.length ≤ 4096) (hO : Fine O) (hsb : sb < w.heap.size)
    (co : w.cell? ⟨sb, 0, none⟩ = some ov) (hm : Mask w.heap.size w (.slice ta tl tc) T) (hl : OpsAt w.heap.size w ov O len) :
    Calls Try.prog 8 #[.pointer (some ⟨sb, 0, none⟩), .slice ta tl tc] w fun e W' => ∃ v u, e = .returned (.tuple #[v, u]) ∧
      W'.ownsRow (w.heap.size + 1) 3 1 v (outs O T len).length (ints ((outs O T len).map (·.1))) ∧ W'.ownsRow (w.heap.size + 1) 3 1 u (outs O T len).length (ints ((outs O T len).map (·.2))) ∧ Below w.heap.size w W' :=
  callsIn_wide.1 (zzReads_in Fence.wide 4 trivial trivial trivial trivial trivial rfl (Nat.le_refl _) sb len ov O T ta tl tc w hlen hT hO hsb co hm hl)

end Go.Proofs.Qxb6612671a
