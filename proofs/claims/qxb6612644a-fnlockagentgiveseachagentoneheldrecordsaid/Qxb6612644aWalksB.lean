import Derived.Test.Qxb6612644aWalksA
import Derived.Deep.RegionWith
namespace Go.Proofs.Qxb6612644a
open Go.MuLone Go.RowKit

theorem Agent.ne_log {w : World} {A lb mb : Nat} {s : ByteArray} (h : Agent w A s) (k : Log w lb mb) : A ≠ lb := fun e => by
  obtain ⟨_, _, _, _, c, hc⟩ := k
  unfold Agent at h
  rw [e, hc] at h
  cases h
theorem Agent.ne_map {w : World} {A mb n : Nat} {k : TypeId} {R : Value → Option (DataW Unit × List MemPlace)} {D : DataW Unit} {s : ByteArray} (h : Agent w A s) (k : w.ownsMap Try.prog k R mb n D) : A ≠ mb := fun e => by
  obtain ⟨es, c, hc, _⟩ := k
  unfold Agent at h
  rw [e, hc] at h
  cases h
theorem Agent.lt {w : World} {A : Nat} {s : ByteArray} (h : Agent w A s) : A < w.heap.size := (Array.getElem?_eq_some_iff.1 h).1
theorem Agent.kept {w w' : World} {A lb mb : Nat} {s : ByteArray} (h : Agent w A s) (k : Kept w w' lb mb) (h1 : A ≠ lb) (h2 : A ≠ mb) : Agent w' A s := (k.block A h.lt h1 h2).trans h

/-- The Log's lock taken and let go of: all is as it was. -/
theorem Log.again {w : World} {lb mb : Nat} (h : Log w lb mb) : Log ((w.setCell ⟨lb, 2, none⟩ (.int .i32 1)).setCell ⟨lb, 2, none⟩ (.int .i32 0)) lb mb := by
  obtain ⟨l2, l4, l7, lf, c, lc⟩ := h
  refine ⟨World.cell?_setCell_same _ _ _ (World.cell?_setCell_same _ _ _ l2), ?_, ?_, by simp [lf], ?_⟩
  · rw [World.cell?_setCell_other _ _ _ _ (by simp), World.cell?_setCell_other _ _ _ _ (by simp)]; exact l4
  · rw [World.cell?_setCell_other _ _ _ _ (by simp), World.cell?_setCell_other _ _ _ _ (by simp)]; exact l7
  · exact ⟨_, by simp [World.setCell, Array.getElem?_modify, lc]; rfl⟩
theorem Log.ne_map {w : World} {lb mb n : Nat} {k : TypeId} {R : Value → Option (DataW Unit × List MemPlace)} {D : DataW Unit} {mb' : Nat} (h : Log w lb mb) (k : w.ownsMap Try.prog k R mb' n D) : mb' ≠ lb := fun e => by
  obtain ⟨_, _, _, _, c, hc⟩ := h
  obtain ⟨es, c', hc', _⟩ := k
  rw [e, hc] at hc'
  cases hc'

theorem run_eql_ptr_same' {P : Program} {tp te : TypeId} {j : TypeInfo} (a : Addr) (hp : P.underlying tp = some (.pointer te)) (hte : P.info? te = some j) (w : World) :
    (binOp .eql tp (.pointer (some a)) (.pointer (some a))).run P w = .ok (.bool true) w := run_eql_ptr_same w a hp hte
theorem info51 : (Try.prog.info? 51).map (fun i => i.size) = some 8 := by kernel_rfl
theorem info51_parts : ∃ i, Try.prog.info? 51 = some i ∧ i.size ≠ 0 := by
  have h := info51
  cases hh : Try.prog.info? 51 with
  | none => rw [hh] at h; cases h
  | some i => rw [hh] at h; simp at h; exact ⟨i, rfl, by omega⟩

theorem str_ne {o a : ByteArray} (h : ¬ o = a) : (o.toList == a.toList) = false := by
  rw [beq_eq_false_iff_ne]
  intro e
  rw [ByteArray.toList_eq, ByteArray.toList_eq] at e
  exact h (klit_inj (by unfold klit; rw [e]))

theorem has_empty (k : Lit) : Maps.has (.map [] : DataW Unit) k = false := rfl
theorem size_one (k : Lit) (d : DataW Unit) : Maps.size ((.map [] : DataW Unit).put k d) = 1 := by
  rw [Maps.size_put Maps.tidy_empty, has_empty]; rfl
theorem key_lit (s : ByteArray) (hs : s.size ≤ maxLen) : WideAt.IsKeyLit (klit s) := law9.key (klit_key s hs)
theorem size_two (s t : ByteArray) (hs : s.size ≤ maxLen) (hne : t ≠ s) (d d' : DataW Unit) : Maps.size (((.map [] : DataW Unit).put (klit s) d).put (klit t) d') = 2 := by
  rw [Maps.size_put (Maps.tidy_empty.put (key_lit s hs) d), Maps.has_put_other (fun e => hne (klit_inj e)), has_empty, size_one]; rfl
theorem at_one (s : ByteArray) (hs : s.size ≤ maxLen) (d : DataW Unit) : ((.map [] : DataW Unit).put (klit s) d).atKey (klit s) .nil = d := Maps.atKey_put_same Maps.isMap_empty (key_lit s hs) d .nil
theorem at_none (s t : ByteArray) (hne : t ≠ s) (d : DataW Unit) : ((.map [] : DataW Unit).put (klit s) d).atKey (klit t) .nil = .nil := by
  rw [Maps.atKey_put_other (fun e => hne (klit_inj e))]; exact Maps.atKey_of_not_has (has_empty _) _

theorem at_first (s t : ByteArray) (hs : s.size ≤ maxLen) (hne : t ≠ s) (d d' : DataW Unit) : (((.map [] : DataW Unit).put (klit s) d).put (klit t) d').atKey (klit s) .nil = d := by
  rw [Maps.atKey_put_other (fun e => hne (klit_inj e.symm))]; exact at_one s hs d
theorem at_second (s t : ByteArray) (ht : t.size ≤ maxLen) (d d' : DataW Unit) : (((.map [] : DataW Unit).put (klit s) d).put (klit t) d').atKey (klit t) .nil = d' :=
  Maps.atKey_put_same (Maps.isMap_empty.put _ _) (key_lit t ht) d' .nil

theorem zz13_yes (a o : ByteArray) (w : World) (h : a.size + o.size ≤ 1048576) :
    Calls Try.prog 13 #[.string a, .string o] w fun e w' => e = .returned (.bool true) ∧ w = w' := by
  have h1 : ¬ (1048576 : Int) < (a.size : Int) := by omega
  have h2 : ¬ (1048576 : Int) < (o.size : Int) := by omega
  have h3 : ¬ (1048576 : Int) < (a.size : Int) + (o.size : Int) := by omega
  go_enter Try.func13, Try.ntmps13
  go_wp2
  go_ret
  exact ⟨rfl, rfl⟩

theorem zz13_no (a o : ByteArray) (w : World) (h : ¬ a.size + o.size ≤ 1048576) :
    Calls Try.prog 13 #[.string a, .string o] w fun e w' => e = .returned (.bool false) ∧ w = w' := by
  by_cases h1 : (1048576 : Int) < (a.size : Int)
  · go_enter Try.func13, Try.ntmps13
    go_wp2
    go_ret
    exact ⟨rfl, rfl⟩
  · by_cases h2 : (1048576 : Int) < (o.size : Int)
    · go_enter Try.func13, Try.ntmps13
      go_wp2
      go_ret
      exact ⟨rfl, rfl⟩
    · have h3 : (1048576 : Int) < (a.size : Int) + (o.size : Int) := by omega
      go_enter Try.func13, Try.ntmps13
      go_wp2
      go_ret
      exact ⟨rfl, rfl⟩

theorem law_big (a o : ByteArray) (w : World) (h : ¬ (a.size ≤ 524288 ∧ o.size ≤ 524288)) :
    Calls Try.prog 4 #[.string a, .string o] w fun e w' => e = .returned (.bool true) ∧ w = w' := by
  by_cases hz : a.size + o.size ≤ 1048576
  · by_cases h1 : (524288 : Int) < (a.size : Int)
    · go_enter Try.func4, Try.ntmps4
      go_wp2_with (go_at_call 13; refine (zz13_yes _ _ _ hz).mono ?_; rintro e w' ⟨rfl, rfl⟩)
      go_ret
      exact ⟨rfl, rfl⟩
    · have h2 : (524288 : Int) < (o.size : Int) := by omega
      go_enter Try.func4, Try.ntmps4
      go_wp2_with (go_at_call 13; refine (zz13_yes _ _ _ hz).mono ?_; rintro e w' ⟨rfl, rfl⟩)
      go_ret
      exact ⟨rfl, rfl⟩
  · go_enter Try.func4, Try.ntmps4
    go_wp2_with (go_at_call 13; refine (zz13_no _ _ _ hz).mono ?_; rintro e w' ⟨rfl, rfl⟩)
    go_ret
    exact ⟨rfl, rfl⟩

set_option maxRecDepth 100000 in
set_option maxHeartbeats 4000000 in
theorem law_small (a o : ByteArray) (w : World) (ha : a.size ≤ 524288) (ho : o.size ≤ 524288) :
    Calls Try.prog 4 #[.string a, .string o] w fun e w' => e = .returned (.bool true) ∧ Below w.heap.size w w' := by
  have h1 : decide ((524288 : Int) < (a.size : Int)) = false := by simp; omega
  have h2 : decide ((524288 : Int) < (o.size : Int)) = false := by simp; omega
  have hma : a.size ≤ maxLen := by unfold maxLen; omega
  have hmo : o.size ≤ maxLen := by unfold maxLen; omega
  go_enter Try.func4, Try.ntmps4
  go_wp2_with (go_at_call 13; refine (zz13_yes _ _ _ (by omega)).mono ?_; rintro e w' ⟨rfl, rfl⟩)
  refine (newLog _).mono ?_
  rintro e w1 ⟨rfl, hl1, ho1, hb1, hs1⟩
  have HB1 := hide hb1
  have hs1' : w.heap.size + 3 ≤ w1.heap.size := Nat.le_of_eq hs1.symm
  clear hb1 hs1
  go_wp2_with fail
  refine (zzLock_new _ _ 0 (.map []) a _ hl1 ho1 (by omega) hma (Maps.atKey_of_not_has (has_empty _) _)).mono ?_
  rintro e w2 ⟨rfl, hl2, ho2, hag2, hk2⟩
  have n1 := hag2.ne_log hl2
  have n2 := hag2.ne_map ho2
  have HB2 := hide (HB1.out.trans (hk2.below (B := w.heap.size) (by omega) (Nat.le_refl _) (by omega)))
  have hs2 : w1.heap.size ≤ w2.heap.size := hk2.size
  have HL2 := hide hl2
  have HO2 := hide ho2
  have HA2 := hide hag2
  clear hl1 ho1 hl2 ho2 hag2 hk2 HB1
  go_wp2_with (first
    | (go_at_call 9; refine (agentID w1.heap.size a _ HA2.out).mono ?_; rintro e w' ⟨rfl, rfl⟩)
    | (go_at_call 14; refine (agentTry w1.heap.size a _ HA2.out).mono ?_; rintro e w' ⟨rfl, rfl⟩))
  -- the Log's own lock, tried and let go of
  refine (logTry _ _ _ HL2.out).mono ?_
  rintro e w3 ⟨rfl, hw3⟩
  have u1 : w3.cell? ⟨w.heap.size + 2, 2, none⟩ = some (.int .i32 1) := by rw [hw3]; exact World.cell?_setCell_same _ _ _ HL2.out.1
  have u2 : w3.frozen? ⟨w.heap.size + 2, 2, none⟩ = false := by rw [hw3]; simp [HL2.out.2.2.2.1]
  have HW3 := hide hw3
  clear hw3
  go_wp2_with fail
  refine (logUnlock _ _ u1 u2).mono ?_
  rintro e w4 ⟨rfl, hw4⟩
  rw [HW3.out] at hw4
  have HL4 : Hid (Log w4 (w.heap.size + 2) w.heap.size) := by rw [hw4]; exact HL2.out.again
  have HK4 : Hid (Kept w2 w4 (w.heap.size + 2) w.heap.size) := by rw [hw4]; exact ((Kept.refl _ _ _).setLog _ _).setLog _ _
  have HO4 : Hid (w4.ownsMap Try.prog 9 ptrElem w.heap.size 1 ((DataW.map []).put (klit a) (.lit (.int .i64 w1.heap.size)))) := by rw [hw4]; exact (HO2.out.setCell (by simp) _).setCell (by simp) _
  have HA4 := hide (HA2.out.kept HK4.out n1 n2)
  have HB4 := hide (HB2.out.trans (HK4.out.below (B := w.heap.size) (by omega) (Nat.le_refl _) (by omega)))
  have hs4 : w2.heap.size ≤ w4.heap.size := HK4.out.size
  clear hw4 u1 u2 HW3 HL2 HO2 HA2 HB2 HK4
  obtain ⟨i51, hi51, hz51⟩ := info51_parts
  by_cases heq : o = a
  · subst heq
    have hpe := run_eql_ptr_same' (P := Try.prog) ⟨w1.heap.size, 0, none⟩ Try.underlying27 hi51
    have H1 := hide (size_one (klit o) (.lit (.int .i64 w1.heap.size)))
    go_wp2_with (first
      | (go_at_call 8; refine (agentOf_held _ _ 1 w1.heap.size _ o _ HL4.out HO4.out hmo (at_one o hmo _)).mono ?_; rintro e w' ⟨rfl, rfl⟩)
      | (go_at_call 11; refine (agentsLen _ _ 1 _ _ HL4.out HO4.out).mono ?_; rintro e w' ⟨rfl, rfl⟩; rw [H1.out]))
    go_ret
    exact ⟨rfl, HB4.out⟩
  · have hne := str_ne heq
    have HNE := hide heq
    clear heq
    go_wp2_with fail
    refine (zzLock_new _ _ 1 _ o _ HL4.out HO4.out (by omega) hmo (at_none a o HNE.out _)).mono ?_
    rintro e w5 ⟨rfl, hl5, ho5, hag5, hk5⟩
    have m1 := hag5.ne_log hl5
    have m2 := hag5.ne_map ho5
    have HA5 := hide (HA4.out.kept hk5 n1 n2)
    have HG5 := hide hag5
    have HL5 := hide hl5
    have HO5 := hide ho5
    have HB5 := hide (HB4.out.trans (hk5.below (B := w.heap.size) (by omega) (Nat.le_refl _) (by omega)))
    have hs5 : w4.heap.size ≤ w5.heap.size := hk5.size
    have hAlt : w1.heap.size < w4.heap.size := HA4.out.lt
    clear hl5 ho5 hag5 hk5 HL4 HO4 HA4 HB4
    have hpo := run_eql_ptr_other (P := Try.prog) w5 (a := ⟨w4.heap.size, 0, none⟩) (b := ⟨w1.heap.size, 0, none⟩) Try.underlying27 hi51 hz51 (by first | (simp; done) | (simp; omega)) HG5.out HA5.out
    go_wp2_with (first
      | (go_at_call 9; refine (agentID w4.heap.size o _ HG5.out).mono ?_; rintro e w' ⟨rfl, rfl⟩)
      | (go_at_call_of 14 (Value.pointer (some { block := w4.heap.size, off := 0 })); refine (agentTry w4.heap.size o _ HG5.out).mono ?_; rintro e w' ⟨rfl, rfl⟩)
      | (go_at_call_of 14 (Value.pointer (some { block := w1.heap.size, off := 0 })); refine (agentTry w1.heap.size a _ HA5.out).mono ?_; rintro e w' ⟨rfl, rfl⟩))
    refine (logTry _ _ _ HL5.out).mono ?_
    rintro e w6 ⟨rfl, hw6⟩
    have u1 : w6.cell? ⟨w.heap.size + 2, 2, none⟩ = some (.int .i32 1) := by rw [hw6]; exact World.cell?_setCell_same _ _ _ HL5.out.1
    have u2 : w6.frozen? ⟨w.heap.size + 2, 2, none⟩ = false := by rw [hw6]; simp [HL5.out.2.2.2.1]
    have HW6 := hide hw6
    clear hw6 hpo
    go_wp2_with fail
    refine (logUnlock _ _ u1 u2).mono ?_
    rintro e w7 ⟨rfl, hw7⟩
    rw [HW6.out] at hw7
    have HL7 : Hid (Log w7 (w.heap.size + 2) w.heap.size) := by rw [hw7]; exact HL5.out.again
    have HK7 : Hid (Kept w5 w7 (w.heap.size + 2) w.heap.size) := by rw [hw7]; exact ((Kept.refl _ _ _).setLog _ _).setLog _ _
    have HO7 : Hid (w7.ownsMap Try.prog 9 ptrElem w.heap.size 2 (((DataW.map []).put (klit a) (.lit (.int .i64 w1.heap.size))).put (klit o) (.lit (.int .i64 w4.heap.size)))) := by rw [hw7]; exact (HO5.out.setCell (by simp) _).setCell (by simp) _
    have HB7 := hide (HB5.out.trans (HK7.out.below (B := w.heap.size) (by omega) (Nat.le_refl _) (by omega)))
    clear hw7 u1 u2 HW6 HL5 HO5 HA5 HG5 HB5 HK7
    have hpa := run_eql_ptr_same' (P := Try.prog) ⟨w1.heap.size, 0, none⟩ Try.underlying27 hi51
    have hpb := run_eql_ptr_same' (P := Try.prog) ⟨w4.heap.size, 0, none⟩ Try.underlying27 hi51
    have H2 := hide (size_two a o hma HNE.out (.lit (.int .i64 w1.heap.size)) (.lit (.int .i64 w4.heap.size)))
    have HAA := hide (at_first a o hma HNE.out (.lit (.int .i64 w1.heap.size)) (.lit (.int .i64 w4.heap.size)))
    have HAO := hide (at_second a o hmo (.lit (.int .i64 w1.heap.size)) (.lit (.int .i64 w4.heap.size)))
    go_wp2_with fail
    refine (agentOf_held _ _ 2 w1.heap.size _ a _ HL7.out HO7.out hma HAA.out).mono ?_
    rintro e w' ⟨rfl, hww⟩
    replace hww := hww.symm
    subst hww
    go_wp2_with fail
    refine (agentOf_held _ _ 2 w4.heap.size _ o _ HL7.out HO7.out hmo HAO.out).mono ?_
    rintro e w' ⟨rfl, hww⟩
    replace hww := hww.symm
    subst hww
    go_wp2_with (go_at_call 11; refine (agentsLen _ _ 2 _ _ HL7.out HO7.out).mono ?_; rintro e w' ⟨rfl, rfl⟩; rw [H2.out])
    go_ret
    exact ⟨rfl, HB7.out⟩

end Go.Proofs.Qxb6612644a
