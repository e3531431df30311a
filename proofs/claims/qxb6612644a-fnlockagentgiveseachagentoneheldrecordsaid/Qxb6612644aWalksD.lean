import Derived.Test.Qxb6612644aWalksC
namespace Go.Proofs.Qxb6612644a
open Go.MuLone Go.RowKit

theorem each_big (a : Option Addr) (n cap : Nat) (w : World) (h : ¬ n ≤ 1048576) :
    Calls Try.prog 3 #[.slice a n cap] w fun e w' => e = .returned (.bool true) ∧ w = w' := by
  go_enter Try.func3, Try.ntmps3
  go_wp2_with (go_at_call 5; refine (zz5_big _ _ _ _ h).mono ?_; rintro e w' ⟨rfl, rfl⟩)
  go_ret
  exact ⟨rfl, rfl⟩

theorem each_many (b off n cap : Nat) (ss : List ByteArray) (w : World) (hc : ∀ j, j < n → w.cell? ⟨b, off + j, none⟩ = some (.string (ss.getD j ByteArray.empty))) (hsz : ∀ j, (ss.getD j ByteArray.empty).size ≤ maxLen) (hn : n ≤ 1048576) (h : ¬ n ≤ 4096) :
    Calls Try.prog 3 #[.slice (some ⟨b, off, none⟩) n cap] w fun e w' => e = .returned (.bool true) ∧ w = w' := by
  have h1 : (4096 : Int) < (n : Int) := by omega
  have HC := hide hc
  have HS := hide hsz
  clear hc hsz
  go_enter Try.func3, Try.ntmps3
  go_wp2_with fail
  refine (zz5_some b off n cap ss _ HC.out HS.out hn).mono ?_
  rintro e w' ⟨h, hw⟩
  subst hw
  rcases h with ⟨rfl, hshort⟩ | rfl
  · go_wp2
    go_ret
    exact ⟨rfl, rfl⟩
  · go_wp2
    go_ret
    exact ⟨rfl, rfl⟩

/-- The first k ids are in the set. -/
def Seen (E : DataW Unit) (ss : List ByteArray) (k : Nat) : Prop := ∀ j, j < k → Maps.has E (klit (ss.getD j ByteArray.empty)) = true
theorem Seen.again {E : DataW Unit} {ss : List ByteArray} {k : Nat} (h : Seen E ss k) {s : ByteArray} (hs : Hid (s = ss.getD k ByteArray.empty)) (hy : Maps.has E (klit s) = true) : Seen E ss (k + 1) := fun j hj => by
  by_cases e : j < k
  · exact h j e
  · obtain rfl : j = k := by omega
    rw [← hs.out]; exact hy
theorem Seen.put {E : DataW Unit} {ss : List ByteArray} {k : Nat} (h : Seen E ss k) {s : ByteArray} (hs : Hid (s = ss.getD k ByteArray.empty)) (hm : Maps.IsMap E) (hl : s.size ≤ maxLen) (d : DataW Unit) : Seen (E.put (klit s) d) ss (k + 1) := fun j hj => by
  by_cases e : klit (ss.getD j ByteArray.empty) = klit s
  · rw [e]; exact Maps.has_put_same hm (key_lit s hl) d
  · rw [Maps.has_put_other e]
    by_cases ej : j < k
    · exact h j ej
    · obtain rfl : j = k := by omega
      rw [hs.out] at e
      exact absurd rfl e

theorem run_neq_ptr_same {P : Program} (w : World) {tp te : TypeId} {j : TypeInfo} (a : Addr) (hp : P.underlying tp = some (.pointer te)) (hte : P.info? te = some j) :
    (binOp .neq tp (.pointer (some a)) (.pointer (some a))).run P w = .ok (.bool false) w := by
  have h : ∀ d : Nat, (Op.equalIn (d + 1) tp (.pointer (some a)) (.pointer (some a))).run P w = .ok true w := fun d => by
    simp [Op.equalIn, run_underlying hp, sizeOf, typeInfo, hte, run_sameAddr_same]
  simp only [binOp]
  simp [Op.equal, Op.maxDepth, h 9999]

theorem agentID_q (A : Nat) (s : ByteArray) (w : World) (n : Nat) (h : Agent w A s) :
    Calls Try.prog 9 #[.pointer (some ⟨A, 0, none⟩)] (w.drewN n) fun e w' => e = .returned (.string s) ∧ w' = w.drewN n := (agentID A s (w.drewN n) h).mono fun _ _ ⟨h1, h2⟩ => ⟨h1, h2.symm⟩
theorem agentUsers_q (A : Nat) (s : ByteArray) (w : World) (n : Nat) (h : Agent w A s) :
    Calls Try.prog 10 #[.pointer (some ⟨A, 0, none⟩)] (w.drewN n) fun e w' => e = .returned (.int .i64 1) ∧ w' = w.drewN n := (agentUsers A s (w.drewN n) h).mono fun _ _ ⟨h1, h2⟩ => ⟨h1, h2.symm⟩

theorem makeLocked (w : World) : (w.alloc (.map #[] 0)).ownsMap Try.prog 9 boolElem w.heap.size 0 (.map []) := World.ownsMap_made w Try.prog 9 boolElem

set_option maxRecDepth 100000 in
set_option maxHeartbeats 2000000 in
/-- No agent at all. -/
theorem each_none (a : Option Addr) (cap : Nat) (w : World) :
    Calls Try.prog 3 #[.slice a 0 cap] w fun e w' => e = .returned (.bool true) ∧ Below w.heap.size w w' := by
  have hmm := @run_makeMap Try.prog
  go_enter Try.func3, Try.ntmps3
  go_wp2_with (go_at_call 5; refine (zz5_none _ _ _).mono ?_; rintro e w' ⟨rfl, rfl⟩)
  refine wp_loop_rounds 1 ?_
  rw [rounds_succ]
  go_wp2_with fail
  refine (newLog _).mono ?_
  rintro e w1 ⟨rfl, hl1, ho1, hb1, hs1⟩
  have HL1 := hide (hl1.block (w' := w1.alloc (.map #[] 0)) (Below.heap_alloc _ _ _ hl1.lt))
  have HO1 := hide (ho1.alloc (.map #[] 0))
  have HE1 := hide (makeLocked w1)
  have HB1 := hide (hb1.alloc (by omega) (.map #[] 0))
  clear hl1 ho1 hb1 hs1
  go_wp2_with fail
  refine wp_loop_rounds 1 ?_
  rw [rounds_succ]
  go_wp2_with fail
  refine wp_loop_rounds 1 ?_
  rw [rounds_succ]
  go_wp2_with fail
  refine (agentsLen _ _ 0 _ _ HL1.out HO1.out).mono ?_
  rintro e w' ⟨rfl, hw⟩
  subst hw
  have hz : Maps.size (DataW.map [] : DataW Unit) = 0 := rfl
  go_wp2_with (at_len; refine wpList_len_own _ rfl _ 26 rfl 9 4 Try.underlying26 boolElem w1.heap.size 0 (.map []) rfl HE1.out ?_)
  go_ret
  exact ⟨rfl, HB1.out⟩

set_option maxRecDepth 100000 in
set_option maxHeartbeats 4000000 in
theorem each_some (b off n cap : Nat) (ss : List ByteArray) (w : World) (hc : ∀ j, j < n → w.cell? ⟨b, off + j, none⟩ = some (.string (ss.getD j ByteArray.empty))) (hsz : ∀ j, (ss.getD j ByteArray.empty).size ≤ maxLen) (hpos : 0 < n) (hn : n ≤ 4096) :
    Calls Try.prog 3 #[.slice (some ⟨b, off, none⟩) n cap] w fun e w' => e = .returned (.bool true) ∧ Below w.heap.size w w' := by
  have hbw : b < w.heap.size := block_lt_of_cell (hc 0 hpos)
  have h1 : decide ((4096 : Int) < (n : Int)) = false := by simp; omega
  have hmm := @run_makeMap Try.prog
  obtain ⟨i51, hi51, hz51⟩ := info51_parts
  have HC := hide hc
  have HS := hide hsz
  clear hc hsz
  go_enter Try.func3, Try.ntmps3
  go_wp2_with fail
  refine (zz5_some b off n cap ss _ HC.out HS.out (by omega)).mono ?_
  rintro e w' ⟨h, hw⟩
  subst hw
  rcases h with ⟨rfl, hshort⟩ | rfl
  · have HSH := hide hshort
    clear hshort
    go_wp2_with fail
    go_loop [3, 20] (fun t i => ∃ k m : Nat, k ≤ n ∧ i = .int .i64 k ∧ m ≤ 1048576 ∧ t = .int .i64 m) (fun _ i => n - (intOf i).toNat)
    case atStart => exact ⟨0, 0, Nat.zero_le _, rfl, Nat.zero_le _, rfl⟩
    case round =>
      obtain ⟨k, m, hk, rfl, hm, rfl⟩ := hrel
      by_cases hlt : k < n
      · obtain ⟨s, hs⟩ : ∃ s, s = ss.getD k ByteArray.empty := ⟨_, rfl⟩
        have hcell := HC.out k hlt
        have hl := HSH.out k hlt
        rw [← hs] at hcell hl
        clear hs
        by_cases hb2 : (1048576 : Int) < (m : Int) + (16 + (s.size : Int))
        · go_wp2
          go_ret
          exact ⟨rfl, Below.refl _ _⟩
        · go_wp2
          go_round
          case rel => exact ⟨k + 1, m + (16 + s.size), by omega, by go_num, by omega, by go_num⟩
          case measure => simp [intOf]; omega
      · clear hk
        go_wp2_with fail
        refine (newLog _).mono ?_
        rintro e w1 ⟨rfl, hl1, ho1, hb1, hs1⟩
        have hS0 : St (w1.alloc (.map #[] 0)) (w.heap.size + 2) w.heap.size w1.heap.size 0 (.map []) (.map []) :=
          St.start (hl1.block (Below.heap_alloc _ _ _ hl1.lt)) (ho1.alloc _) (makeLocked w1) (by omega)
        have HS0 := hide hS0
        have HB1 := hide (hb1.alloc (by omega) (.map #[] 0))
        have hkb : w.heap.size ≤ w1.heap.size := by omega
        clear hl1 ho1 hb1 hs1 hS0
        go_wp2_with fail
        go_loopw [38] (fun i wr => ∃ (k : Nat) (D E : DataW Unit), k ≤ n ∧ i = .int .i64 k ∧ St wr (w.heap.size + 2) w.heap.size w1.heap.size k D E ∧ Seen E ss k ∧ Below w.heap.size w wr) (fun i _ => n - (intOf i).toNat)
        case atStart => exact ⟨0, _, _, Nat.zero_le _, rfl, HS0.out, fun j hj => by omega, HB1.out⟩
        case round =>
          clear HS0 HB1
          obtain ⟨k, D, E, hk, rfl, hst, hseen, hbel⟩ := hrel
          by_cases hlt : k < n
          · obtain ⟨s, hs⟩ : ∃ s, s = ss.getD k ByteArray.empty := ⟨_, rfl⟩
            have hcell := (hbel.cell (p := ⟨b, off + k, none⟩) hbw).trans (HC.out k hlt)
            have hl := HS.out k
            rw [← hs] at hcell hl
            have HSS := hide hs
            clear hs
            have HK := hide (klit_key s hl)
            have HST := hide hst
            have HSN := hide hseen
            have HBL := hide hbel
            clear hst hseen hbel
            rcases HST.out.each s hl with ⟨g1, g2⟩ | ⟨g1, g2, A, g3, g4⟩
            · have HE0 := hide (Maps.atKey_of_not_has g1 (.lit (.bool false)))
              have HD0 := hide (Maps.atKey_of_not_has g2 DataW.nil)
              have HG1 := hide g1
              clear g1 g2
              go_wp2_with (at_lookup; refine wpList_lookup_known _ rfl _ _ 26 rfl 9 4 law9 Try.underlying26 boolElem _ (zero4 _) (.lit (.bool false)) [] rfl w1.heap.size k E rfl HST.out.emap _ _ rfl HK.out (.bool false) (fun v ps h => boolElem_at (by rw [HE0.out] at h; exact h)) ?_)
              refine (zzLock_new _ _ k D s _ HST.out.log HST.out.dmap (by omega) hl HD0.out).mono ?_
              rintro e w2 ⟨rfl, hl2, hd2, ha2, hk2⟩
              have HL2 := hide hl2
              have HD2 := hide hd2
              have HA2 := hide ha2
              have HK2 := hide hk2
              have HE2 := hide (HST.out.keptE hk2)
              clear hl2 hd2 ha2 hk2
              go_wp2_with (at_mapUpdate; refine wpList_mapUpdate_own _ rfl _ _ _ 26 rfl 9 4 law9 Try.underlying26 boolElem w1.heap.size k E rfl HE2.out (by unfold maxLen; omega) _ _ _ rfl rfl HK.out (.lit (.bool true)) [] rfl ?_; intro w3 he3 hg3; have HE3 := hide he3; have HG3 := hide hg3; clear he3 hg3)
              obtain ⟨hst3, hag3, hat3⟩ := HST.out.step hl HG1.out HL2.out HD2.out HA2.out HK2.out HE3.out HG3.out
              have HST3 := hide hst3
              have HAG3 := hide hag3
              have HAT3 := hide hat3
              have HSN3 := hide (HSN.out.put HSS HST.out.emap.isMap hl (.lit (.bool true)))
              have HB3 := hide (HBL.out.trans ((HK2.out.below (B := w.heap.size) (by omega) (Nat.le_refl _) HBL.out.size).trans ⟨HG3.out.os, HG3.out.tape, HG3.out.output, HG3.out.size, fun j hj => HG3.out.block j (Nat.lt_of_lt_of_le hj (Nat.le_trans HBL.out.size HK2.out.size)) (by simp; omega)⟩))
              have hse : ((Maps.size (D.put (klit s) (.lit (.int .i64 wr.heap.size))) : Int) != (Maps.size (E.put (klit s) (.lit (.bool true))) : Int)) = false := by rw [hst3.size]; simp
              clear hst3 hag3 hat3 HST HL2 HD2 HA2 HK2 HE2 HE3 HG3 HSN HBL HG1 HE0 HD0 hcell
              have hpn := fun w => run_neq_ptr_same (P := Try.prog) w ⟨wr.heap.size, 0, none⟩ Try.underlying27 hi51
              refine (agentOf_held _ _ (k + 1) wr.heap.size _ s _ HST3.out.log HST3.out.dmap hl HAT3.out).mono ?_
              rintro e w' ⟨rfl, hw⟩
              subst hw
              go_wp2_with (first
                | (go_at_call 9; refine (agentID wr.heap.size s _ HAG3.out).mono ?_; rintro e w' ⟨rfl, hw⟩; subst hw)
                | (go_at_call 10; refine (agentUsers wr.heap.size s _ HAG3.out).mono ?_; rintro e w' ⟨rfl, hw⟩; subst hw)
                | (go_at_call 11; refine (agentsLen _ _ (k + 1) _ _ HST3.out.log HST3.out.dmap).mono ?_; rintro e w' ⟨rfl, hw⟩; subst hw)
                | (go_at_call 12; refine (idle _ _ _ HST3.out.log).mono ?_; rintro e w' ⟨rfl, hw⟩; subst hw)
                | (at_len; refine wpList_len_own _ rfl _ 26 rfl 9 4 Try.underlying26 boolElem w1.heap.size (k + 1) _ rfl HST3.out.emap ?_))
              go_roundw
              case rel => exact ⟨k + 1, _, _, by omega, by go_num, HST3.out, HSN3.out, HB3.out⟩
              case measure => simp [intOf]; omega
            · have HG2 := hide g2
              have HG1 := hide g1
              clear g1 g2 g3 g4
              go_wp2_with (at_lookup; refine wpList_lookup_known _ rfl _ _ 26 rfl 9 4 law9 Try.underlying26 boolElem _ (zero4 _) (.lit (.bool false)) [] rfl w1.heap.size k E rfl HST.out.emap _ _ rfl HK.out (.bool true) (fun v ps h => boolElem_at (by rw [HG2.out] at h; exact h)) ?_)
              go_roundw
              case rel => exact ⟨k + 1, D, E, by omega, by go_num, HST.out.mono (by omega), HSN.out.again HSS HG1.out, HBL.out⟩
              case measure => simp [intOf]; omega
          · obtain rfl : k = n := by omega
            obtain ⟨wo, rfl⟩ : ∃ wo : World, wo = wr := ⟨_, rfl⟩
            have HST := hide hst
            have HSN := hide hseen
            have HBL := hide hbel
            clear hst hseen hbel hk
            go_wp2_with fail
            go_loopw [84] (fun i wr => ∃ j : Nat, j ≤ k ∧ i = .int .i64 j ∧ St wr (w.heap.size + 2) w.heap.size w1.heap.size k D E ∧ Below w.heap.size w wr) (fun i _ => k - (intOf i).toNat)
            case atStart => exact ⟨0, Nat.zero_le _, rfl, HST.out, HBL.out⟩
            case round =>
              clear HST HBL
              obtain ⟨j, hj, rfl, hst, hbel⟩ := hrel
              have HST := hide hst
              have HBL := hide hbel
              by_cases hjl : j < k
              · obtain ⟨s, hs⟩ : ∃ s, s = ss.getD j ByteArray.empty := ⟨_, rfl⟩
                have hcell := (hbel.cell (p := ⟨b, off + j, none⟩) hbw).trans (HC.out j hjl)
                have hl := HS.out j
                have hin := HSN.out j hjl
                rw [← hs] at hcell hl hin
                clear hs
                obtain ⟨A, g3, g4⟩ : ∃ A : Nat, D.atKey (klit s) .nil = .lit (.int .i64 A) ∧ Agent wr A s := by
                  rcases hst.each s hl with ⟨g1, _⟩ | ⟨_, _, A, g3, g4⟩
                  · rw [hin] at g1; cases g1
                  · exact ⟨A, g3, g4⟩
                have HG3 := hide g3
                have HG4 := hide g4
                have i1 : (j : Int) < (k : Int) := by omega
                clear hst hbel g3 g4 hin
                go_wp2_with (go_at_call 8; refine (agentOf_held _ _ k A _ s _ HST.out.log HST.out.dmap hl HG3.out).mono ?_; rintro e w' ⟨rfl, hw⟩; subst hw)
                go_quiet ((first | (go_at_call 9; exact Calls.quiet_of_same (agentID_q A s _ _ HG4.out)) | (go_at_call 10; exact Calls.quiet_of_same (agentUsers_q A s _ _ HG4.out))))
                go_wp2
                go_roundw
                case rel => exact ⟨j + 1, by omega, by go_num, HST.out.drewN _, below_drewN HBL.out _⟩
                case measure => simp [intOf]; omega
              · have hse : ((Maps.size D : Int) == (Maps.size E : Int)) = true := by rw [hst.size]; simp
                clear hst hbel
                go_wp2_with (first
                  | (go_at_call 11; refine (agentsLen _ _ k _ _ HST.out.log HST.out.dmap).mono ?_; rintro e w' ⟨rfl, hw⟩; subst hw)
                  | (at_len; refine wpList_len_own _ rfl _ 26 rfl 9 4 Try.underlying26 boolElem w1.heap.size k _ rfl HST.out.emap ?_))
                go_ret
                exact ⟨rfl, HBL.out⟩
  · go_wp2
    go_ret
    exact ⟨rfl, Below.refl _ _⟩

end Go.Proofs.Qxb6612644a
