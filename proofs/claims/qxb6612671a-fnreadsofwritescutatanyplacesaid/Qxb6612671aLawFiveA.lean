import Derived.Test.Qxb6612671aCut
namespace Go.Proofs.Qxb6612671a
open Go.RowKit Go.Shelf

set_option maxRecDepth 100000 in
set_option maxHeartbeats 8000000 in
theorem law5_nil (oa : Option Addr) (n cap : Nat) (O : List Op4) (T : List Bool) (x : Int) (w : World) (hs : Src w oa n cap O) (hO : Fine O) (hT0 : T = []) (hcap : n ≤ cap) (hn : n ≤ 2048) :
    Calls Try.prog 5 #[.slice oa n cap, .slice none 0 0, .int .i64 x] w fun e w' => e = .returned (.bool true) ∧ Below w.heap.size w w' := by
  have hne := fun w => run_neq_slice_nil_any (P := Try.prog) w 27 4 none 0 0 0 0 Try.underlying27
  have HS := hide3 hs
  have HO := hide3 hO
  clear hs hO
  have d1 : decide ((2048 : Int) < (n : Int)) = false := by simp; omega
  go_enter Try.func5, Try.ntmps5
  go_wp2_with fail
  refine (zz12 oa n cap O _ _ _ x _ HS.out HO.out).mono ?_
  rintro e w' ⟨h, hw⟩
  subst hw
  rcases h with ⟨rfl, hsh⟩ | rfl
  · have HSH := hide3 hsh
    clear hsh
    go_wp2_with fail
    generalize hw2 : w = w2
    have HB2 : Hid (Below w.heap.size w w2) := hide3 (by rw [← hw2]; exact Below.refl _ _)
    have HS2 : Hid (Src w2 oa n cap O) := hide3 (by rw [← hw2]; exact HS.out)
    have HM2 : Hid (Mask w2.heap.size w2 (.slice none 0 0) T) := hide3 (.inl ⟨rfl, hT0⟩)
    have hT : T.length ≤ 4096 := by rw [hT0]; simp
    clear hw2 hT0
    clear hne d1 HS
    go_loop [8, 9] (fun t i => ∃ k m : Nat, k ≤ n ∧ i = .int .i64 k ∧ m ≤ 1048576 ∧ t = .int .i64 m) (fun _ i => n - (intOf i).toNat)
    case atStart => exact ⟨0, _, Nat.zero_le _, rfl, Nat.zero_le _, rfl⟩
    case round =>
      obtain ⟨k, m, hk, rfl, hm, rfl⟩ := hrel
      by_cases hlt : k < n
      · obtain ⟨b, off, rfl, hb, hl⟩ := HS2.out.at hlt
        obtain ⟨o, ho⟩ : ∃ o, o = at4 O k := ⟨_, rfl⟩
        obtain ⟨_, _, c3, _⟩ := hl k hlt
        have hsz := HSH.out k hlt
        rw [← ho] at c3 hsz
        clear ho hl
        by_cases hb2 : (1048576 : Int) < (m : Int) + (40 + (o.var.size : Int))
        · go_wp2
          go_ret
          exact ⟨rfl, HB2.out⟩
        · go_wp2
          go_round
          case rel => exact ⟨k + 1, m + (40 + o.var.size), by omega, by go_num, by omega, by go_num⟩
          case measure => simp [intOf]; omega
      · clear hk hm
        by_cases hx0 : x < 0
        · go_wp2_with fail
          go_ret
          exact ⟨rfl, HB2.out⟩
        · by_cases hxn : (n : Int) < x
          · have hx0' : decide (x < 0) = false := by simp; omega
            go_wp2_with fail
            go_ret
            exact ⟨rfl, HB2.out⟩
          · obtain ⟨q, rfl⟩ : ∃ q : Nat, x = (q : Int) := ⟨x.toNat, by omega⟩
            have hqn : q ≤ n := by omega
            have x1 : decide ((q : Int) < 0) = false := by simp
            have x2 : decide ((n : Int) < (q : Int)) = false := by simp; omega
            clear hx0 hxn
            have hqc : (q : Int) ≤ (cap : Int) := by omega
            go_wp2_with fail
            refine (toOps_any oa n cap O _ HS2.out hn).mono ?_
            rintro e w3 ⟨oa3, cap3, rfl, ho3, hb3⟩
            have HO3 := hide3 ho3
            have HB3 := hide3 hb3
            clear ho3 hb3
            go_wp2_with fail
            refine (newOps oa3 n cap3 _).mono ?_
            rintro e w4 ⟨rfl, hc4, hb4, hs4⟩
            have HC4 := hide3 hc4
            have HB4 := hide3 hb4
            have HS4 := hide3 hs4
            clear hc4 hb4 hs4
            go_wp2_with fail
            refine (zzReads w3.heap.size n (.slice oa3 n cap3) O _ _ _ _ w4 hn hT HO.out HS4.out HC4.out ((((HM2.out.below HB3.out).grow HB3.out.size).below HB4.out).grow HB4.out.size) ((HO3.out.below HB4.out).grow HB4.out.size)).mono ?_
            rintro e w5 ⟨v, u, rfl, hv, hu, hb5⟩
            obtain ⟨a1, c1, rfl, hr1⟩ := Row.of hv
            obtain ⟨a2, c2, rfl, hr2⟩ := Row.of hu
            have HR1 := hide3 hr1
            have HR2 := hide3 hr2
            have HB5 := hide3 hb5
            clear hv hu hr1 hr2 hb5
            go_wp2_with fail
            have HB5' : Hid (Below w.heap.size w w5) := hide3 (HB2.out.trans ((HB3.out.mono HB2.out.size).trans ((HB4.out.mono (Nat.le_trans HB2.out.size HB3.out.size)).trans (HB5.out.mono (Nat.le_trans HB2.out.size (Nat.le_trans HB3.out.size HB4.out.size))))))
            have HS5 := hide3 (((HS2.out.below HB3.out).below HB4.out).below HB5.out)
            have HM5 := hide3 ((((((HM2.out.below HB3.out).grow HB3.out.size).below HB4.out).grow HB4.out.size).below HB5.out).grow HB5.out.size)
            clear HB2 HB3 HB4 HB5 HS2 HM2 HO3 HC4 HS4 hlt
            refine (toOps_any oa q cap O _ (HS5.out.cut hqn) (by omega)).mono ?_
            rintro e w6 ⟨oa3, cap3, rfl, ho3, hb3⟩
            have HO3 := hide3 ho3
            have HB3 := hide3 hb3
            clear ho3 hb3 hqc
            go_wp2_with fail
            refine (newOps oa3 q cap3 _).mono ?_
            rintro e w7 ⟨rfl, hc4, hb4, hs4⟩
            have HC4 := hide3 hc4
            have HB4 := hide3 hb4
            have HS4 := hide3 hs4
            clear hc4 hb4 hs4
            go_wp2_with fail
            refine (zzReads w6.heap.size q (.slice oa3 q cap3) O _ _ _ _ w7 (by omega) hT HO.out HS4.out HC4.out ((((HM5.out.below HB3.out).grow HB3.out.size).below HB4.out).grow HB4.out.size) ((HO3.out.below HB4.out).grow HB4.out.size)).mono ?_
            rintro e w8 ⟨v, u, rfl, hv, hu, hb5⟩
            obtain ⟨a3, c3, rfl, hr3⟩ := Row.of hv
            obtain ⟨a4, c4, rfl, hr4⟩ := Row.of hu
            have HR3 := hide3 hr3
            have HR4 := hide3 hr4
            have HB5 := hide3 hb5
            clear hv hu hr3 hr4 hb5
            have HB58 : Hid (Below w5.heap.size w5 w8) := hide3 (HB3.out.trans ((HB4.out.mono HB3.out.size).trans (HB5.out.mono (Nat.le_trans HB3.out.size HB4.out.size))))
            have HB8' : Hid (Below w.heap.size w w8) := hide3 (HB5'.out.trans (HB58.out.mono HB5'.out.size))
            have HS8 := hide3 (HS5.out.below HB58.out)
            have HM8 := hide3 ((HM5.out.below HB58.out).grow HB58.out.size)
            have HQ1 := hide3 ((HR1.out.below HB58.out).grow HB58.out.size)
            have HQ2 := hide3 ((HR2.out.below HB58.out).grow HB58.out.size)
            clear HB3 HB4 HB5 HB5' HS5 HM5 HO3 HC4 HS4 HR1 HR2 HB58
            obtain ⟨L, hL⟩ : ∃ L, L = (outs O T n).length := ⟨_, rfl⟩
            obtain ⟨M, hM⟩ : ∃ M, M = (outs O T q).length := ⟨_, rfl⟩
            have hML : M ≤ L := by rw [hM, hL]; exact outs_len_le hqn
            have hL2 : L ≤ 2048 := by have := outs_length O T n; omega
            rw [← hL] at HQ1 HQ2
            rw [← hM] at HR3 HR4
            rw [← hL, ← hM]
            have HL := hide3 hL
            have HMM := hide3 hM
            clear hL hM
            go_wp2_with fail
            go_loop [14] (fun v => ∃ m : Nat, m ≤ M ∧ v = .int .i64 m) (fun v => M - (intOf v).toNat)
            case atStart => exact ⟨0, Nat.zero_le _, rfl⟩
            case round =>
              obtain ⟨m, hm, rfl⟩ := hrel
              by_cases hmM : m < M
              · obtain ⟨a, b, f1, f2, _, _, hbq⟩ := outs_early (O := O) (T := T) hqn (by rw [← HMM.out]; exact hmM)
                obtain ⟨_, g2, hg2, p2⟩ := HQ2.out.at m b f2
                subst hg2
                clear f1 f2
                have y1 : (m : Int) < (L : Int) := by omega
                have y2 : (b : Int) < (q : Int) := by omega
                go_wp2_with fail
                go_round
                case rel => exact ⟨m + 1, by omega, by go_num⟩
                case measure => simp [intOf]; omega
              · obtain rfl : m = M := by omega
                clear hmM hm
                rcases Nat.lt_or_ge m L with hmL | hmL
                · obtain ⟨b, f2, hbq⟩ := outs_late (O := O) (T := T) hqn (by rw [← HMM.out, ← HL.out]; exact hmL)
                  rw [← HMM.out] at f2
                  obtain ⟨_, g2, hg2, p2⟩ := HQ2.out.at m b f2
                  subst hg2
                  clear f2
                  have y1 : (m : Int) < (L : Int) := by omega
                  have y2 : decide ((b : Int) < (q : Int)) = false := by simp; omega
                  go_wp2_with fail
                  clear y1 y2 p2
                  go_loopw [15] (fun v wr => ∃ i : Nat, i ≤ m ∧ v = .int .i64 i ∧ Below w8.heap.size w8 wr) (fun v _ => m - (intOf v).toNat)
                  case atStart => exact ⟨0, Nat.zero_le _, rfl, Below.refl _ _⟩
                  case round =>
                    obtain ⟨i, hi, rfl, hbx⟩ := hrel
                    by_cases hlt : i < m
                    · obtain ⟨a, b, f1, f2, f3, f4, _⟩ := outs_early (O := O) (T := T) hqn (by rw [← HMM.out]; exact hlt)
                      obtain ⟨_, g1, hg1, p1⟩ := (HQ1.out.below hbx).at i a f1
                      obtain ⟨_, g2, hg2, p2⟩ := (HQ2.out.below hbx).at i b f2
                      obtain ⟨_, g3, hg3, p3⟩ := (HR3.out.below hbx).at i a f3
                      obtain ⟨_, g4, hg4, p4⟩ := (HR4.out.below hbx).at i b f4
                      cases hg1
                      cases hg2
                      cases hg3
                      cases hg4
                      have HBX := hide3 hbx
                      clear f1 f2 f3 f4 hbx
                      have i1 : (i : Int) < (m : Int) := by omega
                      have i2 : (i : Int) < (L : Int) := by omega
                      go_wp2_with fail
                      go_quiet (fail)
                      go_wp2
                      go_roundw
                      case rel => exact ⟨i + 1, by omega, by go_num, below_drewN HBX.out _⟩
                      case measure => simp [intOf]; omega
                    · obtain ⟨w9, rfl⟩ : ∃ w9 : World, w9 = wr := ⟨_, rfl⟩
                      have HB9 := hide3 hbx
                      clear hbx
                      go_wp2_with fail
                      clear hlt hi
                      go_loopw [16, 17] (fun kk ii wr => ∃ i k : Nat, i ≤ n ∧ ii = .int .i64 i ∧ k = (outs O T i).length ∧ kk = .int .i64 k ∧ Below w8.heap.size w8 wr) (fun _ ii _ => n - (intOf ii).toNat)
                      case atStart => exact ⟨0, 0, Nat.zero_le _, rfl, rfl, rfl, HB9.out⟩
                      case round =>
                        obtain ⟨i, k, hi, rfl, hk, rfl, hbel⟩ := hrel
                        obtain ⟨wo, rfl⟩ : ∃ wo : World, wo = wr := ⟨_, rfl⟩
                        have HK := hide3 hk
                        have HBL := hide3 hbel
                        clear hk hbel
                        by_cases hlt : i < n
                        · obtain ⟨b, off, hoa, hb, hl⟩ := HS8.out.at hlt
                          cases hoa
                          have HLI := hide3 hl
                          obtain ⟨e1, _, _, _⟩ := (hl.below HBL.out hb) i hlt
                          obtain ⟨kd, hkd⟩ : ∃ kd, kd = (at4 O i).kind := ⟨_, rfl⟩
                          rw [← hkd] at e1
                          have HKD := hide3 hkd
                          clear hkd hl
                          by_cases h0 : kd = 0
                          · have b0 : (kd != 0) = false := by simp [h0]
                            have H0 := hide3 h0
                            clear h0
                            go_wp2_with fail
                            clear e1 b0
                            go_loopw [18, 19] (fun hh jj wr => ∃ j : Nat, j ≤ i ∧ jj = .int .i64 j ∧ ((hh = .bool false ∧ ∀ z, z < j → mtc O T (at4 O i).var (at4 O i).ver z = false) ∨ (hh = .bool true ∧ ∃ z, z < i ∧ mtc O T (at4 O i).var (at4 O i).ver z = true)) ∧ Below w8.heap.size w8 wr) (fun _ jj _ => i - (intOf jj).toNat)
                            case atStart => exact ⟨0, Nat.zero_le _, rfl, .inl ⟨rfl, fun z hz => by omega⟩, HBL.out⟩
                            case round =>
                              obtain ⟨j, hj, rfl, hh, hb6⟩ := hrel
                              have HB6 := hide3 hb6
                              clear hb6
                              rcases hh with ⟨rfl, hno⟩ | ⟨rfl, hex⟩
                              · have HNO := hide3 hno
                                clear hno
                                by_cases hji : j < i
                                · have htk := taken b off n cap w8.heap.size O T _ _ _ i j _ (HLI.out.below HB6.out hb) (HM8.out.below HB6.out) hlt (by omega) hT
                                  obtain ⟨r, hr⟩ : ∃ r, r = mtc O T (at4 O i).var (at4 O i).ver j := ⟨_, rfl⟩
                                  rw [← hr] at htk
                                  have HTK := hide3 htk
                                  have HR := hide3 hr
                                  clear hr htk
                                  go_wp2_with fail
                                  refine HTK.out.mono ?_
                                  rintro e w10 ⟨rfl, nq, hw10⟩
                                  have HB7 : Hid (Below w8.heap.size w8 w10) := hide3 (by rw [hw10]; exact below_drewN HB6.out nq)
                                  clear hw10
                                  cases r
                                  · go_wp2_with fail
                                    go_roundw
                                    case rel =>
                                      refine ⟨j + 1, by omega, by go_num, .inl ⟨rfl, fun z hz => ?_⟩, HB7.out⟩
                                      by_cases e : z = j
                                      · rw [e]; exact HR.out.symm
                                      · exact HNO.out z (by omega)
                                    case measure => simp [intOf]; omega
                                  · go_wp2_with fail
                                    go_roundw
                                    case rel => exact ⟨j + 1, by omega, by go_num, .inr ⟨rfl, j, hji, HR.out.symm⟩, HB7.out⟩
                                    case measure => simp [intOf]; omega
                                · obtain rfl : j = i := by omega
                                  go_wp2_with fail
                                  go_roundw
                                  case rel => exact ⟨j + 1, k, by omega, by go_num, (outs_skip (yielded1_unseen (lastW_of_none HNO.out))) ▸ HK.out, rfl, HB6.out⟩
                                  case measure => simp [intOf]; omega
                              · cases hlw : lastW O T (at4 O i).var (at4 O i).ver i with
                                | none =>
                                  obtain ⟨z, hz1, hz2⟩ := hex
                                  rw [lastW_none hlw z hz1] at hz2
                                  cases hz2
                                | some v0 =>
                                  clear hex
                                  obtain ⟨hv1, hv2, _⟩ := lastW_some hlw
                                  obtain ⟨f1, f2, f3⟩ := outs_at hlt (by rw [← HKD.out]; exact H0.out) hlw
                                  rw [← HK.out] at f1 f2 f3
                                  have htk := taken b off n cap w8.heap.size O T _ _ _ i v0 _ (HLI.out.below HB6.out hb) (HM8.out.below HB6.out) hlt (by omega) hT
                                  rw [hv2] at htk
                                  have HTK := hide3 htk
                                  obtain ⟨hkL, g1, hg1, p1⟩ := (HQ1.out.below HB6.out).at k v0 f1
                                  obtain ⟨_, g2, hg2, p2⟩ := (HQ2.out.below HB6.out).at k i f2
                                  cases hg1
                                  cases hg2
                                  have HF3 := hide3 f3
                                  clear f1 f2 f3 hlw hv2 htk
                                  have e1 : decide ((L : Int) ≤ (k : Int)) = false := by simp; omega
                                  have e2 : decide ((v0 : Int) < 0) = false := by simp
                                  have e3 : decide ((i : Int) ≤ (v0 : Int)) = false := by simp; omega
                                  by_cases hji : (j : Int) < (i : Int)
                                  · go_wp2_with fail
                                    refine HTK.out.mono ?_
                                    rintro e w10 ⟨rfl, nq, hw10⟩
                                    have HB7 : Hid (Below w8.heap.size w8 w10) := hide3 (by rw [hw10]; exact below_drewN HB6.out nq)
                                    clear hw10
                                    go_wp2_with fail
                                    go_roundw
                                    case rel => exact ⟨i + 1, k + 1, by omega, by go_num, HF3.out.symm, by go_num, HB7.out⟩
                                    case measure => simp [intOf]; omega
                                  · have hji' : decide ((j : Int) < (i : Int)) = false := by simp; omega
                                    go_wp2_with fail
                                    refine HTK.out.mono ?_
                                    rintro e w10 ⟨rfl, nq, hw10⟩
                                    have HB7 : Hid (Below w8.heap.size w8 w10) := hide3 (by rw [hw10]; exact below_drewN HB6.out nq)
                                    clear hw10
                                    go_wp2_with fail
                                    go_roundw
                                    case rel => exact ⟨i + 1, k + 1, by omega, by go_num, HF3.out.symm, by go_num, HB7.out⟩
                                    case measure => simp [intOf]; omega
                          · have b0 : (kd != 0) = true := by simp [h0]
                            have H0 := hide3 h0
                            clear h0
                            go_wp2_with fail
                            go_roundw
                            case rel => exact ⟨i + 1, k, by omega, by go_num, (outs_skip (yielded1_other (by rw [← HKD.out]; exact H0.out))) ▸ HK.out, rfl, HBL.out⟩
                            case measure => simp [intOf]; omega
                        · obtain rfl : i = n := by omega
                          obtain rfl : k = L := HK.out.trans HL.out.symm
                          go_wp2_with fail
                          go_ret
                          exact ⟨rfl, HB8'.out.trans (HBL.out.mono HB8'.out.size)⟩
                · have y1 : decide ((m : Int) < (L : Int)) = false := by simp; omega
                  go_wp2_with fail
                  clear y1
                  go_loopw [15] (fun v wr => ∃ i : Nat, i ≤ m ∧ v = .int .i64 i ∧ Below w8.heap.size w8 wr) (fun v _ => m - (intOf v).toNat)
                  case atStart => exact ⟨0, Nat.zero_le _, rfl, Below.refl _ _⟩
                  case round =>
                    obtain ⟨i, hi, rfl, hbx⟩ := hrel
                    by_cases hlt : i < m
                    · obtain ⟨a, b, f1, f2, f3, f4, _⟩ := outs_early (O := O) (T := T) hqn (by rw [← HMM.out]; exact hlt)
                      obtain ⟨_, g1, hg1, p1⟩ := (HQ1.out.below hbx).at i a f1
                      obtain ⟨_, g2, hg2, p2⟩ := (HQ2.out.below hbx).at i b f2
                      obtain ⟨_, g3, hg3, p3⟩ := (HR3.out.below hbx).at i a f3
                      obtain ⟨_, g4, hg4, p4⟩ := (HR4.out.below hbx).at i b f4
                      cases hg1
                      cases hg2
                      cases hg3
                      cases hg4
                      have HBX := hide3 hbx
                      clear f1 f2 f3 f4 hbx
                      have i1 : (i : Int) < (m : Int) := by omega
                      have i2 : (i : Int) < (L : Int) := by omega
                      go_wp2_with fail
                      go_quiet (fail)
                      go_wp2
                      go_roundw
                      case rel => exact ⟨i + 1, by omega, by go_num, below_drewN HBX.out _⟩
                      case measure => simp [intOf]; omega
                    · obtain ⟨w9, rfl⟩ : ∃ w9 : World, w9 = wr := ⟨_, rfl⟩
                      have HB9 := hide3 hbx
                      clear hbx
                      go_wp2_with fail
                      clear hlt hi
                      go_loopw [16, 17] (fun kk ii wr => ∃ i k : Nat, i ≤ n ∧ ii = .int .i64 i ∧ k = (outs O T i).length ∧ kk = .int .i64 k ∧ Below w8.heap.size w8 wr) (fun _ ii _ => n - (intOf ii).toNat)
                      case atStart => exact ⟨0, 0, Nat.zero_le _, rfl, rfl, rfl, HB9.out⟩
                      case round =>
                        obtain ⟨i, k, hi, rfl, hk, rfl, hbel⟩ := hrel
                        obtain ⟨wo, rfl⟩ : ∃ wo : World, wo = wr := ⟨_, rfl⟩
                        have HK := hide3 hk
                        have HBL := hide3 hbel
                        clear hk hbel
                        by_cases hlt : i < n
                        · obtain ⟨b, off, hoa, hb, hl⟩ := HS8.out.at hlt
                          cases hoa
                          have HLI := hide3 hl
                          obtain ⟨e1, _, _, _⟩ := (hl.below HBL.out hb) i hlt
                          obtain ⟨kd, hkd⟩ : ∃ kd, kd = (at4 O i).kind := ⟨_, rfl⟩
                          rw [← hkd] at e1
                          have HKD := hide3 hkd
                          clear hkd hl
                          by_cases h0 : kd = 0
                          · have b0 : (kd != 0) = false := by simp [h0]
                            have H0 := hide3 h0
                            clear h0
                            go_wp2_with fail
                            clear e1 b0
                            go_loopw [18, 19] (fun hh jj wr => ∃ j : Nat, j ≤ i ∧ jj = .int .i64 j ∧ ((hh = .bool false ∧ ∀ z, z < j → mtc O T (at4 O i).var (at4 O i).ver z = false) ∨ (hh = .bool true ∧ ∃ z, z < i ∧ mtc O T (at4 O i).var (at4 O i).ver z = true)) ∧ Below w8.heap.size w8 wr) (fun _ jj _ => i - (intOf jj).toNat)
                            case atStart => exact ⟨0, Nat.zero_le _, rfl, .inl ⟨rfl, fun z hz => by omega⟩, HBL.out⟩
                            case round =>
                              obtain ⟨j, hj, rfl, hh, hb6⟩ := hrel
                              have HB6 := hide3 hb6
                              clear hb6
                              rcases hh with ⟨rfl, hno⟩ | ⟨rfl, hex⟩
                              · have HNO := hide3 hno
                                clear hno
                                by_cases hji : j < i
                                · have htk := taken b off n cap w8.heap.size O T _ _ _ i j _ (HLI.out.below HB6.out hb) (HM8.out.below HB6.out) hlt (by omega) hT
                                  obtain ⟨r, hr⟩ : ∃ r, r = mtc O T (at4 O i).var (at4 O i).ver j := ⟨_, rfl⟩
                                  rw [← hr] at htk
                                  have HTK := hide3 htk
                                  have HR := hide3 hr
                                  clear hr htk
                                  go_wp2_with fail
                                  refine HTK.out.mono ?_
                                  rintro e w10 ⟨rfl, nq, hw10⟩
                                  have HB7 : Hid (Below w8.heap.size w8 w10) := hide3 (by rw [hw10]; exact below_drewN HB6.out nq)
                                  clear hw10
                                  cases r
                                  · go_wp2_with fail
                                    go_roundw
                                    case rel =>
                                      refine ⟨j + 1, by omega, by go_num, .inl ⟨rfl, fun z hz => ?_⟩, HB7.out⟩
                                      by_cases e : z = j
                                      · rw [e]; exact HR.out.symm
                                      · exact HNO.out z (by omega)
                                    case measure => simp [intOf]; omega
                                  · go_wp2_with fail
                                    go_roundw
                                    case rel => exact ⟨j + 1, by omega, by go_num, .inr ⟨rfl, j, hji, HR.out.symm⟩, HB7.out⟩
                                    case measure => simp [intOf]; omega
                                · obtain rfl : j = i := by omega
                                  go_wp2_with fail
                                  go_roundw
                                  case rel => exact ⟨j + 1, k, by omega, by go_num, (outs_skip (yielded1_unseen (lastW_of_none HNO.out))) ▸ HK.out, rfl, HB6.out⟩
                                  case measure => simp [intOf]; omega
                              · cases hlw : lastW O T (at4 O i).var (at4 O i).ver i with
                                | none =>
                                  obtain ⟨z, hz1, hz2⟩ := hex
                                  rw [lastW_none hlw z hz1] at hz2
                                  cases hz2
                                | some v0 =>
                                  clear hex
                                  obtain ⟨hv1, hv2, _⟩ := lastW_some hlw
                                  obtain ⟨f1, f2, f3⟩ := outs_at hlt (by rw [← HKD.out]; exact H0.out) hlw
                                  rw [← HK.out] at f1 f2 f3
                                  have htk := taken b off n cap w8.heap.size O T _ _ _ i v0 _ (HLI.out.below HB6.out hb) (HM8.out.below HB6.out) hlt (by omega) hT
                                  rw [hv2] at htk
                                  have HTK := hide3 htk
                                  obtain ⟨hkL, g1, hg1, p1⟩ := (HQ1.out.below HB6.out).at k v0 f1
                                  obtain ⟨_, g2, hg2, p2⟩ := (HQ2.out.below HB6.out).at k i f2
                                  cases hg1
                                  cases hg2
                                  have HF3 := hide3 f3
                                  clear f1 f2 f3 hlw hv2 htk
                                  have e1 : decide ((L : Int) ≤ (k : Int)) = false := by simp; omega
                                  have e2 : decide ((v0 : Int) < 0) = false := by simp
                                  have e3 : decide ((i : Int) ≤ (v0 : Int)) = false := by simp; omega
                                  by_cases hji : (j : Int) < (i : Int)
                                  · go_wp2_with fail
                                    refine HTK.out.mono ?_
                                    rintro e w10 ⟨rfl, nq, hw10⟩
                                    have HB7 : Hid (Below w8.heap.size w8 w10) := hide3 (by rw [hw10]; exact below_drewN HB6.out nq)
                                    clear hw10
                                    go_wp2_with fail
                                    go_roundw
                                    case rel => exact ⟨i + 1, k + 1, by omega, by go_num, HF3.out.symm, by go_num, HB7.out⟩
                                    case measure => simp [intOf]; omega
                                  · have hji' : decide ((j : Int) < (i : Int)) = false := by simp; omega
                                    go_wp2_with fail
                                    refine HTK.out.mono ?_
                                    rintro e w10 ⟨rfl, nq, hw10⟩
                                    have HB7 : Hid (Below w8.heap.size w8 w10) := hide3 (by rw [hw10]; exact below_drewN HB6.out nq)
                                    clear hw10
                                    go_wp2_with fail
                                    go_roundw
                                    case rel => exact ⟨i + 1, k + 1, by omega, by go_num, HF3.out.symm, by go_num, HB7.out⟩
                                    case measure => simp [intOf]; omega
                          · have b0 : (kd != 0) = true := by simp [h0]
                            have H0 := hide3 h0
                            clear h0
                            go_wp2_with fail
                            go_roundw
                            case rel => exact ⟨i + 1, k, by omega, by go_num, (outs_skip (yielded1_other (by rw [← HKD.out]; exact H0.out))) ▸ HK.out, rfl, HBL.out⟩
                            case measure => simp [intOf]; omega
                        · obtain rfl : i = n := by omega
                          obtain rfl : k = L := HK.out.trans HL.out.symm
                          go_wp2_with fail
                          go_ret
                          exact ⟨rfl, HB8'.out.trans (HBL.out.mono HB8'.out.size)⟩
  · go_wp2
    go_ret
    exact ⟨rfl, Below.refl _ _⟩

end Go.Proofs.Qxb6612671a
