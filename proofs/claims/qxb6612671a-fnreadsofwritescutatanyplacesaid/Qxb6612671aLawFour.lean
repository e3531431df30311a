import Derived.Test.Qxb6612671aBytes
namespace Go.Proofs.Qxb6612671a
open Go.RowKit Go.Shelf

/-- THE MASK AS IT IS HANDED IN. -/
def TakeSrc (w : World) (ta : Option Addr) (tl tc : Nat) (T : List Bool) : Prop := (ta = none ∧ tl = 0 ∧ tc = 0 ∧ T = []) ∨ ∃ ad, ta = some ad ∧ tl = T.length ∧ ∀ j, j < T.length → w.cell? (ad.add j) = some (.bool (takes T j))

set_option maxRecDepth 100000 in
set_option maxHeartbeats 4000000 in
theorem law4_small (oa : Option Addr) (n cap : Nat) (O : List Op4) (ta : Option Addr) (tl tc : Nat) (T : List Bool) (w : World) (hs : Src w oa n cap O) (hO : Fine O) (ht : TakeSrc w ta tl tc T) (hn : n ≤ 2048) (htl : tl ≤ 4096) :
    Calls Try.prog 4 #[.slice oa n cap, .slice ta tl tc] w fun e w' => e = .returned (.bool true) ∧ Below w.heap.size w w' := by
  have hne := fun w => run_neq_slice_nil_any (P := Try.prog) w 27 4 ta tl tc 0 0 Try.underlying27
  obtain ⟨i0, hi, hz0, hz1, hz2⟩ := info_parts info4
  have HS := hide3 hs
  have HO := hide3 hO
  clear hs hO
  have d1 : decide ((2048 : Int) < (n : Int)) = false := by simp; omega
  have d2 : decide ((4096 : Int) < (tl : Int)) = false := by simp; omega
  go_enter Try.func4, Try.ntmps4
  go_wp2_with fail
  refine (zz7 oa n cap O ta tl tc _ HS.out HO.out).mono ?_
  rintro e w' ⟨h, hw⟩
  subst hw
  rcases h with ⟨rfl, hsh⟩ | rfl
  · have HSH := hide3 hsh
    clear hsh
    rcases ht with ⟨rfl, rfl, rfl, hT0⟩ | ⟨ad, rfl, rfl, hc⟩
    · go_wp2_with fail
      generalize hw2 : w = w2
      have HB2 : Hid (Below w.heap.size w w2) := hide3 (by rw [← hw2]; exact Below.refl _ _)
      have HS2 : Hid (Src w2 oa n cap O) := hide3 (by rw [← hw2]; exact HS.out)
      have HM2 : Hid (Mask w2.heap.size w2 (.slice none 0 0) T) := hide3 (.inl ⟨rfl, hT0⟩)
      have hT : T.length ≤ 4096 := by rw [hT0]; simp
      clear hw2 hT0
      clear hne hi hz0 hz1 hz2 d1 d2 HS
      go_loop [6, 7] (fun t i => ∃ k m : Nat, k ≤ n ∧ i = .int .i64 k ∧ m ≤ 1048576 ∧ t = .int .i64 m) (fun _ i => n - (intOf i).toNat)
      case atStart => exact ⟨0, _, Nat.zero_le _, rfl, Nat.le_trans htl (by omega), rfl⟩
      case round =>
        obtain ⟨k, m, hk, rfl, hm, rfl⟩ := hrel
        by_cases hlt : k < n
        · obtain ⟨b, off, rfl, hb, hl⟩ := HS2.out.at hlt
          obtain ⟨o, ho⟩ : ∃ o, o = at4 O k := ⟨_, rfl⟩
          obtain ⟨_, _, c3, _⟩ := hl k hlt
          have hsz := HSH.out k hlt
          rw [← ho] at c3 hsz
          clear ho hl
          by_cases hb2 : (1048576 : Int) < (m : Int) + (40 + (o.var.size : Int))
          · go_wp2
            go_ret
            exact ⟨rfl, HB2.out⟩
          · go_wp2
            go_round
            case rel => exact ⟨k + 1, m + (40 + o.var.size), by omega, by go_num, by omega, by go_num⟩
            case measure => simp [intOf]; omega
        · clear hk hm
          go_wp2_with (first
            | (go_at_call 10; refine (toOps_any oa n cap O _ HS2.out hn).mono ?_; rintro e w3 ⟨oa3, cap3, rfl, ho3, hb3⟩; have HO3 := hide3 ho3; have HB3 := hide3 hb3; clear ho3 hb3)
            | (go_at_call 9; refine (newOps oa3 n cap3 _).mono ?_; rintro e w4 ⟨rfl, hc4, hb4, hs4⟩; have HC4 := hide3 hc4; have HB4 := hide3 hb4; have HS4 := hide3 hs4; clear hc4 hb4 hs4)
            | (go_at_call 8; refine (zzReads w3.heap.size n (.slice oa3 n cap3) O _ _ _ _ w4 hn hT HO.out HS4.out HC4.out ((((HM2.out.below HB3.out).grow HB3.out.size).below HB4.out).grow HB4.out.size) ((HO3.out.below HB4.out).grow HB4.out.size)).mono ?_; rintro e w5 ⟨v, u, rfl, hv, hu, hb5⟩; obtain ⟨a1, c1, rfl, hr1⟩ := Row.of hv; obtain ⟨a2, c2, rfl, hr2⟩ := Row.of hu; have HR1 := hide3 hr1; have HR2 := hide3 hr2; have HB5 := hide3 hb5; clear hv hu hr1 hr2 hb5))
          have HB5' : Hid (Below w.heap.size w w5) := hide3 (HB2.out.trans ((HB3.out.mono HB2.out.size).trans ((HB4.out.mono (Nat.le_trans HB2.out.size HB3.out.size)).trans (HB5.out.mono (Nat.le_trans HB2.out.size (Nat.le_trans HB3.out.size HB4.out.size))))))
          have HS5 := hide3 (((HS2.out.below HB3.out).below HB4.out).below HB5.out)
          have HM5 := hide3 ((((((HM2.out.below HB3.out).grow HB3.out.size).below HB4.out).grow HB4.out.size).below HB5.out).grow HB5.out.size)
          obtain ⟨L, hL⟩ : ∃ L, L = (outs O T n).length := ⟨_, rfl⟩
          rw [← hL] at HR1 HR2 ⊢
          have HL := hide3 hL
          clear hL HB2 HB3 HB4 HB5 HS2 HM2 HO3 HC4 HS4 hlt
          go_loopw [10, 11] (fun kk ii wr => ∃ i k : Nat, i ≤ n ∧ ii = .int .i64 i ∧ k = (outs O T i).length ∧ kk = .int .i64 k ∧ Below w5.heap.size w5 wr) (fun _ ii _ => n - (intOf ii).toNat)
          case atStart => exact ⟨0, 0, Nat.zero_le _, rfl, rfl, rfl, Below.refl _ _⟩
          case round =>
            obtain ⟨i, k, hi, rfl, hk, rfl, hbel⟩ := hrel
            obtain ⟨wo, rfl⟩ : ∃ wo : World, wo = wr := ⟨_, rfl⟩
            have HK := hide3 hk
            have HBL := hide3 hbel
            clear hk hbel
            by_cases hlt : i < n
            · obtain ⟨b, off, rfl, hb, hl⟩ := HS5.out.at hlt
              have HLI := hide3 hl
              obtain ⟨c1, _, _, _⟩ := (hl.below HBL.out hb) i hlt
              obtain ⟨kd, hkd⟩ : ∃ kd, kd = (at4 O i).kind := ⟨_, rfl⟩
              rw [← hkd] at c1
              have HKD := hide3 hkd
              clear hkd hl
              by_cases h0 : kd = 0
              · have b0 : (kd != 0) = false := by simp [h0]
                have H0 := hide3 h0
                clear h0
                go_wp2_with fail
                clear c1 b0
                go_loopw [12, 13] (fun ww jj wr => ∃ (j1 : Nat) (x : Int), j1 ≤ i ∧ x = (j1 : Int) - 1 ∧ jj = .int .i64 x ∧ ww = .int .i64 (-1) ∧ (∀ j, j1 ≤ j → j < i → mtc O T (at4 O i).var (at4 O i).ver j = false) ∧ Below w5.heap.size w5 wr) (fun _ jj _ => (intOf jj + 1).toNat)
                case atStart => exact ⟨i, _, Nat.le_refl _, rfl, rfl, rfl, fun j h1 h2 => by omega, HBL.out⟩
                case round =>
                  obtain ⟨j1, x, hj1, hx, rfl, rfl, hno, hb6⟩ := hrel
                  have HNO := hide3 hno
                  have HB6 := hide3 hb6
                  clear hno hb6
                  rcases j1 with _ | j
                  · obtain rfl : x = -1 := by omega
                    clear hx
                    go_wp2_with fail
                    go_roundw
                    case rel => exact ⟨i + 1, k, by omega, by go_num, (outs_skip (yielded1_unseen (lastW_of_none fun j hj => HNO.out j (Nat.zero_le _) hj))) ▸ HK.out, rfl, HB6.out⟩
                    case measure => simp [intOf]; omega
                  · obtain rfl : x = (j : Int) := by omega
                    clear hx
                    have htk := taken b off n cap w5.heap.size O T _ _ _ i j _ (HLI.out.below HB6.out hb) (HM5.out.below HB6.out) hlt (by omega) hT
                    obtain ⟨r, hr⟩ : ∃ r, r = mtc O T (at4 O i).var (at4 O i).ver j := ⟨_, rfl⟩
                    rw [← hr] at htk
                    have HTK := hide3 htk
                    have HR := hide3 hr
                    clear hr htk
                    have g0 : decide ((0 : Int) ≤ (j : Int)) = true := by simp
                    go_wp2_with fail
                    refine HTK.out.mono ?_
                    rintro e w6 ⟨rfl, nq, hw6⟩
                    have HB7 : Hid (Below w5.heap.size w5 w6) := hide3 (by rw [hw6]; exact below_drewN HB6.out nq)
                    clear hw6
                    cases r
                    · go_wp2_with fail
                      go_roundw
                      case rel =>
                        refine ⟨j, _, by omega, rfl, by go_num, rfl, fun q h1 h2 => ?_, HB7.out⟩
                        by_cases e : q = j
                        · rw [e]; exact HR.out.symm
                        · exact HNO.out q (by omega) h2
                      case measure => first | (simp [intOf]; done) | (simp [intOf]; omega)
                    · obtain ⟨f1, f2, f3⟩ := outs_at hlt (by rw [← HKD.out]; exact H0.out) (lastW_of (show j < i by omega) HR.out.symm (fun q h1 h2 => HNO.out q (by omega) h2))
                      rw [← HK.out] at f1 f2 f3
                      obtain ⟨hkL, g1, hg1, p1⟩ := (HR1.out.below HB7.out).at k j f1
                      obtain ⟨_, g2, hg2, p2⟩ := (HR2.out.below HB7.out).at k i f2
                      subst hg1
                      subst hg2
                      have HF3 := hide3 f3
                      clear f1 f2 f3
                      have hLn : k < 2048 := by have := outs_length O T n; have := HL.out; omega
                      have e1 : decide ((L : Int) ≤ (k : Int)) = false := by simp; omega
                      have e2 : decide ((j : Int) < 0) = false := by simp
                      go_wp2_with fail
                      go_roundw
                      case rel => exact ⟨i + 1, k + 1, by omega, by go_num, HF3.out.symm, by go_num, HB7.out⟩
                      case measure => simp [intOf]; omega
              · have b0 : (kd != 0) = true := by simp [h0]
                have H0 := hide3 h0
                clear h0
                go_wp2_with fail
                go_roundw
                case rel => exact ⟨i + 1, k, by omega, by go_num, (outs_skip (yielded1_other (by rw [← HKD.out]; exact H0.out))) ▸ HK.out, rfl, HBL.out⟩
                case measure => simp [intOf]; omega
            · obtain rfl : i = n := by omega
              obtain rfl : k = L := HK.out.trans HL.out.symm
              go_wp2_with fail
              go_ret
              exact ⟨rfl, HB5'.out.trans (HBL.out.mono HB5'.out.size)⟩
    · obtain ⟨X, hX⟩ : ∃ X, X = T.map Value.bool := ⟨_, rfl⟩
      have HX := hide3 hX
      have HXl : Hid (X.length = T.length) := hide3 (by rw [hX]; simp)
      have HX1 : Hid (∀ v ∈ X, v.oneCell' = true) := hide3 (by rw [hX]; exact bools_oneCell _)
      have HC := hide3 hc
      clear hX hc
      go_wp2_with (first
        | (at_make; refine wpList_make_full _ rfl _ _ 27 rfl w.heap.size 4 i0 (.bool false) 1 Try.underlying27 hi hz0 hz1 _ _ _ _ T.length rfl rfl rfl rfl (by rw [hz2]; omega) (by unfold maxLen; omega) (Nat.le_refl _) ?_; intro w1 hown hgr; obtain ⟨cur, hcl, hg⟩ := row_of_owns hown; have hB1 := (Below.refl w.heap.size w).grown hgr (Nat.le_refl _) (fun k e => by cases e); have HCL := hide3 hcl; clear hown hcl)
        | (refine wpList_copy_splice rfl _ _ 27 27 rfl 4 Try.underlying27 size4 _ _ _ _ _ _ rfl rfl w.heap.size 0 cur 4 hg X (by rw [HXl.out]; simp) (fun _ => ⟨rfl, ad, rfl, source_kept hgr HX HC.out⟩) (by rw [HXl.out, HCL.out]; omega) HX1.out w.heap.size w hB1 (Nat.le_refl _) ?_; clear hg hB1; intro w2 HG hB2))
      have hc2 : ∀ j, j < T.length → w2.cell? ⟨w.heap.size, j, none⟩ = some (.bool (takes T j)) := fun j hj => copied_mask (by have := HG.out; rwa [splice_whole cur X (by rw [HXl.out, HCL.out]), HX.out] at this) j hj
      have hs2 : w.heap.size < w2.heap.size := (Array.getElem?_eq_some_iff.1 HG.out).1
      have HB2 := hide3 hB2
      have HS2 := hide3 (HS.out.below hB2)
      have HM2 : Hid (Mask w2.heap.size w2 (.slice (some ⟨w.heap.size, 0, none⟩) T.length T.length) T) := hide3 (.inr ⟨_, _, rfl, hs2, hc2⟩)
      have hT := htl
      clear HG HXl HCL HX HX1 HC hc2 hs2 hB2
      clear hne hi hz0 hz1 hz2 d1 d2 HS
      go_loop [6, 7] (fun t i => ∃ k m : Nat, k ≤ n ∧ i = .int .i64 k ∧ m ≤ 1048576 ∧ t = .int .i64 m) (fun _ i => n - (intOf i).toNat)
      case atStart => exact ⟨0, _, Nat.zero_le _, rfl, Nat.le_trans htl (by omega), rfl⟩
      case round =>
        obtain ⟨k, m, hk, rfl, hm, rfl⟩ := hrel
        by_cases hlt : k < n
        · obtain ⟨b, off, rfl, hb, hl⟩ := HS2.out.at hlt
          obtain ⟨o, ho⟩ : ∃ o, o = at4 O k := ⟨_, rfl⟩
          obtain ⟨_, _, c3, _⟩ := hl k hlt
          have hsz := HSH.out k hlt
          rw [← ho] at c3 hsz
          clear ho hl
          by_cases hb2 : (1048576 : Int) < (m : Int) + (40 + (o.var.size : Int))
          · go_wp2
            go_ret
            exact ⟨rfl, HB2.out⟩
          · go_wp2
            go_round
            case rel => exact ⟨k + 1, m + (40 + o.var.size), by omega, by go_num, by omega, by go_num⟩
            case measure => simp [intOf]; omega
        · clear hk hm
          go_wp2_with (first
            | (go_at_call 10; refine (toOps_any oa n cap O _ HS2.out hn).mono ?_; rintro e w3 ⟨oa3, cap3, rfl, ho3, hb3⟩; have HO3 := hide3 ho3; have HB3 := hide3 hb3; clear ho3 hb3)
            | (go_at_call 9; refine (newOps oa3 n cap3 _).mono ?_; rintro e w4 ⟨rfl, hc4, hb4, hs4⟩; have HC4 := hide3 hc4; have HB4 := hide3 hb4; have HS4 := hide3 hs4; clear hc4 hb4 hs4)
            | (go_at_call 8; refine (zzReads w3.heap.size n (.slice oa3 n cap3) O _ _ _ _ w4 hn hT HO.out HS4.out HC4.out ((((HM2.out.below HB3.out).grow HB3.out.size).below HB4.out).grow HB4.out.size) ((HO3.out.below HB4.out).grow HB4.out.size)).mono ?_; rintro e w5 ⟨v, u, rfl, hv, hu, hb5⟩; obtain ⟨a1, c1, rfl, hr1⟩ := Row.of hv; obtain ⟨a2, c2, rfl, hr2⟩ := Row.of hu; have HR1 := hide3 hr1; have HR2 := hide3 hr2; have HB5 := hide3 hb5; clear hv hu hr1 hr2 hb5))
          have HB5' : Hid (Below w.heap.size w w5) := hide3 (HB2.out.trans ((HB3.out.mono HB2.out.size).trans ((HB4.out.mono (Nat.le_trans HB2.out.size HB3.out.size)).trans (HB5.out.mono (Nat.le_trans HB2.out.size (Nat.le_trans HB3.out.size HB4.out.size))))))
          have HS5 := hide3 (((HS2.out.below HB3.out).below HB4.out).below HB5.out)
          have HM5 := hide3 ((((((HM2.out.below HB3.out).grow HB3.out.size).below HB4.out).grow HB4.out.size).below HB5.out).grow HB5.out.size)
          obtain ⟨L, hL⟩ : ∃ L, L = (outs O T n).length := ⟨_, rfl⟩
          rw [← hL] at HR1 HR2 ⊢
          have HL := hide3 hL
          clear hL HB2 HB3 HB4 HB5 HS2 HM2 HO3 HC4 HS4 hlt
          go_loopw [10, 11] (fun kk ii wr => ∃ i k : Nat, i ≤ n ∧ ii = .int .i64 i ∧ k = (outs O T i).length ∧ kk = .int .i64 k ∧ Below w5.heap.size w5 wr) (fun _ ii _ => n - (intOf ii).toNat)
          case atStart => exact ⟨0, 0, Nat.zero_le _, rfl, rfl, rfl, Below.refl _ _⟩
          case round =>
            obtain ⟨i, k, hi, rfl, hk, rfl, hbel⟩ := hrel
            obtain ⟨wo, rfl⟩ : ∃ wo : World, wo = wr := ⟨_, rfl⟩
            have HK := hide3 hk
            have HBL := hide3 hbel
            clear hk hbel
            by_cases hlt : i < n
            · obtain ⟨b, off, rfl, hb, hl⟩ := HS5.out.at hlt
              have HLI := hide3 hl
              obtain ⟨c1, _, _, _⟩ := (hl.below HBL.out hb) i hlt
              obtain ⟨kd, hkd⟩ : ∃ kd, kd = (at4 O i).kind := ⟨_, rfl⟩
              rw [← hkd] at c1
              have HKD := hide3 hkd
              clear hkd hl
              by_cases h0 : kd = 0
              · have b0 : (kd != 0) = false := by simp [h0]
                have H0 := hide3 h0
                clear h0
                go_wp2_with fail
                clear c1 b0
                go_loopw [12, 13] (fun ww jj wr => ∃ (j1 : Nat) (x : Int), j1 ≤ i ∧ x = (j1 : Int) - 1 ∧ jj = .int .i64 x ∧ ww = .int .i64 (-1) ∧ (∀ j, j1 ≤ j → j < i → mtc O T (at4 O i).var (at4 O i).ver j = false) ∧ Below w5.heap.size w5 wr) (fun _ jj _ => (intOf jj + 1).toNat)
                case atStart => exact ⟨i, _, Nat.le_refl _, rfl, rfl, rfl, fun j h1 h2 => by omega, HBL.out⟩
                case round =>
                  obtain ⟨j1, x, hj1, hx, rfl, rfl, hno, hb6⟩ := hrel
                  have HNO := hide3 hno
                  have HB6 := hide3 hb6
                  clear hno hb6
                  rcases j1 with _ | j
                  · obtain rfl : x = -1 := by omega
                    clear hx
                    go_wp2_with fail
                    go_roundw
                    case rel => exact ⟨i + 1, k, by omega, by go_num, (outs_skip (yielded1_unseen (lastW_of_none fun j hj => HNO.out j (Nat.zero_le _) hj))) ▸ HK.out, rfl, HB6.out⟩
                    case measure => simp [intOf]; omega
                  · obtain rfl : x = (j : Int) := by omega
                    clear hx
                    have htk := taken b off n cap w5.heap.size O T _ _ _ i j _ (HLI.out.below HB6.out hb) (HM5.out.below HB6.out) hlt (by omega) hT
                    obtain ⟨r, hr⟩ : ∃ r, r = mtc O T (at4 O i).var (at4 O i).ver j := ⟨_, rfl⟩
                    rw [← hr] at htk
                    have HTK := hide3 htk
                    have HR := hide3 hr
                    clear hr htk
                    have g0 : decide ((0 : Int) ≤ (j : Int)) = true := by simp
                    go_wp2_with fail
                    refine HTK.out.mono ?_
                    rintro e w6 ⟨rfl, nq, hw6⟩
                    have HB7 : Hid (Below w5.heap.size w5 w6) := hide3 (by rw [hw6]; exact below_drewN HB6.out nq)
                    clear hw6
                    cases r
                    · go_wp2_with fail
                      go_roundw
                      case rel =>
                        refine ⟨j, _, by omega, rfl, by go_num, rfl, fun q h1 h2 => ?_, HB7.out⟩
                        by_cases e : q = j
                        · rw [e]; exact HR.out.symm
                        · exact HNO.out q (by omega) h2
                      case measure => first | (simp [intOf]; done) | (simp [intOf]; omega)
                    · obtain ⟨f1, f2, f3⟩ := outs_at hlt (by rw [← HKD.out]; exact H0.out) (lastW_of (show j < i by omega) HR.out.symm (fun q h1 h2 => HNO.out q (by omega) h2))
                      rw [← HK.out] at f1 f2 f3
                      obtain ⟨hkL, g1, hg1, p1⟩ := (HR1.out.below HB7.out).at k j f1
                      obtain ⟨_, g2, hg2, p2⟩ := (HR2.out.below HB7.out).at k i f2
                      subst hg1
                      subst hg2
                      have HF3 := hide3 f3
                      clear f1 f2 f3
                      have hLn : k < 2048 := by have := outs_length O T n; have := HL.out; omega
                      have e1 : decide ((L : Int) ≤ (k : Int)) = false := by simp; omega
                      have e2 : decide ((j : Int) < 0) = false := by simp
                      go_wp2_with fail
                      go_roundw
                      case rel => exact ⟨i + 1, k + 1, by omega, by go_num, HF3.out.symm, by go_num, HB7.out⟩
                      case measure => simp [intOf]; omega
              · have b0 : (kd != 0) = true := by simp [h0]
                have H0 := hide3 h0
                clear h0
                go_wp2_with fail
                go_roundw
                case rel => exact ⟨i + 1, k, by omega, by go_num, (outs_skip (yielded1_other (by rw [← HKD.out]; exact H0.out))) ▸ HK.out, rfl, HBL.out⟩
                case measure => simp [intOf]; omega
            · obtain rfl : i = n := by omega
              obtain rfl : k = L := HK.out.trans HL.out.symm
              go_wp2_with fail
              go_ret
              exact ⟨rfl, HB5'.out.trans (HBL.out.mono HB5'.out.size)⟩
  · go_wp2
    go_ret
    exact ⟨rfl, Below.refl _ _⟩

end Go.Proofs.Qxb6612671a
