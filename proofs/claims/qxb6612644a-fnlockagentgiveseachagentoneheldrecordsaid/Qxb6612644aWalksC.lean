import Derived.Test.Qxb6612644aWalksB
import Derived.Deep.QuietTactic
import Derived.BigQuiet
import Derived.WalkSmall
namespace Go.Proofs.Qxb6612644a
open Go.MuLone Go.RowKit

/-- THE STATE BETWEEN TWO ROUNDS: the Log's map and the law's own set hold the same ids; under each id the Log holds a record of it, locked, with one user. -/
structure St (w : World) (lb mb kb n : Nat) (D E : DataW Unit) : Prop where
  log : Log w lb mb
  dmap : w.ownsMap Try.prog 9 ptrElem mb n D
  emap : w.ownsMap Try.prog 9 boolElem kb n E
  apart : mb ≠ kb
  size : Maps.size D = Maps.size E
  each : ∀ s : ByteArray, s.size ≤ maxLen → (Maps.has E (klit s) = false ∧ Maps.has D (klit s) = false) ∨
    (Maps.has E (klit s) = true ∧ E.atKey (klit s) (.lit (.bool false)) = .lit (.bool true) ∧ ∃ A : Nat, D.atKey (klit s) .nil = .lit (.int .i64 A) ∧ Agent w A s)

theorem St.start {w : World} {lb mb kb : Nat} (hl : Log w lb mb) (hd : w.ownsMap Try.prog 9 ptrElem mb 0 (.map [])) (he : w.ownsMap Try.prog 9 boolElem kb 0 (.map [])) (hne : mb ≠ kb) : St w lb mb kb 0 (.map []) (.map []) :=
  ⟨hl, hd, he, hne, rfl, fun _ _ => .inl ⟨rfl, rfl⟩⟩

theorem St.mono {w : World} {lb mb kb n m : Nat} {D E : DataW Unit} (h : St w lb mb kb n D E) (hm : n ≤ m) : St w lb mb kb m D E := ⟨h.log, h.dmap.mono hm, h.emap.mono hm, h.apart, h.size, h.each⟩
theorem St.drewN {w : World} {lb mb kb n : Nat} {D E : DataW Unit} (h : St w lb mb kb n D E) (k : Nat) : St (w.drewN k) lb mb kb n D E := ⟨h.log, h.dmap, h.emap, h.apart, h.size, h.each⟩

theorem Log.block {w w' : World} {lb mb : Nat} (h : Log w lb mb) (hb : w'.heap[lb]? = w.heap[lb]?) : Log w' lb mb := by
  obtain ⟨l2, l4, l7, lf, c, lc⟩ := h
  exact ⟨(World.cell?_of_block (w := w) (a := ⟨lb, 2, none⟩) hb).trans l2, (World.cell?_of_block (w := w) (a := ⟨lb, 4, none⟩) hb).trans l4, (World.cell?_of_block (w := w) (a := ⟨lb, 7, none⟩) hb).trans l7,
    (World.frozen?_of_block (w := w) (a := ⟨lb, 2, none⟩) hb).trans lf, c, hb.trans lc⟩
theorem Log.lt {w : World} {lb mb : Nat} (h : Log w lb mb) : lb < w.heap.size := block_lt_of_cell h.1

/-- The law's own set behind lockAgent. -/
theorem St.keptE {w w2 : World} {lb mb kb n : Nat} {D E : DataW Unit} (h : St w lb mb kb n D E) (hk : Kept w w2 lb mb) : w2.ownsMap Try.prog 9 boolElem kb n E := by
  have hb := hk.block kb h.emap.lt (h.log.ne_map h.emap) (Ne.symm h.apart)
  obtain ⟨es, c, hc, r⟩ := h.emap
  exact ⟨es, c, hb.trans hc, r⟩

/-- ONE AGENT MORE. -/
theorem St.step {w w2 w3 : World} {lb mb kb n A : Nat} {D E : DataW Unit} {s : ByteArray} (h : St w lb mb kb n D E) (hs : s.size ≤ maxLen) (hno : Maps.has E (klit s) = false)
    (hl2 : Log w2 lb mb) (hd2 : w2.ownsMap Try.prog 9 ptrElem mb (n + 1) (D.put (klit s) (.lit (.int .i64 A)))) (ha2 : Agent w2 A s) (hk : Kept w w2 lb mb)
    (he3 : w3.ownsMap Try.prog 9 boolElem kb (n + 1) (E.put (klit s) (.lit (.bool true)))) (hg : w2.grownBy w3 (some kb)) :
    St w3 lb mb kb (n + 1) (D.put (klit s) (.lit (.int .i64 A))) (E.put (klit s) (.lit (.bool true))) ∧ Agent w3 A s ∧ (D.put (klit s) (.lit (.int .i64 A))).atKey (klit s) .nil = .lit (.int .i64 A) := by
  have hnoD : Maps.has D (klit s) = false := by
    rcases h.each s hs with h1 | h1
    · exact h1.2
    · rw [hno] at h1; cases h1.1
  have hlk : lb ≠ kb := Ne.symm (h.log.ne_map h.emap)
  have keep : ∀ (B : Nat) (t : ByteArray), Agent w2 B t → Agent w3 B t := fun B t hb => by
    have hBk : B ≠ kb := hb.ne_map (h.keptE hk)
    exact (hg.block B hb.lt (by simpa using hBk)).trans hb
  have hat : (D.put (klit s) (.lit (.int .i64 A))).atKey (klit s) .nil = .lit (.int .i64 A) := Maps.atKey_put_same h.dmap.isMap (key_lit s hs) _ _
  refine ⟨⟨hl2.block (hg.block lb hl2.lt (by simpa using hlk)), hd2.kept hg (by simpa using h.apart), he3, h.apart, ?_, ?_⟩, keep A s ha2, hat⟩
  · rw [Maps.size_put (h.dmap.tidy law9), Maps.size_put (h.emap.tidy law9), hno, hnoD]
    simp [h.size]
  · intro t ht
    by_cases e : t = s
    · subst e
      exact .inr ⟨Maps.has_put_same h.emap.isMap (key_lit t ht) _, Maps.atKey_put_same h.emap.isMap (key_lit t ht) _ _, A, hat, keep A t ha2⟩
    · have hne : klit t ≠ klit s := fun hh => e (klit_inj hh)
      rw [Maps.has_put_other hne, Maps.has_put_other hne, Maps.atKey_put_other hne, Maps.atKey_put_other hne]
      rcases h.each t ht with h1 | ⟨h1, h2, B, h3, h4⟩
      · exact .inl h1
      · exact .inr ⟨h1, h2, B, h3, keep B t (h4.kept hk (h4.ne_log h.log) (h4.ne_map h.dmap))⟩

/-- The first n strings are short. -/
def Short (ss : List ByteArray) (n : Nat) : Prop := ∀ j, j < n → (ss.getD j ByteArray.empty).size ≤ 1048576
theorem Short.step {ss : List ByteArray} {n : Nat} (h : Short ss n) {s : ByteArray} (hs : Hid (s = ss.getD n ByteArray.empty)) (hl : s.size ≤ 1048576) : Short ss (n + 1) := fun j hj => by
  by_cases e : j < n
  · exact h j e
  · obtain rfl : j = n := by omega
    rw [← hs.out]; exact hl

set_option maxHeartbeats 2000000 in
/-- The bound on total length: it says yes or no; nothing turns. -/
theorem zz5_some (b off n cap : Nat) (ss : List ByteArray) (w : World) (hc : ∀ j, j < n → w.cell? ⟨b, off + j, none⟩ = some (.string (ss.getD j ByteArray.empty))) (hsz : ∀ j, (ss.getD j ByteArray.empty).size ≤ maxLen) (hn : n ≤ 1048576) :
    Calls Try.prog 5 #[.slice (some ⟨b, off, none⟩) n cap] w fun e w' => ((e = .returned (.bool true) ∧ Short ss n) ∨ e = .returned (.bool false)) ∧ w = w' := by
  have HC := hide hc
  have HS := hide hsz
  clear hc hsz
  have h1 : decide ((1048576 : Int) < (n : Int)) = false := by simp; omega
  go_enter Try.func5, Try.ntmps5
  go_wp2
  go_loop [3, 4] (fun t i => ∃ k m : Nat, k ≤ n ∧ i = .int .i64 k ∧ m ≤ 1048576 ∧ t = .int .i64 m ∧ Short ss k) (fun _ i => n - (intOf i).toNat)
  case atStart => exact ⟨0, n, Nat.zero_le _, rfl, hn, rfl, fun j hj => by omega⟩
  case round =>
    obtain ⟨k, m, hk, rfl, hm, rfl, hsh⟩ := hrel
    by_cases hlt : k < n
    · obtain ⟨s, hs⟩ : ∃ s, s = ss.getD k ByteArray.empty := ⟨_, rfl⟩
      have hcell := HC.out k hlt
      have hl := HS.out k
      rw [← hs] at hcell hl
      have HSS := hide hs
      clear hs
      unfold maxLen at hl
      by_cases hb1 : (1048576 : Int) < (s.size : Int)
      · go_wp2
        go_ret
        exact ⟨.inr rfl, rfl⟩
      · by_cases hb2 : (1048576 : Int) < (m : Int) + (s.size : Int)
        · go_wp2
          go_ret
          exact ⟨.inr rfl, rfl⟩
        · go_wp2
          go_round
          case rel => exact ⟨k + 1, m + s.size, by omega, by go_num, by omega, by go_num, hsh.step HSS (by omega)⟩
          case measure => simp [intOf]; omega
    · go_wp2
      obtain rfl : k = n := by omega
      go_ret
      exact ⟨.inl ⟨rfl, hsh⟩, rfl⟩

theorem zz5_none (a : Option Addr) (cap : Nat) (w : World) :
    Calls Try.prog 5 #[.slice a 0 cap] w fun e w' => e = .returned (.bool true) ∧ w = w' := by
  go_enter Try.func5, Try.ntmps5
  go_wp2
  refine wp_loop_rounds 1 ?_
  rw [rounds_succ]
  go_wp2
  go_ret
  exact ⟨rfl, rfl⟩

theorem zz5_big (a : Option Addr) (n cap : Nat) (w : World) (h : ¬ n ≤ 1048576) :
    Calls Try.prog 5 #[.slice a n cap] w fun e w' => e = .returned (.bool false) ∧ w = w' := by
  have h1 : (1048576 : Int) < (n : Int) := by omega
  go_enter Try.func5, Try.ntmps5
  go_wp2
  go_ret
  exact ⟨rfl, rfl⟩

end Go.Proofs.Qxb6612644a
