import Derived.Test.Qxb6612644aParts
namespace Go.Proofs.Qxb6612644a
open Go.MuLone Go.RowKit

theorem zzLock_new (lb mb n : Nat) (D : DataW Unit) (s : ByteArray) (w : World) (hl : Log w lb mb) (hown : w.ownsMap Try.prog 9 ptrElem mb n D) (hn : n ≤ 5000) (hs : s.size ≤ maxLen) (hno : D.atKey (klit s) .nil = .nil) :
    Calls Try.prog 7 #[.pointer (some ⟨lb, 0, none⟩), .string s] w fun e w' => e = .returned (.pointer (some ⟨w.heap.size, 0, none⟩)) ∧ Log w' lb mb ∧
      w'.ownsMap Try.prog 9 ptrElem mb (n + 1) (D.put (klit s) (.lit (.int .i64 w.heap.size))) ∧ Agent w' w.heap.size s ∧ Kept w w' lb mb := by
  have HL := hide hl
  have HO := hide hown
  have HN := hide hno
  clear hl hown hno
  go_enter Try.func7, Try.ntmps7
  go_wp2_with fail
  refine (lock_new lb mb n D s w HL.out HO.out hn hs HN.out).mono ?_
  rintro e w' ⟨rfl, h1, h2, h3, h4⟩
  have H1 := hide h1
  have H2 := hide h2
  have H3 := hide h3
  have H4 := hide h4
  clear h1 h2 h3 h4
  go_wp2
  go_ret
  exact ⟨rfl, H1.out, H2.out, H3.out, H4.out⟩

/-- 'ZZb1AgentOf(lg, s)' of an agent that the Log holds. -/
theorem agentOf_held (lb mb n A : Nat) (D : DataW Unit) (s : ByteArray) (w : World) (hl : Log w lb mb) (hown : w.ownsMap Try.prog 9 ptrElem mb n D) (hs : s.size ≤ maxLen) (hat : D.atKey (klit s) .nil = .lit (.int .i64 A)) :
    Calls Try.prog 8 #[.pointer (some ⟨lb, 0, none⟩), .string s] w fun e w' => e = .returned (.pointer (some ⟨A, 0, none⟩)) ∧ w = w' := by
  obtain ⟨l2, l4, l7, lf, c, lc⟩ := hl
  have HO := hide hown
  have HAT := hide hat
  have HK := hide (klit_key s hs)
  clear hown hat lc
  go_enter Try.func8, Try.ntmps8
  go_wp2_with (at_lookup; refine wpList_lookup_known _ rfl _ _ 36 rfl 9 27 law9 Try.underlying36 ptrElem _ (zero27 _) .nil [] rfl mb n D rfl HO.out _ _ rfl HK.out (.pointer (some ⟨A, 0, none⟩)) (fun v ps h => ptrElem_at (by rw [HAT.out] at h; exact h)) ?_)
  go_ret
  exact ⟨rfl, rfl⟩

theorem Agent.cells {w : World} {A : Nat} {s : ByteArray} (h : Agent w A s) : w.cell? ⟨A, 0, none⟩ = some (.int .i32 1) ∧ w.cell? ⟨A, 2, none⟩ = some (.string s) ∧ w.cell? ⟨A, 3, none⟩ = some (.int .i64 1) := by
  unfold Agent at h
  simp [World.cell?, h]

theorem agentID (A : Nat) (s : ByteArray) (w : World) (h : Agent w A s) :
    Calls Try.prog 9 #[.pointer (some ⟨A, 0, none⟩)] w fun e w' => e = .returned (.string s) ∧ w = w' := by
  obtain ⟨c0, c2, c3⟩ := h.cells
  clear h
  go_enter Try.func9, Try.ntmps9
  go_wp2
  go_ret
  exact ⟨rfl, rfl⟩

theorem agentUsers (A : Nat) (s : ByteArray) (w : World) (h : Agent w A s) :
    Calls Try.prog 10 #[.pointer (some ⟨A, 0, none⟩)] w fun e w' => e = .returned (.int .i64 1) ∧ w = w' := by
  obtain ⟨c0, c2, c3⟩ := h.cells
  clear h
  go_enter Try.func10, Try.ntmps10
  go_wp2
  go_ret
  exact ⟨rfl, rfl⟩

theorem agentsLen (lb mb n : Nat) (D : DataW Unit) (w : World) (hl : Log w lb mb) (hown : w.ownsMap Try.prog 9 ptrElem mb n D) :
    Calls Try.prog 11 #[.pointer (some ⟨lb, 0, none⟩)] w fun e w' => e = .returned (.int .i64 (Maps.size D)) ∧ w = w' := by
  obtain ⟨l2, l4, l7, lf, c, lc⟩ := hl
  have HO := hide hown
  clear hown lc
  go_enter Try.func11, Try.ntmps11
  go_wp2_with (at_len; refine wpList_len_own _ rfl _ 36 rfl 9 27 Try.underlying36 ptrElem mb n D rfl HO.out ?_)
  go_ret
  exact ⟨rfl, rfl⟩

theorem idle (lb mb : Nat) (w : World) (hl : Log w lb mb) :
    Calls Try.prog 12 #[.pointer (some ⟨lb, 0, none⟩)] w fun e w' => e = .returned (.int .i64 0) ∧ w = w' := by
  obtain ⟨l2, l4, l7, lf, c, lc⟩ := hl
  clear lc
  go_enter Try.func12, Try.ntmps12
  go_wp2
  go_ret
  exact ⟨rfl, rfl⟩

theorem agentTry (A : Nat) (s : ByteArray) (w : World) (h : Agent w A s) :
    Calls Try.prog 14 #[.pointer (some ⟨A, 0, none⟩)] w fun e w' => e = .returned (.bool false) ∧ w = w' := by
  obtain ⟨c0, c2, c3⟩ := h.cells
  clear h
  go_enter Try.func14, Try.ntmps14
  go_wp2_with (go_at_call 18; refine (try_held A 0 _ c0).mono ?_; rintro e w' ⟨rfl, rfl⟩)
  go_ret
  exact ⟨rfl, rfl⟩

/-- The Log's own lock tried and let go of again. -/
theorem logTry (lb mb : Nat) (w : World) (hl : Log w lb mb) :
    Calls Try.prog 15 #[.pointer (some ⟨lb, 0, none⟩)] w fun e w' => e = .returned (.bool true) ∧ w' = w.setCell ⟨lb, 2, none⟩ (.int .i32 1) := by
  obtain ⟨l2, l4, l7, lf, c, lc⟩ := hl
  clear lc
  go_enter Try.func15, Try.ntmps15
  go_wp2_with (go_at_call 18; refine (try_free lb 2 _ l2 lf).mono ?_; rintro e w' ⟨rfl, rfl⟩)
  go_ret
  exact ⟨rfl, rfl⟩

theorem logUnlock (lb : Nat) (w : World) (l2 : w.cell? ⟨lb, 2, none⟩ = some (.int .i32 1)) (lf : w.frozen? ⟨lb, 2, none⟩ = false) :
    Calls Try.prog 16 #[.pointer (some ⟨lb, 0, none⟩)] w fun e w' => e = .returned (.tuple #[]) ∧ w' = w.setCell ⟨lb, 2, none⟩ (.int .i32 0) := by
  go_enter Try.func16, Try.ntmps16
  go_wp2_with (go_at_call 19; refine (unlock_held muLib ⟨lb, 2, none⟩ _ l2 lf).mono ?_; rintro e w' ⟨rfl, rfl⟩)
  go_end0
  exact ⟨rfl, rfl⟩

theorem third (w : World) (a b o : Obj) : (((w.alloc a).alloc b).alloc o).heap[w.heap.size + 2]? = some o := by
  show (((w.heap.push a).push b).push o)[w.heap.size + 2]? = _
  rw [Array.getElem?_push, if_pos (by simp)]

theorem Log.laid {w : World} {lb mb pb : Nat} {x : ByteArray} (h : w.heap[lb]? = some (.cells #[.string x, .pointer none, .int .i32 0, .int .u32 0, .map (some mb), .pointer none, .pointer none, .int .i64 0, .map (some pb)] 46 (0, 0))) : Log w lb mb := by
  refine ⟨?_, ?_, ?_, ?_, _, h⟩ <;> simp [World.cell?, World.frozen?, h]

theorem newLog (w : World) :
    Calls Try.prog 6 #[] w fun e w' => e = .returned (.pointer (some ⟨w.heap.size + 2, 0, none⟩)) ∧ Log w' (w.heap.size + 2) w.heap.size ∧ w'.ownsMap Try.prog 9 ptrElem w.heap.size 0 (.map []) ∧ Below w.heap.size w w' ∧ w'.heap.size = w.heap.size + 3 := by
  have hmm := @run_makeMap Try.prog
  go_enter Try.func6, Try.ntmps6
  go_wp2
  go_ret
  refine ⟨rfl, Log.laid (third w _ _ _), ?_, (((Below.refl _ _).alloc (Nat.le_refl _) _).alloc (by simp) _).alloc (by simp; omega) _, by simp⟩
  exact ((World.ownsMap_made w Try.prog 9 ptrElem).alloc _).alloc _

end Go.Proofs.Qxb6612644a
