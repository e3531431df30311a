import Derived.Test.Qxb6612644aRows
import Derived.Conc.MuLone
import Derived.WalkKit
import Derived.KernelRfl
namespace Go.Proofs.Qxb6612644a
open Go.MuLone Go.RowKit

/-- Under which numbers this dump holds sync.Mutex's text. -/
abbrev muLink : Go.Conc.Locks.MuLink := { lock := 20, unlock := 19, ilock := 24, iunlock := 23, lockSlow := 32, unlockSlow := 31, disable := 25, enable := 26, acquire := 28, relMerge := 29, cas32 := 27, add32 := 30, tMutex := 44, tIMutex := 42, tPMutex := 54, tPIMutex := 55, tPI32 := 57, tUP := 59, tNoCopy := 39, tU32 := 40 }
theorem muLib : Go.Conc.Locks.MuLib Try.prog muLink :=
  ⟨Try.func20, Try.func19, Try.func24, Try.func23, Try.func25, Try.func26, Try.func28, Try.func29, Try.func27, Try.func30, Try.underlying42, Try.runUnderlying42, Try.sizeOf42, Try.isAgg42, Try.zeroValue42, Try.underlying44, Try.runUnderlying44, Try.sizeOf44, Try.isAgg44, Try.zeroValue44, Try.underlying54, Try.runUnderlying54, Try.sizeOf54, Try.isAgg54, Try.zeroValue54, Try.underlying55, Try.runUnderlying55, Try.sizeOf55, Try.isAgg55, Try.zeroValue55, Try.underlying57, Try.runUnderlying57, Try.sizeOf57, Try.isAgg57, Try.zeroValue57, Try.underlying59, Try.runUnderlying59, Try.sizeOf59, Try.isAgg59, Try.zeroValue59, Try.underlying39, Try.runUnderlying39, Try.sizeOf39, Try.isAgg39, Try.zeroValue39, Try.underlying21, Try.runUnderlying21, Try.sizeOf21, Try.isAgg21, Try.zeroValue21, (by kernel_rfl)⟩

/-- '(*sync.Mutex).TryLock' at a lock that is held: false, nothing turns. -/
theorem try_held (b o : Nat) (w : World) (hc : w.cell? ⟨b, o, none⟩ = some (.int .i32 1)) :
    Calls Try.prog 18 #[.pointer (some ⟨b, o, none⟩)] w fun e w' => e = .returned (.bool false) ∧ w = w' := by
  have hd := disable muLib
  have he := enable muLib
  go_enter Try.func18, Try.ntmps18
  go_wp2
  go_ret
  exact ⟨rfl, rfl⟩

theorem or01 : bits BinOp.or IntKind.i32 0 1 = 1 := by decide +kernel
theorem and05 : bits BinOp.and IntKind.i32 0 5 = 0 := by decide +kernel

set_option maxRecDepth 100000 in
set_option maxHeartbeats 800000 in
/-- '(*internal/sync.Mutex).TryLock' at a lock that is free. -/
theorem itry_free (b o : Nat) (w : World) (hc : w.cell? ⟨b, o, none⟩ = some (.int .i32 0)) (hf : w.frozen? ⟨b, o, none⟩ = false) :
    Calls Try.prog 22 #[.pointer (some ⟨b, o, none⟩)] w fun e w' => e = .returned (.bool true) ∧ w' = w.setCell ⟨b, o, none⟩ (.int .i32 1) := by
  have hd := disable muLib
  have he := enable muLib
  have ha := acquire muLib
  have hcas := run_call_cas_hit (P := Try.prog) muLib.f_cas32 (by kernel_rfl) (by kernel_rfl) (by kernel_rfl) .i32 (by kernel_rfl) (y := 1) hc hf
  have hc' : (w.setCell ⟨b, o, none⟩ (.int .i32 1)).cell? ⟨b, o, none⟩ = some (.int .i32 1) := by simp [go_sem, hc]
  have hcv := run_convert_to_unsafe (P := Try.prog) (src := 55) (dst := 59) muLib.underlying_tPIMutex muLib.underlying_tUP muLib.room_tIMutex hc'
  have ho := or01
  have han := and05
  go_enter Try.func22, Try.ntmps22
  go_wp2
  go_ret
  exact ⟨rfl, rfl⟩

/-- '(*sync.Mutex).TryLock' at a lock that is free: true, the lock is taken. -/
theorem try_free (b o : Nat) (w : World) (hc : w.cell? ⟨b, o, none⟩ = some (.int .i32 0)) (hf : w.frozen? ⟨b, o, none⟩ = false) :
    Calls Try.prog 18 #[.pointer (some ⟨b, o, none⟩)] w fun e w' => e = .returned (.bool true) ∧ w' = w.setCell ⟨b, o, none⟩ (.int .i32 1) := by
  go_enter Try.func18, Try.ntmps18
  go_wp2_with (go_at_call 22; refine (itry_free b o _ hc hf).mono ?_; rintro e w' ⟨rfl, rfl⟩)
  go_ret
  exact ⟨rfl, rfl⟩

end Go.Proofs.Qxb6612644a
