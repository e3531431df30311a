import Derived.Test.Qxb6612671aLawFiveA
import Derived.Test.Qxb6612671aLawFiveB
namespace Go.Proofs.Qxb6612671a
open Go.ChangeShapes Go.WideShapes Go.RowKit

set_option maxRecDepth 100000 in
set_option maxHeartbeats 1000000 in
theorem law5_big (oa : Option Addr) (n cap : Nat) (O : List Op4) (ta : Option Addr) (tl tc : Nat) (x : Int) (w : World) (hs : Src w oa n cap O) (hO : Fine O) (hb : 2048 < n ∨ 4096 < tl) :
    Calls Try.prog 5 #[.slice oa n cap, .slice ta tl tc, .int .i64 x] w fun e w' => e = .returned (.bool true) ∧ Below w.heap.size w w' := by
  have HS := hide3 hs
  have HO := hide3 hO
  clear hs hO
  by_cases h1 : (2048 : Int) < (n : Int)
  · clear hb
    go_enter Try.func5, Try.ntmps5
    go_wp2_with fail
    refine (zz12 oa n cap O ta tl tc x _ HS.out HO.out).mono ?_
    rintro e w' ⟨h, hw⟩
    subst hw
    rcases h with ⟨rfl, hsh⟩ | rfl
    all_goals
      go_wp2
      go_ret
      exact ⟨rfl, Below.refl _ _⟩
  · have h2 : (4096 : Int) < (tl : Int) := by omega
    have h3 : decide ((2048 : Int) < (n : Int)) = false := by simp; omega
    clear hb
    go_enter Try.func5, Try.ntmps5
    go_wp2_with fail
    refine (zz12 oa n cap O ta tl tc x _ HS.out HO.out).mono ?_
    rintro e w' ⟨h, hw⟩
    subst hw
    rcases h with ⟨rfl, hsh⟩ | rfl
    all_goals
      go_wp2
      go_ret
      exact ⟨rfl, Below.refl _ _⟩

theorem law5 (oa : Option Addr) (n cap : Nat) (O : List Op4) (ta : Option Addr) (tl tc : Nat) (T : List Bool) (x : Int) (w : World) (hs : Src w oa n cap O) (hO : Fine O) (ht : TakeSrc w ta tl tc T) (hcap : n ≤ cap) :
    Calls Try.prog 5 #[.slice oa n cap, .slice ta tl tc, .int .i64 x] w fun e w' => e = .returned (.bool true) ∧ Below w.heap.size w w' := by
  by_cases h : 2048 < n ∨ 4096 < tl
  · exact law5_big oa n cap O ta tl tc x w hs hO h
  · rcases ht with ⟨rfl, rfl, rfl, hT0⟩ | ⟨ad, rfl, rfl, hc⟩
    · exact law5_nil oa n cap O T x w hs hO hT0 hcap (by omega)
    · exact law5_copy oa n cap O ad tc T x w hs hO hc hcap (by omega) (by omega)

theorem open_cap {H : Type} {enc : TypeId × Value → H} {w : World} {base : Nat} {spare : Nat → Bool} {held : Bool} {fuel : Nat} {oa : Option Addr} {n cap : Nat} {x : DataW H × List MemPlace} (h : DataW.trod enc Try.prog w base spare held fuel 26 [.slice oa n cap] = some x) : n ≤ cap := by
  rcases Deep.open_slice Try.underlying26 h with ⟨h0, _⟩ | ⟨a, len, cp, m, k, D, Pl, hcs, hb, hl, _⟩
  · cases h0
    exact Nat.le_refl _
  · cases hcs
    exact hl

end Go.Proofs.Qxb6612671a
