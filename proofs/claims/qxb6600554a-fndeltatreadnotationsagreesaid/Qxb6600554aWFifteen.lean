/-
  SEAT b6600554a: WALKS 15: the law of the notations (4), at any four numbers.
-/
import Derived.Test.Qxb6600554aWFourteen
namespace Go.Proofs.Qxb6600554a
open Go.RowKit
set_option linter.unusedVariables false

set_option maxRecDepth 100000 in
set_option maxHeartbeats 4000000 in
theorem law4_any (a0 a1 a2 a3 : Int) (w : World) :
    Calls Try.prog 4 #[.int .i64 a0, .int .i64 a1, .int .i64 a2, .int .i64 a3] w fun e w' => e = .returned (.bool true) ∧ Below w.heap.size w w' := by
  by_cases c0 : a0 < -2147483647
  · go_enter Try.func4, Try.ntmps4
    go_wp2
    go_ret
    exact ⟨rfl, Below.refl _ _⟩
  by_cases c1 : 2147483647 < a0
  · go_enter Try.func4, Try.ntmps4
    go_wp2
    go_ret
    exact ⟨rfl, Below.refl _ _⟩
  by_cases c2 : a1 < 0
  · go_enter Try.func4, Try.ntmps4
    go_wp2
    go_ret
    exact ⟨rfl, Below.refl _ _⟩
  by_cases c3 : 99 < a1
  · go_enter Try.func4, Try.ntmps4
    go_wp2
    go_ret
    exact ⟨rfl, Below.refl _ _⟩
  by_cases c4 : a2 < 0
  · go_enter Try.func4, Try.ntmps4
    go_wp2
    go_ret
    exact ⟨rfl, Below.refl _ _⟩
  by_cases c5 : 99 < a2
  · go_enter Try.func4, Try.ntmps4
    go_wp2
    go_ret
    exact ⟨rfl, Below.refl _ _⟩
  by_cases c6 : a3 < 0
  · go_enter Try.func4, Try.ntmps4
    go_wp2
    go_ret
    exact ⟨rfl, Below.refl _ _⟩
  by_cases c7 : 99 < a3
  · go_enter Try.func4, Try.ntmps4
    go_wp2
    go_ret
    exact ⟨rfl, Below.refl _ _⟩
  obtain ⟨h, rfl⟩ : ∃ h : Nat, a1 = h := ⟨a1.toNat, by omega⟩
  obtain ⟨m, rfl⟩ : ∃ m : Nat, a2 = m := ⟨a2.toNat, by omega⟩
  obtain ⟨s, rfl⟩ : ∃ s : Nat, a3 = s := ⟨a3.toNat, by omega⟩
  exact law4 a0 h m s (by omega) (by omega) (by omega) (by omega) (by omega) w

end Go.Proofs.Qxb6600554a
