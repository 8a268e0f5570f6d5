/-
  The two guards on the total length (functions 8 and 11).
-/
import Derived.Test.Qxb6601721aBase
namespace Go.Proofs.Qxb6601721a
open Go.RowKit

theorem size8_yes (a0 a2 : Option Addr) (l0 c0 l2 c2 : Nat) (c : Int) (w : World) (h : l0 + l2 ≤ 1048576) :
    Calls Try.prog 8 #[.slice a0 l0 c0, .int .u8 c, .slice a2 l2 c2] w fun e w' => e = .returned (.bool true) ∧ w' = w := by
  go_enter Try.func8, Try.ntmps8
  go_wp2
  go_ret
  exact ⟨rfl, rfl⟩

theorem size8_no (a0 a2 : Option Addr) (l0 c0 l2 c2 : Nat) (c : Int) (w : World) (h0 : l0 ≤ 9223372036854775807) (h2 : l2 ≤ 9223372036854775807) (h : ¬ l0 + l2 ≤ 1048576) :
    Calls Try.prog 8 #[.slice a0 l0 c0, .int .u8 c, .slice a2 l2 c2] w fun e w' => e = .returned (.bool false) ∧ w' = w := by
  go_enter Try.func8, Try.ntmps8
  go_wp2
  all_goals
    go_ret
    exact ⟨rfl, rfl⟩

theorem size11_yes (a0 a2 : Option Addr) (l0 c0 l2 c2 : Nat) (c : Int) (w : World) (h : l0 + l2 ≤ 1048576) :
    Calls Try.prog 11 #[.slice a0 l0 c0, .int .u8 c, .slice a2 l2 c2] w fun e w' => e = .returned (.bool true) ∧ w' = w := by
  go_enter Try.func11, Try.ntmps11
  go_wp2
  go_ret
  exact ⟨rfl, rfl⟩

theorem size11_no (a0 a2 : Option Addr) (l0 c0 l2 c2 : Nat) (c : Int) (w : World) (h0 : l0 ≤ 9223372036854775807) (h2 : l2 ≤ 9223372036854775807) (h : ¬ l0 + l2 ≤ 1048576) :
    Calls Try.prog 11 #[.slice a0 l0 c0, .int .u8 c, .slice a2 l2 c2] w fun e w' => e = .returned (.bool false) ∧ w' = w := by
  go_enter Try.func11, Try.ntmps11
  go_wp2
  all_goals
    go_ret
    exact ⟨rfl, rfl⟩
end Go.Proofs.Qxb6601721a
