/-
  What the small functions do: 'few', 'place'.
-/
import Derived.Test.YtgdfaicdpefocaaBase
namespace Go.Proofs.Ytgdfaicdpefocaa
open Go.RowKit

theorem few_yes (a : Option Addr) (len cap : Nat) (w : World) (h : len ≤ 1000) :
    Calls Try.prog 5 #[.slice none 0 0, .slice a len cap] w fun e w' => e = .returned (.bool true) ∧ w = w' := by
  have hd : decide ((len : Int) ≤ 1000) = true := by simp; omega
  clear h
  go_enter Try.func5, Try.ntmps5
  go_wp2
  go_ret
  exact ⟨rfl, rfl⟩

theorem few_no (a : Option Addr) (len cap : Nat) (w : World) (h : 1000 < len) :
    Calls Try.prog 5 #[.slice none 0 0, .slice a len cap] w fun e w' => e = .returned (.bool false) ∧ w = w' := by
  have hd : decide ((len : Int) ≤ 1000) = false := by simp; omega
  clear h
  go_enter Try.func5, Try.ntmps5
  go_wp2
  go_ret
  exact ⟨rfl, rfl⟩

theorem place_yes (g c : Int) (w : World) (g0 : 0 ≤ g) (g1 : g < 2) (c0 : 0 ≤ c) (c1 : c < 2) :
    Calls Try.prog 12 #[.int .i64 g, .int .i64 c] w fun e w' => e = .returned (.bool true) ∧ w = w' := by
  have d1 : decide (0 ≤ g) = true := by simp; omega
  have d2 : decide (g < 2) = true := by simp; omega
  have d3 : decide (0 ≤ c) = true := by simp; omega
  have d4 : decide (c < 2) = true := by simp; omega
  clear g0 g1 c0 c1
  go_enter Try.func12, Try.ntmps12
  go_wp2
  go_ret
  exact ⟨rfl, rfl⟩

end Go.Proofs.Ytgdfaicdpefocaa
