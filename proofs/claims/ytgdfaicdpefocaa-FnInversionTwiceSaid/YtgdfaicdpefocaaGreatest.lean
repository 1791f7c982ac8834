/-
  What 'greatest' gives of 576 sixteenths: one that is not negative; the world is as it was.
-/
import Derived.Test.YtgdfaicdpefocaaBase
namespace Go.Proofs.Ytgdfaicdpefocaa
open Go.RowKit

def GreatestEnd (w : World) (e : Ending) (w' : World) : Prop := ∃ t, e = .returned (.float .f64 t) ∧ Top t ∧ w = w'

theorem run_max2 {P : Program} (w : World) (x y r : Nat) (h : max64 x y = some r) : (Builtin.max2 (.float .f64 x) (.float .f64 y)).run P w = .ok (.float .f64 r) w := by
  unfold max64 at h
  unfold Builtin.max2
  split at h <;> simp_all

theorem run_max3 {P : Program} (w : World) (ts : Array TypeId) (ty : TypeId) (x y z a b : Nat) (h1 : max64 x y = some a) (h2 : max64 a z = some b) :
    (Builtin.max_ ts ty #[.float .f64 x, .float .f64 y, .float .f64 z]).run P w = .ok (.float .f64 b) w := by
  simp [Builtin.max_, run_max2 w x y a h1, run_max2 w a z b h2]

set_option maxRecDepth 100000 in
theorem greatest_any (b c : Nat) (g : Nat → Nat) (w : World) (hg : FRow .f64 w b g) (hgood : ∀ j, j < 576 → Good64 (g j)) :
    Calls Try.prog 11 #[.slice (some ⟨b, 0, none⟩) 576 c] w (GreatestEnd w) := by
  go_enter Try.func11, Try.ntmps11
  go_wp2
  go_loop [3, 8] (fun t i => ∃ (k m : Nat), k ≤ 576 ∧ i = .int .i64 k ∧ Top m ∧ t = .float .f64 m) (fun _ i => 576 - (intOf i).toNat)
  case atStart => exact ⟨0, 0, by omega, rfl, top_zero, rfl⟩
  case round =>
    obtain ⟨k, m, hk, rfl, ht, rfl⟩ := hrel
    by_cases hkk : k < 576
    · have hc := hg.cell k hkk
      obtain ⟨x, y, h1, h2, h3⟩ := top_max ht (hgood k hkk)
      have hm : ∀ ts ty w, (Builtin.max_ ts ty #[.float .f64 m, .float .f64 (g k), .float .f64 (Op.negFloat .f64 (g k))]).run Try.prog w = .ok (.float .f64 y) w := fun ts ty w => run_max3 w ts ty _ _ _ x y h1 h2
      have hng := unary_neg_float
      clear h1 h2 hgood
      go_wp2
      go_round
      case rel => exact ⟨k + 1, y, by omega, by go_num, h3, rfl⟩
      case measure => simp [intOf]; omega
    · go_wp2
      go_ret
      exact ⟨m, rfl, ht, rfl⟩
end Go.Proofs.Ytgdfaicdpefocaa
