/-
  What 'near' answers of 576 numbers of 32 bits and the same as numbers of 64 bits: true.
-/
import Derived.Test.YtgdfaicdpefocaaBase
import Derived.Deep.QuietTactic
import Derived.BigQuiet
import Derived.WalkSmall
namespace Go.Proofs.Ytgdfaicdpefocaa
open Go.RowKit

def TrueEnd (w : World) (e : Ending) (w' : World) : Prop := e = .returned (.bool true) ∧ Below w.heap.size w w'

set_option maxRecDepth 100000 in
theorem near_any (b c b' c' t : Nat) (f : Nat → Nat) (w : World) (hf : FRow .f32 w b f) (hg : FRow .f64 w b' (fun j => w64 (f j))) (hgood : ∀ j, j < 576 → Good (f j)) (ht : Top t) :
    Calls Try.prog 9 #[.slice (some ⟨b, 0, none⟩) 576 c, .slice (some ⟨b', 0, none⟩) 576 c', .float .f64 t] w (TrueEnd w) := by
  obtain ⟨q, s, hq, hs, o1, o2⟩ := near_of ht
  have hq' : ∀ w, (binOp .quo 42 (.float .f64 t) (.float .f64 4671226772094713856)).run Try.prog w = .ok (.float .f64 q) w := fun w => run_float_arith w .quo 42 .f64 _ _ _ hq
  have hs' : ∀ w, (binOp .add 42 (.float .f64 q) (.float .f64 4472406533629990549)).run Try.prog w = .ok (.float .f64 s) w := fun w => run_float_arith w .add 42 .f64 _ _ _ hs
  have o2' : (FloatKind.f64.format.order (Op.negFloat .f64 0) s == some .gt) = false := o2
  have o3 := same_zero
  have lb := hf.lt
  have lb' := hg.lt
  clear hq hs o2
  go_enter Try.func9, Try.ntmps9
  go_wp2
  go_loopw [16] (fun i wr => ∃ k : Nat, k ≤ 576 ∧ i = .int .i64 k ∧ Below w.heap.size w wr) (fun i _ => 576 - (intOf i).toNat)
  case atStart => exact ⟨0, by omega, rfl, Below.refl _ _⟩
  case round =>
    obtain ⟨k, hk, rfl, hb⟩ := hrel
    by_cases hkk : k < 576
    · have hc := (hb.cell (p := ⟨b, k, none⟩) lb).trans (hf.cell k hkk)
      have hc' := (hb.cell (p := ⟨b', k, none⟩) lb').trans (hg.cell k hkk)
      have hcv : ∀ w, (convert 46 42 (.float .f32 (f k))).run Try.prog w = .ok (.float .f64 (w64 (f k))) w := fun w =>
        run_convert_float_float w 46 42 .f32 .f64 (f k) (w64 (f k)) (by kernel_rfl) Try.underlying42 (hgood k hkk).parts.1
      have hsub : ∀ w, (binOp .sub 42 (.float .f64 (w64 (f k))) (.float .f64 (w64 (f k)))).run Try.prog w = .ok (.float .f64 0) w := fun w => run_float_arith w .sub 42 .f64 _ _ _ (hgood k hkk).parts.2.2.2.2.1
      have hng := unary_neg_float
      have i1 : (k : Int) < 576 := by omega
      have i0 : (0 : Int) ≤ k := by omega
      clear hgood
      go_wp2_with fail
      go_quiet (fail)
      go_wp2
      go_roundw
      case rel => exact ⟨k + 1, by omega, by go_num, by first | exact hb | exact below_drewN hb _⟩
      case measure => simp [intOf]; omega
    · go_wp2
      go_ret
      exact ⟨rfl, hb⟩
end Go.Proofs.Ytgdfaicdpefocaa
