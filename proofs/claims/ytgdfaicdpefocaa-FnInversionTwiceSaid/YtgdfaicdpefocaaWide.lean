/-
  What 'wide' does: each of 576 numbers of 32 bits as one of 64 bits, in new memory.
-/
import Derived.Test.YtgdfaicdpefocaaBase
namespace Go.Proofs.Ytgdfaicdpefocaa
open Go.RowKit

def WideEnd (g : Nat → Nat) (w : World) (e : Ending) (w' : World) : Prop :=
  ∃ b, e = .returned (.slice (some ⟨b, 0, none⟩) 576 576) ∧ w.heap.size ≤ b ∧ FRow .f64 w' b g ∧ Below w.heap.size w w'

/-- The relation of the loop: k numbers are laid. -/
def WideRel (f : Nat → Nat) (w : World) (k : Nat) (wr : World) : Prop :=
  (∃ g, FRow .f64 wr w.heap.size g ∧ ∀ j, j < k → g j = w64 (f j)) ∧ Below w.heap.size w wr

theorem WideRel.step {f : Nat → Nat} {w wr : World} {k : Nat} (h : WideRel f w k wr) (hk : k < 576) :
    WideRel f w (k + 1) (wr.setCell ⟨w.heap.size, k, none⟩ (.float .f64 (w64 (f k)))) := by
  obtain ⟨⟨g, hg, he⟩, hb⟩ := h
  refine ⟨⟨_, hg.set k hk _, fun j hj => ?_⟩, hb.setCell (Nat.le_refl _) _⟩
  by_cases e : j = k
  · simp [e]
  · simp [e]; exact he j (by omega)

set_option maxRecDepth 100000 in
theorem wide_any (b c : Nat) (f : Nat → Nat) (w : World) (hf : FRow .f32 w b f) (hgood : ∀ j, j < 576 → Good (f j)) :
    Calls Try.prog 8 #[.slice (some ⟨b, 0, none⟩) 576 c] w (WideEnd (fun j => w64 (f j)) w) := by
  have hmk := make38
  have hlt := hf.lt
  go_enter Try.func8, Try.ntmps8
  go_wp2
  clear hmk
  go_loopw [9] (fun i wr => ∃ k : Nat, k ≤ 576 ∧ i = .int .i64 k ∧ WideRel f w k wr) (fun i _ => 576 - (intOf i).toNat)
  case atStart => exact ⟨0, by omega, rfl, ⟨⟨fun _ => 0, FRow.new (fun j hj => made_get _ _ _ hj), fun j hj => by omega⟩, (Below.refl _ _).alloc (Nat.le_refl _) _⟩⟩
  case round =>
    obtain ⟨k, hk, rfl, hrel⟩ := hrel
    by_cases hkk : k < 576
    · have hc : wr.cell? ⟨b, k, none⟩ = some (.float .f32 (f k)) := (hrel.2.cell (p := ⟨b, k, none⟩) hlt).trans (hf.cell k hkk)
      have hcv : ∀ w, (convert 46 42 (.float .f32 (f k))).run Try.prog w = .ok (.float .f64 (w64 (f k))) w := fun w =>
        run_convert_float_float w 46 42 .f32 .f64 (f k) (w64 (f k)) (by kernel_rfl) Try.underlying42 (hgood k hkk).parts.1
      have hs : (store ⟨w.heap.size, k, none⟩ (.float .f64 (w64 (f k)))).run Try.prog wr = .ok () (wr.setCell ⟨w.heap.size, k, none⟩ (.float .f64 (w64 (f k)))) := by
        obtain ⟨⟨g, hg, _⟩, _⟩ := hrel
        exact store_float _ _ (hg.cell k hkk) (hg.free k)
      have hst := hrel.step hkk
      go_wp2
      go_roundw
      case rel => exact ⟨k + 1, by omega, by go_num, hst⟩
      case measure => simp [intOf]; omega
    · go_wp2
      go_ret
      obtain rfl : k = 576 := by omega
      obtain ⟨⟨g, hg, he⟩, hb⟩ := hrel
      exact ⟨_, rfl, Nat.le_refl _, hg.congr he, hb⟩
end Go.Proofs.Ytgdfaicdpefocaa
