/-
  What the two laws share: the main data that they make, and plain facts that join the contracts.
-/
import Derived.Test.YtgdfaicdpefocaaFrame
import Derived.Test.YtgdfaicdpefocaaSpread
import Derived.Test.YtgdfaicdpefocaaWide
import Derived.Test.YtgdfaicdpefocaaInverted
import Derived.Test.YtgdfaicdpefocaaGreatest
import Derived.Test.YtgdfaicdpefocaaNear
namespace Go.Proofs.Ytgdfaicdpefocaa
open Go.RowKit

/-- Turned numbers are sixteenths, too. -/
theorem good_inv {x : Nat → Nat} (h : ∀ j, j < 576 → Good (x j)) : ∀ j, j < 576 → Good (inv neg32 x j) := fun j hj => by
  unfold inv
  split
  · exact (h j hj).neg
  · exact h j hj

/-- To turn and to widen is to widen and to turn. -/
theorem inv_wide {x : Nat → Nat} (h : ∀ j, j < 576 → Good (x j)) (j : Nat) (hj : j < 576) : inv neg64 (fun j => w64 (x j)) j = w64 (inv neg32 x j) := by
  unfold inv
  split
  · exact ((h j hj).parts.2.1).symm
  · rfl

theorem inv_inv {x : Nat → Nat} (h : ∀ j, j < 576 → Good (x j)) (j : Nat) (hj : j < 576) : inv neg32 (inv neg32 x) j = x j :=
  inv_twice neg32 x j (h j hj).parts.2.2.1

/-- The empty main data. -/
noncomputable def main0 : Array Value := (zcells 35).toArray
theorem main0_size : main0.size = 248 := by unfold main0; rw [List.size_toArray]; exact zlen35
theorem main0_one : ∀ v ∈ main0, v.oneCell' = true := fun v hv => List.all_eq_true.1 zone35 v (by simpa [main0] using hv)
theorem main0_lines (i : Nat) (h : i < 4) : main0[244 + i]? = some (.slice none 0 0) := by
  have hl : (zcells 35).length = 248 := zlen35
  have h1 : main0[244 + i]? = (zcells 35)[244 + i]? := by simp [main0]
  rw [h1, List.getElem?_eq_getElem (by omega)]
  have hm : (zcells 35)[244 + i]'(by omega) ∈ (zcells 35).drop 244 := by
    rw [List.mem_iff_getElem]
    exact ⟨i, by simp; omega, by simp⟩
  rw [isNilSlice_of (List.all_eq_true.1 znil35 _ hm)]

/-- Main data with the lines of one granule and channel. -/
noncomputable def mainWith (g c : Nat) (v : Value) : Array Value := main0.setIfInBounds (244 + g * 2 + c) v

theorem mainWith_at (g c b cap : Nat) (hg : g < 2) (hc : c < 2) : MainAt (mainWith g c (.slice (some ⟨b, 0, none⟩) 576 cap)) g c b cap := by
  refine ⟨by simp [mainWith, main0_size], fun v hv => ?_, fun k l hk hl => ?_⟩
  · rcases Array.mem_or_eq_of_mem_setIfInBounds hv with h | h
    · exact main0_one v h
    · rw [h]; rfl
  · unfold mainWith
    rw [Array.getElem?_setIfInBounds]
    by_cases e : 244 + g * 2 + c = 244 + k * 2 + l
    · rw [if_pos e, if_pos (by rw [main0_size]; omega), if_pos (by omega)]
    · rw [if_neg e, if_neg (by omega), show 244 + k * 2 + l = 244 + (k * 2 + l) by omega]
      exact main0_lines _ (by omega)

theorem mainWith_set (g c : Nat) (u v : Value) : (mainWith g c u).setIfInBounds (244 + g * 2 + c) v = mainWith g c v := by
  unfold mainWith
  simp [Array.setIfInBounds_setIfInBounds]

theorem IsRow.below {k : IntKind} {w w' : World} {a : Option Addr} {len cap : Nat} {zs : List Int} (h : IsRow k w a len cap zs) (hb : Below w.heap.size w w') : IsRow k w' a len cap zs := by
  rcases h with h | ⟨x, h1, h2, h3, h4, h5, h6⟩
  · exact .inl h
  · exact .inr ⟨x, h1, h2, h3, h4, fun i hi => (hb.cell (World.block_lt_of_cell? w _ (h5 i hi))).trans (h5 i hi), h6⟩

/-- The cell of the lines, when other memory has been made. -/
theorem lines_cell {w w' : World} {M B : Nat} {cs : Array Value} (hM : w.heap[M]? = some (.cells cs 35 (0, 0))) (hlt : M < B) (hb : Below B w w') (i : Nat) (v : Value) (hv : cs[i]? = some v) :
    w'.cell? ⟨M, i, none⟩ = some v ∧ w'.frozen? ⟨M, i, none⟩ = false ∧ w'.heap[M]? = some (.cells cs 35 (0, 0)) := by
  have h := (hb.block M hlt).trans hM
  exact ⟨(cell_of_row w' M i cs 35 (0, 0) h).trans hv, by simp [World.frozen?, h], h⟩

end Go.Proofs.Ytgdfaicdpefocaa
