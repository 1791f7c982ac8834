/-
  What 'spread' does: 576 sixteenths in new memory.
-/
import Derived.Test.YtgdfaicdpefocaaBase
namespace Go.Proofs.Ytgdfaicdpefocaa
open Go.RowKit

def SpreadEnd (w : World) (e : Ending) (w' : World) : Prop :=
  ∃ b f, e = .returned (.slice (some ⟨b, 0, none⟩) 576 576) ∧ w.heap.size ≤ b ∧ FRow .f32 w' b f ∧ (∀ j, j < 576 → Good (f j)) ∧ Below w.heap.size w w'

def SpreadRel (w : World) (wr : World) : Prop := (∃ f, FRow .f32 wr w.heap.size f ∧ ∀ j, j < 576 → Good (f j)) ∧ Below w.heap.size w wr

theorem SpreadRel.step {w wr : World} (h : SpreadRel w wr) (k : Nat) (hk : k < 576) (v : Nat) (hv : Good v) : SpreadRel w (wr.setCell ⟨w.heap.size, k, none⟩ (.float .f32 v)) := by
  obtain ⟨⟨f, hf, hg⟩, hb⟩ := h
  refine ⟨⟨_, hf.set k hk v, fun j hj => ?_⟩, hb.setCell (Nat.le_refl _) _⟩
  by_cases e : j = k
  · simpa [e] using hv
  · simpa [e] using hg j hj

theorem SpreadRel.store {w wr : World} (h : SpreadRel w wr) (k : Nat) (hk : k < 576) (v : Nat) :
    (store ⟨w.heap.size, k, none⟩ (.float .f32 v)).run Try.prog wr = .ok () (wr.setCell ⟨w.heap.size, k, none⟩ (.float .f32 v)) := by
  obtain ⟨⟨f, hf, _⟩, _⟩ := h
  exact store_float _ _ (hf.cell k hk) (hf.free k)

set_option maxRecDepth 100000 in
theorem spread_nil (s : Int) (w : World) (s0 : 0 ≤ s) (s1 : s ≤ 255) :
    Calls Try.prog 6 #[.slice none 0 0, .int .u8 s] w (SpreadEnd w) := by
  have hmk := make31
  go_enter Try.func6, Try.ntmps6
  go_wp2
  clear hmk
  go_loopw [10] (fun i wr => ∃ k : Nat, k ≤ 576 ∧ i = .int .i64 k ∧ SpreadRel w wr) (fun i _ => 576 - (intOf i).toNat)
  case atStart => exact ⟨0, by omega, rfl, ⟨fun _ => 0, FRow.new (fun j hj => made_get _ _ _ hj), fun j hj => good_zero⟩, (Below.refl _ _).alloc (Nat.le_refl _) _⟩
  case round =>
    obtain ⟨k, hk, rfl, hrel⟩ := hrel
    by_cases hkk : k < 576
    · by_cases hp : ((k : Int) % (1 + s % 9) == 0) = true
      all_goals
        go_wp2
        refine ⟨⟨k + 1, by omega, by go_num, hrel⟩, by simp [intOf]; omega⟩
    · go_wp2
      go_ret
      obtain ⟨⟨f, hf, hg⟩, hb⟩ := hrel
      exact ⟨_, f, rfl, Nat.le_refl _, hf, hg, hb⟩

set_option maxRecDepth 100000 in
theorem spread_empty (x : Addr) (cap : Nat) (s : Int) (w : World) (s0 : 0 ≤ s) (s1 : s ≤ 255) :
    Calls Try.prog 6 #[.slice (some x) 0 cap, .int .u8 s] w (SpreadEnd w) := by
  have hmk := make31
  go_enter Try.func6, Try.ntmps6
  go_wp2
  clear hmk
  go_loopw [10] (fun i wr => ∃ k : Nat, k ≤ 576 ∧ i = .int .i64 k ∧ SpreadRel w wr) (fun i _ => 576 - (intOf i).toNat)
  case atStart => exact ⟨0, by omega, rfl, ⟨fun _ => 0, FRow.new (fun j hj => made_get _ _ _ hj), fun j hj => good_zero⟩, (Below.refl _ _).alloc (Nat.le_refl _) _⟩
  case round =>
    obtain ⟨k, hk, rfl, hrel⟩ := hrel
    by_cases hkk : k < 576
    · by_cases hp : ((k : Int) % (1 + s % 9) == 0) = true
      all_goals
        go_wp2
        refine ⟨⟨k + 1, by omega, by go_num, hrel⟩, by simp [intOf]; omega⟩
    · go_wp2
      go_ret
      obtain ⟨⟨f, hf, hg⟩, hb⟩ := hrel
      exact ⟨_, f, rfl, Nat.le_refl _, hf, hg, hb⟩

set_option maxRecDepth 100000 in
theorem spread_some (x : Addr) (len cap : Nat) (zs : List Int) (s : Int) (w : World) (hl0 : 0 < len) (hlen : len ≤ 1000) (s0 : 0 ≤ s) (s1 : s ≤ 255)
    (hcap : len ≤ cap) (hzs : zs.length = cap) (hcell : ∀ i, i < zs.length → w.cell? (x.add i) = some (.int .i8 (zs.getD i 0))) (hwf : ∀ n ∈ zs, (Lit.int .i8 n).wf = true) :
    Calls Try.prog 6 #[.slice (some x) len cap, .int .u8 s] w (SpreadEnd w) := by
  have hmk := make31
  go_enter Try.func6, Try.ntmps6
  go_wp2
  clear hmk
  go_loopw [10] (fun i wr => ∃ k : Nat, k ≤ 576 ∧ i = .int .i64 k ∧ SpreadRel w wr) (fun i _ => 576 - (intOf i).toNat)
  case atStart => exact ⟨0, by omega, rfl, ⟨fun _ => 0, FRow.new (fun j hj => made_get _ _ _ hj), fun j hj => good_zero⟩, (Below.refl _ _).alloc (Nat.le_refl _) _⟩
  case round =>
    obtain ⟨k, hk, rfl, hrel⟩ := hrel
    by_cases hkk : k < 576
    · by_cases hp : ((k : Int) % (1 + s % 9) == 0) = true
      · have b1 : (0 : Int) ≤ ((k : Int) * 7 + k / 13) % len := Int.emod_nonneg _ (by omega)
        have b2 : ((k : Int) * 7 + k / 13) % len < len := Int.emod_lt_of_pos _ (by omega)
        have hn : (k * 7 + k / 13) % len < len := Nat.mod_lt _ hl0
        obtain ⟨z, hc, z0, z1⟩ : ∃ z, wr.cell? (x.add ((k * 7 + k / 13) % len)) = some (.int .i8 z) ∧ -128 ≤ z ∧ z ≤ 127 := by
          have h := hcell ((k * 7 + k / 13) % len) (by omega)
          have hx : (x.add ((k * 7 + k / 13) % len)).block < w.heap.size := World.block_lt_of_cell? w _ h
          have hm : zs.getD ((k * 7 + k / 13) % len) 0 ∈ zs := by
            have : (k * 7 + k / 13) % len < zs.length := by omega
            simp [List.getD, List.getElem?_eq_getElem this]
          have hz := hwf _ hm
          refine ⟨_, (hrel.2.cell hx).trans h, ?_⟩
          generalize zs.getD ((k * 7 + k / 13) % len) 0 = z at hz
          exact bounds_i8 hz
        have hqu : ∀ w, (binOp .quo 46 (.float .f32 (floatOfInt .f32 z)) (.float .f32 1098907648)).run Try.prog w = .ok (.float .f32 (q32 z)) w := fun w => run_float_arith w .quo 46 .f32 _ _ _ (q32_some z0 z1)
        have hst := hrel.store k hkk (q32 z)
        have hnx := hrel.step k hkk (q32 z) (good_q32 z0 z1)
        clear hcell hwf hn
        go_wp2
        refine ⟨⟨k + 1, by omega, by go_num, hnx⟩, by simp [intOf]; omega⟩
      · go_wp2
        refine ⟨⟨k + 1, by omega, by go_num, hrel⟩, by simp [intOf]; omega⟩
    · go_wp2
      go_ret
      obtain ⟨⟨f, hf, hg⟩, hb⟩ := hrel
      exact ⟨_, f, rfl, Nat.le_refl _, hf, hg, hb⟩
theorem spread_any (a : Option Addr) (len cap : Nat) (zs : List Int) (s : Int) (w : World) (hrow : IsRow .i8 w a len cap zs) (hlen : len ≤ 1000) (s0 : 0 ≤ s) (s1 : s ≤ 255) :
    Calls Try.prog 6 #[.slice a len cap, .int .u8 s] w (SpreadEnd w) := by
  rcases hrow with ⟨rfl, rfl, rfl, rfl⟩ | ⟨x, rfl, hcap, _, hzs, hcell, hwf⟩
  · exact spread_nil s w s0 s1
  · by_cases hl : 0 < len
    · exact spread_some x len cap zs s w hl hlen s0 s1 hcap hzs hcell hwf
    · obtain rfl : len = 0 := by omega
      exact spread_empty x cap s w s0 s1

end Go.Proofs.Ytgdfaicdpefocaa
