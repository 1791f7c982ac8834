/-
  What 'zzFrame', 'ZZInversion' and 'impl.Inversion' do: the lines of one granule and channel anew, the odd numbers of odd bands turned.
-/
import Derived.Test.YtgdfaicdpefocaaLined
import Derived.Test.YtgdfaicdpefocaaFreq
import Derived.Test.YtgdfaicdpefocaaSmall
namespace Go.Proofs.Ytgdfaicdpefocaa
open Go.RowKit

def FrameEnd (C : Array Value) (w : World) (e : Ending) (w' : World) : Prop :=
  ∃ F : Array Value, e = .returned (.pointer (some ⟨w.heap.size + 1, 0, none⟩)) ∧ F[2]? = some (.pointer (some ⟨w.heap.size, 0, none⟩)) ∧ (w.alloc (.cells C 54)).alloc (.cells F 70) = w'

set_option maxRecDepth 100000 in
theorem frame_any (C : Array Value) (w : World) : Calls Try.prog 15 #[.int .u32 0, .pointer none, .agg C] w (FrameEnd C w) := by
  obtain ⟨F, hF, hF2⟩ := built70 (some ⟨w.heap.size, 0, none⟩)
  have HF := hide hF2
  clear hF2
  go_enter Try.func15, Try.ntmps15
  go_wp2_with (refine wpList_built rfl 70 #[(0, .tmp 7), (1, .tmp 8), (2, .tmp 5)] rfl [(0, .int .u32 0), (1, .pointer none), (2, .pointer (some ⟨w.heap.size, 0, none⟩))] ?c9 F hF ?_)
  go_ret
  exact ⟨F, rfl, HF.out, rfl⟩

def ZzEnd (y : Nat → Nat) (w : World) (e : Ending) (w' : World) : Prop :=
  ∃ A : Array Value, e = .returned (.agg A) ∧ A.size = 576 ∧ (∀ j, j < 576 → A[j]? = some (.float .f32 (y j))) ∧ Below w.heap.size w w'

set_option maxHeartbeats 1000000 in
set_option maxRecDepth 100000 in
theorem zz_any (C : Array Value) (g c : Nat) (x : Nat → Nat) (w : World) (hg : g < 2) (hc : c < 2) (hs : C.size = 2548)
    (hx : ∀ j, j < 576 → C[244 + g * 1152 + c * 576 + j]? = some (.float .f32 (x j))) :
    Calls Try.prog 13 #[.agg C, .int .i64 g, .int .i64 c] w (ZzEnd (inv neg32 x) w) := by
  obtain ⟨hz49, hi49⟩ := zero_of_info zinfo49
  obtain ⟨_, hi54⟩ := zero_of_info zinfo54
  have HS := hide hs
  have HX := hide hx
  clear hs hx
  go_enter Try.func13, Try.ntmps13
  go_wp2_with (first | (refine wpList_load_row rfl 54 _ rfl w.heap.size rfl 54 C (0, 0) _ ?d1 Try.underlying54 rfl ?d2 ?_) | (go_at_call 15; refine (frame_any C _).mono ?_; rintro e w1 ⟨F, rfl, hF2, rfl⟩))
  case d1 => exact heap_alloc2_old w _ _
  case d2 => rw [HS.out]; exact hi54
  obtain ⟨W4, hW⟩ : ∃ W4, W4 = (((w.alloc (.cells C 54)).alloc (.cells (zcells 49).toArray 49)).alloc (.cells C 54)).alloc (.cells F 70) := ⟨_, rfl⟩
  rw [← hW]
  have f1 : W4.heap[w.heap.size + 1]? = some (.cells (zcells 49).toArray 49 (0, 0)) := by
    rw [hW, Below.heap_alloc _ _ _ (by simp), Below.heap_alloc _ _ _ (by simp), heap_alloc2_new]
  have f2 : W4.heap[w.heap.size + 1 + 1]? = some (.cells C 54 (0, 0)) := by
    have h := heap_alloc2_old ((w.alloc (.cells C 54)).alloc (.cells (zcells 49).toArray 49)) (.cells C 54) (.cells F 70)
    rw [World.size_alloc, World.size_alloc] at h
    rw [hW]
    exact h
  have f3 : W4.heap[w.heap.size + 1 + 1 + 1]? = some (.cells F 70 (0, 0)) := by
    have h := heap_alloc2_new ((w.alloc (.cells C 54)).alloc (.cells (zcells 49).toArray 49)) (.cells C 54) (.cells F 70)
    rw [World.size_alloc, World.size_alloc] at h
    rw [hW]
    exact h
  have hb : Below w.heap.size w W4 := by
    rw [hW]
    exact ((((Below.refl _ _).alloc (Nat.le_refl _) _).alloc (by simp) _).alloc (by simp; omega) _).alloc (by simp; omega) _
  have hp0 : FPart .f32 W4 (w.heap.size + 1 + 1) (244 + g * 1152 + c * 576) x :=
    ⟨fun j hj => (cell_of_row W4 _ _ C 54 (0, 0) f2).trans (HX.out j hj), fun j => by simp [World.frozen?, f2]⟩
  have hf0 : W4.cell? ⟨w.heap.size + 1 + 1 + 1, 2, none⟩ = some (.pointer (some ⟨w.heap.size + 1 + 1, 0, none⟩)) := by
    rw [cell_of_row W4 _ _ F 70 (0, 0) f3]
    simpa using hF2
  clear hW f2 f3 hF2
  refine (freq_any (w.heap.size + 1 + 1 + 1) (w.heap.size + 1 + 1) g c x W4 hg hc (by omega) hf0 hp0).mono ?_
  rintro e w2 ⟨rfl, hp, ho⟩
  have hf : w2.cell? ⟨w.heap.size + 1 + 1 + 1, 2, none⟩ = some (.pointer (some ⟨w.heap.size + 1 + 1, 0, none⟩)) :=
    (World.cell?_of_block (w := W4) (a := ⟨w.heap.size + 1 + 1 + 1, 2, none⟩) (ho.block (w.heap.size + 1 + 1 + 1) (by omega))).trans hf0
  have f1' : w2.heap[w.heap.size + 1]? = some (.cells (zcells 49).toArray 49 (0, 0)) := (ho.block _ (by omega)).trans f1
  have hb2 : Below w.heap.size w w2 := hb.trans ⟨ho.os, ho.tape, ho.output, by rw [ho.size]; exact Nat.le_refl _, fun k hk => ho.block k (by omega)⟩
  clear hb hf0 f1 ho hp0
  obtain ⟨A, hA, hAl⟩ : ∃ A : List Value, A = ((List.range 576).map fun j => Value.float .f32 (inv neg32 x j)) ∧ A.length = 576 := ⟨_, rfl, by simp⟩
  have HA := hide hA
  have HL := hide hAl
  clear hA hAl
  go_wp2_with (first | (refine wpList_load_mid rfl 49 _ rfl (w.heap.size + 1 + 1) (244 + g * 1152 + c * 576) rfl A _ ?e1 Try.underlying49 rfl ?e2 ?_) | (refine wpList_store_row rfl 49 _ _ rfl (w.heap.size + 1) A.toArray rfl rfl 49 (zcells 49).toArray f1' ?e3 ?e4 ?e5 ?_))
  case e1 =>
    rw [HA.out]
    intro j v hv
    by_cases hj : j < 576
    · simp [hj] at hv
      rw [hp.cell j hj, hv]
    · simp [hj] at hv
  case e2 => rw [HL.out]; exact hi49
  case e3 => rw [List.size_toArray, HL.out]; exact hi49
  case e4 => rw [List.size_toArray, List.size_toArray, HL.out]; exact zlen49
  case e5 => rw [HA.out]; simp [Value.oneCell']
  exact bodyPost_ret (results_cell_row (fn := Try.f13) rfl _ _ (w.heap.size + 1) 49 A.toArray (0, 0) _ rfl (setRow_heap w2 (w.heap.size + 1) _ A.toArray 49 (0, 0) f1') Try.underlying49 rfl (by rw [List.size_toArray, HL.out]; exact hi49)) rfl
    ⟨A.toArray, rfl, by simpa using HL.out, fun j hj => by rw [HA.out]; simp [hj], below_setRow hb2 (by omega) _⟩

def InvEnd (y : Nat → Nat) (w : World) (e : Ending) (w' : World) : Prop :=
  ∃ b, e = .returned (.slice (some ⟨b, 0, none⟩) 576 576) ∧ w.heap.size ≤ b ∧ FRow .f32 w' b y ∧ Below w.heap.size w w'

set_option maxHeartbeats 1000000 in
set_option maxRecDepth 100000 in
theorem inversion_any (cs : Array Value) (g c b cap : Nat) (x : Nat → Nat) (w : World) (hg : g < 2) (hc : c < 2) (hm : MainAt cs g c b cap) (hx : FRow .f32 w b x) :
    Calls Try.prog 7 #[.agg cs, .int .i64 g, .int .i64 c] w (InvEnd (inv neg32 x) w) := by
  obtain ⟨hz49, hi49⟩ := zero_of_info zinfo49
  obtain ⟨_, hi35⟩ := zero_of_info zinfo35
  go_enter Try.func7, Try.ntmps7
  go_wp2_with (first | (refine wpList_load_row rfl 35 _ rfl w.heap.size rfl 35 cs (0, 0) _ ?d1 Try.underlying35 rfl ?d2 ?_) | (go_at_call 12; refine (place_yes _ _ _ (by omega) (by omega) (by omega) (by omega)).mono ?_; rintro e w1 ⟨rfl, rfl⟩))
  case d1 => exact heap_alloc_new w _
  case d2 => rw [hm.size]; exact hi35
  refine (lined_any cs g c b cap x _ hg hc hm (hx.alloc _)).mono ?_
  rintro e w1 ⟨C, rfl, hCs, hC1, hCx, hb1⟩
  have hb1' : Below w.heap.size w w1 := ((Below.refl _ _).alloc (Nat.le_refl _) _).trans (hb1.mono (by simp))
  clear hb1
  go_wp2_with fail
  refine (zz_any C g c x w1 hg hc hCs hCx).mono ?_
  rintro e w2 ⟨A, rfl, hAs, hAx, hb2⟩
  have hb2' : Below w.heap.size w w2 := hb1'.trans (hb2.mono hb1'.size)
  have HAs := hide hAs
  have HAx := hide hAx
  clear hCs hC1 hCx hb1' hb2 hAs hAx
  go_wp2_with (refine wpList_store_row rfl 49 _ _ rfl w2.heap.size A rfl rfl 49 (zcells 49).toArray ?e1 ?e2 ?e3 ?e4 ?_)
  case e1 => exact heap_alloc_new w2 _
  case e2 => rw [HAs.out]; exact hi49
  case e3 => rw [HAs.out]; simpa using zlen49
  case e4 =>
    refine Array.all_eq_true_iff_forall_mem.2 (fun v hv => ?_)
    obtain ⟨j, hj, he⟩ := Array.mem_iff_getElem.1 hv
    have := HAx.out j (by rw [← HAs.out]; exact hj)
    rw [Array.getElem?_eq_getElem hj, he] at this
    rw [Option.some.inj this]
    rfl
  go_ret
  rw [World.setRow_alloc_new]
  exact ⟨w2.heap.size, rfl, hb2'.size, FRow.new HAx.out, hb2'.alloc hb2'.size _⟩
end Go.Proofs.Ytgdfaicdpefocaa
