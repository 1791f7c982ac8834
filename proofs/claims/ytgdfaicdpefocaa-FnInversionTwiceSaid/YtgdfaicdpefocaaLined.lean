/-
  What 'impl.lined' hands back: main data of 2548 numbers in which the lines of one granule and channel are those that were handed in.
-/
import Derived.Test.YtgdfaicdpefocaaZero
import Derived.StillTailTactics
import Derived.Laws.CopyOwn
namespace Go.Proofs.Ytgdfaicdpefocaa
open Go.RowKit

/-- 248 cells of which one slice of lines leads to the 576 floats x of block b; the three others are nil. -/
structure MainAt (cs : Array Value) (g c b cap : Nat) : Prop where
  size : cs.size = 248
  one : ∀ v ∈ cs, v.oneCell' = true
  lines : ∀ k l, k < 2 → l < 2 → cs[244 + k * 2 + l]? = some (if k = g ∧ l = c then .slice (some ⟨b, 0, none⟩) 576 cap else .slice none 0 0)

def LinedEnd (o : Nat) (x : Nat → Nat) (w : World) (e : Ending) (w' : World) : Prop :=
  ∃ C : Array Value, e = .returned (.agg C) ∧ C.size = 2548 ∧ (∀ v ∈ C, v.oneCell' = true) ∧ (∀ j, j < 576 → C[o + j]? = some (.float .f32 (x j))) ∧ Below w.heap.size w w'

/-- The relation of the loops: the parameter's box, the result's box, the data as it is then: behind the place (g, c) its lines are laid. -/
structure LinedRel (cs : Array Value) (g c : Nat) (x : Nat → Nat) (w : World) (k l : Nat) (wr : World) : Prop where
  below : Below w.heap.size w wr
  arg : wr.heap[w.heap.size]? = some (.cells cs 35 (0, 0))
  res : wr.heap[w.heap.size + 1]? = some (.cells (zcells 54).toArray 54 (0, 0))
  data : ∃ C : Array Value, wr.heap[w.heap.size + 1 + 1]? = some (.cells C 54 (0, 0)) ∧ C.size = 2548 ∧ (∀ v ∈ C, v.oneCell' = true) ∧
    (2 * g + c < 2 * k + l → ∀ j, j < 576 → C[244 + g * 1152 + c * 576 + j]? = some (.float .f32 (x j)))

theorem LinedRel.drew {cs : Array Value} {g c : Nat} {x : Nat → Nat} {w : World} {k l : Nat} {wr : World} (h : LinedRel cs g c x w k l wr) : LinedRel cs g c x w k l wr.drew :=
  ⟨h.below.drew, h.arg, h.res, h.data⟩

/-- A copy of nothing. -/
theorem LinedRel.skip {cs : Array Value} {g c : Nat} {x : Nat → Nat} {w : World} {k l : Nat} {wr : World} (h : LinedRel cs g c x w k l wr) (hc : c < 2) (hl : l < 2) (hne : ¬(k = g ∧ l = c)) :
    LinedRel cs g c x w k (l + 1) wr := by
  obtain ⟨C, h1, h2, h3, h4⟩ := h.data
  exact ⟨h.below, h.arg, h.res, C, h1, h2, h3, fun hlt => h4 (by omega)⟩

/-- Behind a row of places. -/
theorem LinedRel.next {cs : Array Value} {g c : Nat} {x : Nat → Nat} {w : World} {k l : Nat} {wr : World} (h : LinedRel cs g c x w k l wr) (hl : l = 2) : LinedRel cs g c x w (k + 1) 0 wr := by
  obtain ⟨C, h1, h2, h3, h4⟩ := h.data
  exact ⟨h.below, h.arg, h.res, C, h1, h2, h3, fun hlt => h4 (by omega)⟩

theorem splice_at {L cs : List Value} {off : Nat} (h : off + cs.length ≤ L.length) (j : Nat) (hj : j < cs.length) : (splice L off cs)[off + j]? = cs[j]? := by
  unfold splice
  have hl : (L.take off).length = off := by simp; omega
  rw [List.getElem?_append_right (by omega), hl, Nat.add_sub_cancel_left, List.getElem?_append_left hj]

/-- The copy of the lines. -/
theorem LinedRel.copied {cs : Array Value} {g c : Nat} {x : Nat → Nat} {w : World} {wr w3 : World} (h : LinedRel cs g c x w g c wr) (hg : g < 2) (hc : c < 2) (C : Array Value)
    (hC : C.size = 2548) (hC1 : ∀ v ∈ C, v.oneCell' = true)
    (h3 : w3.heap[w.heap.size + 1 + 1]? = some (.cells (splice C.toList (244 + g * 1152 + c * 576) ((List.range 576).map fun j => Value.float .f32 (x j))).toArray 54 (0, 0))) (hb : Below (w.heap.size + 1 + 1) wr w3) :
    LinedRel cs g c x w g (c + 1) w3 := by
  have hlen : 244 + g * 1152 + c * 576 + ((List.range 576).map fun j => Value.float .f32 (x j)).length ≤ C.toList.length := by simp [hC]; omega
  refine ⟨h.below.trans (hb.mono (by omega)), by rw [hb.block _ (by omega)]; exact h.arg, by rw [hb.block _ (by omega)]; exact h.res, _, h3, ?_, ?_, fun _ j hj => ?_⟩
  · have := length_splice C.toList _ _ hlen
    simpa [hC] using this
  · intro v hv
    have hv' : v ∈ splice C.toList (244 + g * 1152 + c * 576) ((List.range 576).map fun j => Value.float .f32 (x j)) := by simpa using hv
    unfold splice at hv'
    rcases List.mem_append.1 hv' with hv' | hv'
    · exact hC1 v (Array.mem_toList_iff.1 (List.mem_of_mem_take hv'))
    · rcases List.mem_append.1 hv' with hv' | hv'
      · obtain ⟨j, _, rfl⟩ := List.mem_map.1 hv'
        rfl
      · exact hC1 v (Array.mem_toList_iff.1 (List.mem_of_mem_drop hv'))
  · have := splice_at hlen j (by simpa using hj)
    rw [List.getElem?_toArray, this]
    simp [hj]

set_option maxHeartbeats 1000000 in
set_option maxRecDepth 100000 in
theorem lined_any (cs : Array Value) (g c b cap : Nat) (x : Nat → Nat) (w : World) (hg : g < 2) (hc : c < 2) (hm : MainAt cs g c b cap) (hx : FRow .f32 w b x) :
    Calls Try.prog 14 #[.agg cs] w (LinedEnd (244 + g * 1152 + c * 576) x w) := by
  obtain ⟨hz54, hi54⟩ := zero_of_info zinfo54
  obtain ⟨A, hA, lA, A1⟩ : ∃ A : List Value, A = (cs.extract 0 88).toList ∧ A.length = 88 ∧ ∀ v ∈ A, v ∈ cs :=
    ⟨_, rfl, by have := hm.size; simp; omega, fun v hv => mem_extract (Array.mem_toList_iff.1 hv)⟩
  obtain ⟨B, hB, lB, B1⟩ : ∃ B : List Value, B = (cs.extract 88 244).toList ∧ B.length = 156 ∧ ∀ v ∈ B, v ∈ cs :=
    ⟨_, rfl, by have := hm.size; simp; omega, fun v hv => mem_extract (Array.mem_toList_iff.1 hv)⟩
  obtain ⟨D, hD, hDs, hD1⟩ := built54 A.toArray B.toArray (by simpa using lA) (by simpa using lB)
    (fun v hv => hm.one v (A1 v (by simpa using hv))) (fun v hv => hm.one v (B1 v (by simpa using hv)))
  have HA := hide hA
  have HB := hide hB
  have LA := hide lA
  have LB := hide lB
  have HS := hide hDs
  clear hA hB A1 B1 lA lB hDs
  go_enter Try.func14, Try.ntmps14
  go_wp2_with (first | (refine wpList_load_mid rfl 26 _ rfl w.heap.size 0 rfl A _ ?c1 Try.underlying26 rfl ?c2 ?_) | (refine wpList_load_mid rfl 30 _ rfl w.heap.size 88 rfl B _ ?c3 Try.underlying30 rfl ?c4 ?_) | (refine wpList_built rfl 54 #[(0, .tmp 7), (1, .tmp 9)] rfl [(0, .agg A.toArray), (1, .agg B.toArray)] ?c9 D hD ?_) | (refine wpList_store_row rfl 54 _ _ rfl (w.heap.size + 2) D rfl rfl 54 (zcells 54).toArray ?c5 ?c6 ?c7 ?c8 ?_))
  case c1 => rw [HA.out]; exact World.rangeAt_of_block (heap_alloc2_old w _ _) 0 88
  case c2 => rw [LA.out]; kernel_rfl
  case c3 => rw [HB.out]; exact World.rangeAt_of_block (heap_alloc2_old w _ _) 88 156
  case c4 => rw [LB.out]; kernel_rfl
  case c5 => have h := heap_alloc2_new (w.alloc (.cells cs 35)) (.cells (zcells 54).toArray 54) (.cells (zcells 54).toArray 54); rwa [World.size_alloc] at h
  case c6 => rw [HS.out]; exact hi54
  case c7 => rw [HS.out]; simpa using zlen54
  case c8 => exact Array.all_eq_true_iff_forall_mem.2 hD1
  clear hD
  go_loopw [11] (fun i wr => ∃ k : Nat, k ≤ 2 ∧ i = .int .i64 k ∧ LinedRel cs g c x w k 0 wr) (fun i _ => 2 - (intOf i).toNat)
  case atStart =>
    have b3 := heap_alloc2_new (w.alloc (.cells cs 35)) (.cells (zcells 54).toArray 54) (.cells (zcells 54).toArray 54)
    have b2 := heap_alloc2_old (w.alloc (.cells cs 35)) (.cells (zcells 54).toArray 54) (.cells (zcells 54).toArray 54)
    rw [World.size_alloc] at b3 b2
    refine ⟨0, by omega, rfl, below_setRow ((((Below.refl _ _).alloc (Nat.le_refl _) _).alloc (by simp) _).alloc (by simp; omega) _) (by omega) _, ?_, ?_, D, ?_, HS.out, hD1, fun h => by omega⟩
    · rw [setRow_other _ _ _ _ (by omega), Below.heap_alloc _ _ _ (by simp; omega), heap_alloc2_old]
    · rw [setRow_other _ _ _ _ (by omega)]; exact b2
    · exact setRow_heap _ _ _ _ _ _ b3
  case round =>
    obtain ⟨k, hk, rfl, hr1⟩ := hrel
    by_cases hkk : k < 2
    · have hd : decide ((k : Int) < 2) = true := by simp; omega
      go_wp2
      obtain ⟨wo, rfl⟩ : ∃ wo : World, wo = wr := ⟨_, rfl⟩
      go_loopw [14] (fun i wr => ∃ l : Nat, l ≤ 2 ∧ i = .int .i64 l ∧ LinedRel cs g c x w k l wr) (fun i _ => 2 - (intOf i).toNat)
      case atStart => exact ⟨0, by omega, rfl, hr1⟩
      case round =>
        clear hr1
        obtain ⟨l, hl, rfl, hrel⟩ := hrel
        by_cases hll : l < 2
        · by_cases hat : k = g ∧ l = c
          · obtain ⟨rfl, rfl⟩ := hat
            have hcell : wr.cell? ⟨w.heap.size, 244 + k * 2 + l, none⟩ = some (.slice (some ⟨b, 0, none⟩) 576 cap) := by
              rw [cell_of_row wr _ _ cs 35 (0, 0) hrel.arg, hm.lines k l hkk hll, if_pos ⟨rfl, rfl⟩]
            have k2 : (k : Int) < 2 := by omega
            have l2 : (l : Int) < 2 := by omega
            go_wp2_with fail
            go_still_tail 12, (by kernel_rfl)
            clear hcell k2 l2
            change wpList _ _ _ _ _ wr.drew
            have hrd := hrel.drew
            obtain ⟨w2, hw2⟩ : ∃ w2, wr.drew = w2 := ⟨_, rfl⟩
            rw [hw2] at hrd ⊢
            clear hw2 hrel
            obtain ⟨C, c1, c2, c3, _⟩ := hrd.data
            obtain ⟨N, hN⟩ : ∃ N, N = (List.range 576).map fun j => Value.float .f32 (x j) := ⟨_, rfl⟩
            have HN := hide hN
            have hNl : N.length = 576 := by rw [hN]; simp
            clear hN
            refine wpList_copy_splice rfl (.tmp 22) (.tmp 28) 31 31 rfl 46 Try.underlying31 (by kernel_rfl) (some ⟨w.heap.size + 1 + 1, 244 + k * 1152 + l * 576, none⟩) (some ⟨b, 0, none⟩) 576 576 576 cap rfl rfl
              (w.heap.size + 1 + 1) (244 + k * 1152 + l * 576) C.toList 54 (by simpa using c1) N hNl (fun _ => ⟨rfl, _, rfl, ?_⟩) (by simp [c2, hNl]; omega) ?_ (w.heap.size + 1 + 1) w2 (Below.refl _ _) (Nat.le_refl _) ?_
            · intro j v hv
              rw [HN.out] at hv
              by_cases hj : j < 576
              · simp [hj] at hv
                rw [Addr.add_mid, Nat.zero_add, hrd.below.cell (p := ⟨b, j, none⟩) hx.lt, hx.cell j hj, hv]
              · simp [hj] at hv
            · intro v hv
              rw [HN.out] at hv
              obtain ⟨j, _, rfl⟩ := List.mem_map.1 hv
              rfl
            intro w3 h3 hb3
            have h3' := h3.out
            rw [HN.out] at h3'
            have hnx := hrd.copied hg hc C c2 c3 h3' hb3
            clear c1 c2 c3 h3 h3' hb3 hrd HN hNl
            go_wp2
            go_roundw
            case rel => exact ⟨l + 1, by omega, by go_num, hnx⟩
            case measure => simp [intOf]; omega
          · have hcell : wr.cell? ⟨w.heap.size, 244 + k * 2 + l, none⟩ = some (.slice none 0 0) := by
              rw [cell_of_row wr _ _ cs 35 (0, 0) hrel.arg, hm.lines k l hkk hll, if_neg hat]
            have k2 : (k : Int) < 2 := by omega
            have l2 : (l : Int) < 2 := by omega
            have hnx := hrel.drew.skip hc hll hat
            clear hrel hat
            go_wp2_with fail
            go_still_tail 12, (by kernel_rfl)
            clear hcell k2 l2
            change wpList _ _ _ _ _ wr.drew
            obtain ⟨w2, hw2⟩ : ∃ w2, wr.drew = w2 := ⟨_, rfl⟩
            rw [hw2] at hnx ⊢
            clear hw2
            refine wpList_copy_nothing rfl (.tmp 22) (.tmp 28) 31 31 rfl 46 Try.underlying31 (by kernel_rfl) (some ⟨w.heap.size + 1 + 1, 244 + k * 1152 + l * 576, none⟩) none 576 576 0 0 rfl rfl rfl ?_
            go_wp2
            go_roundw
            case rel => exact ⟨l + 1, by omega, by go_num, hnx⟩
            case measure => simp [intOf]; omega
        · have hnx := hrel.next (by omega)
          go_wp2
          go_roundw
          case rel => exact ⟨k + 1, by omega, by go_num, hnx⟩
          case measure => simp [intOf]; omega
    · obtain ⟨hb, _, hres, C, hC, hCs, hC1, hfin⟩ := hr1
      have hfin' := hide (hfin (by omega))
      have HC := hide hCs
      clear hfin hCs
      go_wp2_with (first | (refine wpList_load_row rfl 54 _ rfl (w.heap.size + 1 + 1) rfl 54 C (0, 0) _ hC Try.underlying54 rfl ?d1 ?_) | (refine wpList_store_row rfl 54 _ _ rfl (w.heap.size + 1) C rfl rfl 54 (zcells 54).toArray hres ?d2 ?d3 ?d4 ?_))
      case d1 => rw [HC.out]; exact hi54
      case d2 => rw [HC.out]; exact hi54
      case d3 => rw [HC.out]; simpa using zlen54
      case d4 => exact Array.all_eq_true_iff_forall_mem.2 hC1
      exact bodyPost_ret (results_cell_row (fn := Try.f14) rfl _ _ (w.heap.size + 1) 54 C (0, 0) _ rfl (setRow_heap wr (w.heap.size + 1) _ C 54 (0, 0) hres) Try.underlying54 rfl (by rw [HC.out]; exact hi54)) rfl
        ⟨C, rfl, HC.out, hC1, hfin'.out, below_setRow hb (by omega) C⟩
end Go.Proofs.Ytgdfaicdpefocaa
