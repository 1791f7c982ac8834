/-
  What 'spec.Inverted' does: 576 numbers of 64 bits anew, the odd ones of odd bands turned.
-/
import Derived.Test.YtgdfaicdpefocaaBase
import Derived.Test.YtgdfaicdpefocaaTurn
namespace Go.Proofs.Ytgdfaicdpefocaa
open Go.RowKit

def InvertedEnd (x : Nat → Nat) (w : World) (e : Ending) (w' : World) : Prop :=
  ∃ b c, e = .returned (.slice (some ⟨b, 0, none⟩) 576 c) ∧ FRow .f64 w' b (inv neg64 x) ∧ Below w.heap.size w w'

/-- The relation of the loops. -/
def TurnRel (x : Nat → Nat) (w : World) (b band k : Nat) (wr : World) : Prop := FRow .f64 wr b (turn neg64 x band k) ∧ w.heap.size ≤ b ∧ Below w.heap.size w wr

theorem TurnRel.step {x : Nat → Nat} {w wr : World} {b band k : Nat} (h : TurnRel x w b band k wr) (hb : band < 32) (hk : k < 18) (ob : band % 2 = 1) (ok : k % 2 = 1) :
    TurnRel x w b band (k + 2) (wr.setCell ⟨b, 18 * band + k, none⟩ (.float .f64 (neg64 (x (18 * band + k))))) := by
  obtain ⟨hf, hlb, hbe⟩ := h
  exact ⟨(hf.set (18 * band + k) (by omega) _).congr (fun j _ => turn_step neg64 x hk ob ok j), hlb, hbe.setCell hlb _⟩

theorem TurnRel.next {x : Nat → Nat} {w wr : World} {b band k : Nat} (h : TurnRel x w b band k wr) (hk : 18 ≤ k) (ob : band % 2 = 1) : TurnRel x w b (band + 2) 1 wr :=
  ⟨h.1.congr (fun j _ => turn_next neg64 x hk ob j), h.2⟩

/-- What the append leaves: a row of the call's own. -/
theorem own_row {x : Nat → Nat} {w : World} {B : Nat} {v : Value} (h : w.ownsRow B 42 1 v 576 ((List.range 576).map fun j => Value.float .f64 (x j))) :
    ∃ b c, v = .slice (some ⟨b, 0, none⟩) 576 c ∧ B ≤ b ∧ FRow .f64 w b x := by
  rcases h.2 with ⟨_, h0⟩ | ⟨g, cap, cur, hv, hg, hh, _, _, _, htake⟩
  · omega
  · refine ⟨g, cap, hv, hg, fun j hj => ?_, fun j => by simp [World.frozen?, hh]⟩
    rw [cell_of_row w g j cur 42 (0, 0) hh]
    have : (cur.toList.take (576 * 1))[j]? = some (.float .f64 (x j)) := by rw [htake]; simp [hj]
    rw [List.getElem?_take, if_pos (by omega)] at this
    simpa using this

set_option maxRecDepth 100000 in
theorem inverted_any (b c : Nat) (x : Nat → Nat) (w : World) (hx : FRow .f64 w b x) :
    Calls Try.prog 10 #[.slice (some ⟨b, 0, none⟩) 576 c] w (InvertedEnd x w) := by
  obtain ⟨i0, hi, hz0, hz1, hz2⟩ := info_parts Try.info42
  have hlt := hx.lt
  go_enter Try.func10, Try.ntmps10
  go_wp2_with (at_builtin; refine wpList_append_own _ rfl _ _ 38 rfl w.heap.size 42 i0 (.float .f64 0) 1 8 Try.underlying38 hi hz0 hz1 hz2 rfl (by decide) _ 0 [] rfl (World.ownsRow_made w #[] 0 (Nat.le_refl _) (by decide) rfl) ⟨b, 0, none⟩ 576 c ((List.range 576).map fun j => Value.float .f64 (x j)) rfl (by simp) ?c1 ?c2 (by decide) (by decide) (by simp) ?c3)
  case c1 =>
    intro j u hu
    rw [World.cell?_alloc_lt _ _ _ (by simpa [Addr.add_mid] using hlt), Addr.add_mid, Nat.zero_add]
    by_cases hj : j < 576
    · simp [hj] at hu
      rw [hx.cell j hj, hu]
    · simp [hj] at hu
  case c2 =>
    intro u hu
    simp only [List.mem_map] at hu
    obtain ⟨j, _, rfl⟩ := hu
    rfl
  case c3 =>
    intro v' w1 hown hgrow _
    obtain ⟨b', c', hv, hlb, hf⟩ := own_row (by simpa using hown)
    have hbe : Below w.heap.size w w1 := ((Below.refl _ _).alloc (Nat.le_refl _) _).grown hgrow (by simp) (fun k hk => by injection hk with hk; exact Nat.le_of_eq hk)
    rw [hv]
    clear hown hgrow hv hi hz0 hz1 hz2
    have hr0 : TurnRel x w b' 1 1 w1 := ⟨hf.congr (fun j _ => (turn_start neg64 x j).symm), hlb, hbe⟩
    clear hf hbe
    go_wp2
    go_loopw [4] (fun i wr => ∃ band : Nat, band ≤ 33 ∧ band % 2 = 1 ∧ i = .int .i64 band ∧ TurnRel x w b' band 1 wr) (fun i _ => 40 - (intOf i).toNat)
    case atStart => exact ⟨1, by omega, by omega, rfl, hr0⟩
    case round =>
      clear hr0
      obtain ⟨band, hband, ob, rfl, hr1⟩ := hrel
      have OB := hide ob
      clear ob
      by_cases hbb : band < 32
      · go_wp2
        obtain ⟨wo, rfl⟩ : ∃ wo : World, wo = wr := ⟨_, rfl⟩
        go_loopw [5] (fun i wr => ∃ k : Nat, k ≤ 19 ∧ Hid (k % 2 = 1) ∧ i = .int .i64 k ∧ TurnRel x w b' band k wr) (fun i _ => 40 - (intOf i).toNat)
        case atStart => exact ⟨1, by omega, hide (by omega), rfl, hr1⟩
        case round =>
          clear hr1
          obtain ⟨k, hk, OK, rfl, hrel⟩ := hrel
          by_cases hkk : k < 18
          · have hc : wr.cell? ⟨b', 18 * band + k, none⟩ = some (.float .f64 (x (18 * band + k))) := by
              rw [hrel.1.cell _ (by omega), turn_at _ _ hkk]
            have hst : (store ⟨b', 18 * band + k, none⟩ (.float .f64 (neg64 (x (18 * band + k))))).run Try.prog wr = .ok () (wr.setCell ⟨b', 18 * band + k, none⟩ (.float .f64 (neg64 (x (18 * band + k))))) :=
              store_float _ _ hc (hrel.1.free _)
            have hng : ∀ b, Op.unary .neg (.float .f64 b) = pure (.float .f64 (neg64 b)) := unary_neg_float .f64
            have hnx := hrel.step hbb hkk OB.out OK.out
            go_wp2
            go_roundw
            case rel => exact ⟨k + 2, by omega, hide (by have := OK.out; omega), by go_num, hnx⟩
            case measure => simp [intOf]; omega
          · have hnx := hrel.next (by omega) OB.out
            go_wp2
            go_roundw
            case rel => exact ⟨band + 2, by omega, by have := OB.out; omega, by go_num, hnx⟩
            case measure => simp [intOf]; omega
      · go_wp2
        go_ret
        exact ⟨b', c', rfl, hr1.1.congr (fun j hj => turn_end neg64 x (by omega) j hj), hr1.2.2⟩
end Go.Proofs.Ytgdfaicdpefocaa
