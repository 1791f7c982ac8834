/-
  What 'frequencyInversion' does to the main data behind the frame: the odd numbers of odd bands of one granule and channel are turned; nothing else turns.
-/
import Derived.Test.YtgdfaicdpefocaaBase
import Derived.Test.YtgdfaicdpefocaaTurn
import Derived.StillTailTactics
import Derived.BigRegion
namespace Go.Proofs.Ytgdfaicdpefocaa
open Go.RowKit

/-- Only block m has turned. -/
structure Only (m : Nat) (w w' : World) : Prop where
  os : w'.os = w.os
  tape : w'.tape = w.tape
  output : w'.output = w.output
  size : w'.heap.size = w.heap.size
  block : ∀ k, k ≠ m → w'.heap[k]? = w.heap[k]?

theorem Only.refl (m : Nat) (w : World) : Only m w w := ⟨rfl, rfl, rfl, rfl, fun _ _ => rfl⟩
theorem Only.drew {m : Nat} {a w : World} (h : Only m a w) : Only m a w.drew := ⟨h.os, h.tape, h.output, h.size, h.block⟩
theorem Only.setCell {m : Nat} {a w : World} (h : Only m a w) (o : Nat) (v : Value) : Only m a (w.setCell ⟨m, o, none⟩ v) :=
  ⟨h.os, h.tape, h.output, by rw [World.size_setCell]; exact h.size, fun k hk => (Below.heap_setCell _ _ _ _ hk).trans (h.block k hk)⟩

def FreqEnd (m o : Nat) (x : Nat → Nat) (w : World) (e : Ending) (w' : World) : Prop := e = .returned (.tuple #[]) ∧ FPart .f32 w' m o (inv neg32 x) ∧ Only m w w'

def FreqRel (m o : Nat) (x : Nat → Nat) (w : World) (band k : Nat) (wr : World) : Prop := FPart .f32 wr m o (turn neg32 x band k) ∧ Only m w wr

theorem FreqRel.step {m o : Nat} {x : Nat → Nat} {w wr : World} {band k : Nat} (h : FreqRel m o x w band k wr) (hb : band < 32) (hk : k < 18) (ob : band % 2 = 1) (ok : k % 2 = 1) :
    FreqRel m o x w band (k + 2) (wr.setCell ⟨m, o + (18 * band + k), none⟩ (.float .f32 (neg32 (x (18 * band + k))))) :=
  ⟨(h.1.set (18 * band + k) (by omega) _).congr (fun j _ => turn_step neg32 x hk ob ok j), h.2.setCell _ _⟩
theorem FreqRel.drew {m o : Nat} {x : Nat → Nat} {w wr : World} {band k : Nat} (h : FreqRel m o x w band k wr) : FreqRel m o x w band k wr.drew :=
  ⟨⟨h.1.cell, h.1.free⟩, h.2.drew⟩
theorem FreqRel.next {m o : Nat} {x : Nat → Nat} {w wr : World} {band k : Nat} (h : FreqRel m o x w band k wr) (hk : 18 ≤ k) (ob : band % 2 = 1) : FreqRel m o x w (band + 2) 1 wr :=
  ⟨h.1.congr (fun j _ => turn_next neg32 x hk ob j), h.2⟩

set_option maxRecDepth 100000 in
theorem freq_any (fb m g c : Nat) (x : Nat → Nat) (w : World) (hg : g < 2) (hc : c < 2) (hfm : fb ≠ m) (hp : w.cell? ⟨fb, 2, none⟩ = some (.pointer (some ⟨m, 0, none⟩)))
    (hx : FPart .f32 w m (244 + g * 1152 + c * 576) x) :
    Calls Try.prog 16 #[.pointer (some ⟨fb, 0, none⟩), .int .i64 g, .int .i64 c] w (FreqEnd m (244 + g * 1152 + c * 576) x w) := by
  have hr0 : FreqRel m (244 + g * 1152 + c * 576) x w 1 1 w := ⟨hx.congr (fun j _ => (turn_start neg32 x j).symm), Only.refl _ _⟩
  clear hx
  go_enter Try.func16, Try.ntmps16
  go_wp2
  go_loopw [6] (fun i wr => ∃ band : Nat, band ≤ 33 ∧ Hid (band % 2 = 1) ∧ i = .int .i64 band ∧ FreqRel m (244 + g * 1152 + c * 576) x w band 1 wr) (fun i _ => 40 - (intOf i).toNat)
  case atStart => exact ⟨1, by omega, hide (by omega), rfl, hr0⟩
  case round =>
    clear hr0
    obtain ⟨band, hband, OB, rfl, hr1⟩ := hrel
    by_cases hbb : band < 32
    · have hd : decide ((band : Int) < 32) = true := by simp; omega
      go_wp2
      obtain ⟨wo, rfl⟩ : ∃ wo : World, wo = wr := ⟨_, rfl⟩
      go_loopw [7] (fun i wr => ∃ k : Nat, k ≤ 19 ∧ Hid (k % 2 = 1) ∧ i = .int .i64 k ∧ FreqRel m (244 + g * 1152 + c * 576) x w band k wr) (fun i _ => 40 - (intOf i).toNat)
      case atStart => exact ⟨1, by omega, hide (by omega), rfl, hr1⟩
      case round =>
        clear hr1
        obtain ⟨k, hk, OK, rfl, hrel⟩ := hrel
        by_cases hkk : k < 18
        · obtain ⟨v, hv⟩ : ∃ v, v = x (18 * band + k) := ⟨_, rfl⟩
          have e18 : band * 18 + k = 18 * band + k := by omega
          have hnx := hrel.drew.step hbb hkk OB.out OK.out
          have hcell : wr.cell? ⟨m, 244 + g * 1152 + c * 576 + (band * 18 + k), none⟩ = some (.float .f32 v) := by
            rw [e18, hrel.1.cell _ (by omega), turn_at _ _ hkk, hv]
          have hfz := hrel.1.free (244 + g * 1152 + c * 576 + (band * 18 + k))
          have hst : (store ⟨m, 244 + g * 1152 + c * 576 + (band * 18 + k), none⟩ (.float .f32 (neg32 v))).run Try.prog wr.drew = .ok () (wr.drew.setCell ⟨m, 244 + g * 1152 + c * 576 + (band * 18 + k), none⟩ (.float .f32 (neg32 v))) :=
            store_float _ _ (w := wr.drew) hcell hfz
          rw [← hv, ← e18] at hnx
          obtain ⟨w2, hw2⟩ : ∃ w2, wr.drew = w2 := ⟨_, rfl⟩
          rw [hw2] at hnx hst
          have HW := hide hw2
          have hng : ∀ b, Op.unary .neg (.float .f32 b) = pure (.float .f32 (neg32 b)) := unary_neg_float .f32
          have hq : wr.cell? ⟨fb, 2, none⟩ = some (.pointer (some ⟨m, 0, none⟩)) := (World.cell?_of_block (w := w) (a := ⟨fb, 2, none⟩) (hrel.2.block fb hfm)).trans hp
          clear hv e18 hfz hw2 hrel
          go_wp2_with fail
          have g2 : (g : Int) < 2 := by omega
          have c2 : (c : Int) < 2 := by omega
          have a3 : (band : Int) * 18 + k < 576 := by omega
          have a4 : (0 : Int) ≤ (band : Int) * 18 + k := by omega
          have a5 : ((band : Int) * 18 + k).toNat = band * 18 + k := by omega
          have a1 : IntKind.i64.wrap ((band : Int) * 18) = (band : Int) * 18 := IntWalk.i64_in _ (by omega)
          have a2 : IntKind.i64.wrap ((band : Int) * 18 + k) = (band : Int) * 18 + k := IntWalk.i64_in _ (by omega)
          go_still_tail 32, (by kernel_rfl)
          clear a1 a2 a3 a4 a5 g2 c2 hcell hq hng
          change wpList _ _ _ _ _ wr.drew
          rw [HW.out]
          clear HW
          go_wp2
          go_roundw
          case rel => exact ⟨k + 2, by omega, hide (by have := OK.out; omega), by go_num, hnx⟩
          case measure => simp [intOf]; omega
        · have hnx := hrel.next (by omega) OB.out
          go_wp2
          go_roundw
          case rel => exact ⟨band + 2, by omega, hide (by have := OB.out; omega), by go_num, hnx⟩
          case measure => simp [intOf]; omega
    · go_wp2
      go_end0
      exact ⟨rfl, hr1.1.congr (fun j hj => turn_end neg32 x (by omega) j hj), hr1.2⟩
end Go.Proofs.Ytgdfaicdpefocaa
