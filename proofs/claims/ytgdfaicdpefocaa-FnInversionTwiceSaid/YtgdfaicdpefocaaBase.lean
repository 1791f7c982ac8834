/-
  Rows of 576 floats in memory, and what stays of them while other memory turns; the closed facts on this program's types.
-/
import Derived.Test.YtgdfaicdpefocaaRows
import Derived.Test.YtgdfaicdpefocaaFloat
import Derived.WalkKit
import Derived.WalkSpells
import Derived.WalkLawsBesides
import Derived.Handy
import Derived.Deep.MidRow
import Derived.Deep.WholeRow
namespace Go.Proofs.Ytgdfaicdpefocaa
open Go.RowKit

/-- The first 576 cells of block b are the floats 'f 0', 'f 1', ..; its cells may be written. -/
structure FRow (k : FloatKind) (w : World) (b : Nat) (f : Nat → Nat) : Prop where
  cell : ∀ j, j < 576 → w.cell? ⟨b, j, none⟩ = some (.float k (f j))
  free : ∀ j, w.frozen? ⟨b, j, none⟩ = false

theorem FRow.lt {k : FloatKind} {w : World} {b : Nat} {f : Nat → Nat} (h : FRow k w b f) : b < w.heap.size :=
  World.block_lt_of_cell? w ⟨b, 0, none⟩ (h.cell 0 (by omega))

theorem FRow.below {k : FloatKind} {B : Nat} {w w' : World} {b : Nat} {f : Nat → Nat} (h : FRow k w b f) (hb : Below B w w') (hlt : b < B) : FRow k w' b f :=
  ⟨fun j hj => (hb.cell (p := ⟨b, j, none⟩) hlt).trans (h.cell j hj), fun j => (hb.frozen (p := ⟨b, j, none⟩) hlt).trans (h.free j)⟩

theorem FRow.kept {k : FloatKind} {w w' : World} {b : Nat} {f : Nat → Nat} (h : FRow k w b f) (hb : w'.heap[b]? = w.heap[b]?) : FRow k w' b f :=
  ⟨fun j hj => (World.cell?_of_block (w := w) (a := ⟨b, j, none⟩) hb).trans (h.cell j hj), fun j => (World.frozen?_of_block (w := w) (a := ⟨b, j, none⟩) hb).trans (h.free j)⟩

theorem FRow.alloc {k : FloatKind} {w : World} {b : Nat} {f : Nat → Nat} (h : FRow k w b f) (o : Obj) : FRow k (w.alloc o) b f :=
  h.kept (Below.heap_alloc w o b h.lt)

theorem FRow.other {k : FloatKind} {w : World} {b : Nat} {f : Nat → Nat} (h : FRow k w b f) (a : Addr) (v : Value) (hne : b ≠ a.block) : FRow k (w.setCell a v) b f :=
  h.kept (Below.heap_setCell w a v b hne)

theorem FRow.set {k : FloatKind} {w : World} {b : Nat} {f : Nat → Nat} (h : FRow k w b f) (i : Nat) (hi : i < 576) (v : Nat) :
    FRow k (w.setCell ⟨b, i, none⟩ (.float k v)) b (fun j => if j = i then v else f j) := by
  refine ⟨fun j hj => ?_, fun j => by rw [World.frozen?_setCell]; exact h.free j⟩
  by_cases e : j = i
  · subst e
    rw [World.cell?_setCell_same _ _ _ (h.cell j hi)]
    simp
  · rw [World.cell?_setCell_other _ _ _ _ (by intro he; injection he with _ h2 _; exact e h2.symm)]
    simpa [e] using h.cell j hj

theorem FRow.new {k : FloatKind} {w : World} {C : Array Value} {t : TypeId} {f : Nat → Nat} (h : ∀ j, j < 576 → C[j]? = some (.float k (f j))) :
    FRow k (w.alloc (.cells C t)) w.heap.size f :=
  ⟨fun j hj => by rw [World.cell?_alloc_new]; exact h j hj, fun j => by rw [World.frozen?_alloc_new]⟩

theorem FRow.congr {k : FloatKind} {w : World} {b : Nat} {f g : Nat → Nat} (h : FRow k w b f) (e : ∀ j, j < 576 → f j = g j) : FRow k w b g :=
  ⟨fun j hj => by rw [← e j hj]; exact h.cell j hj, h.free⟩

/-- 576 cells of block b from place o on are the floats 'f 0', 'f 1', ..; the block's cells may be written. -/
structure FPart (k : FloatKind) (w : World) (b o : Nat) (f : Nat → Nat) : Prop where
  cell : ∀ j, j < 576 → w.cell? ⟨b, o + j, none⟩ = some (.float k (f j))
  free : ∀ j, w.frozen? ⟨b, j, none⟩ = false

theorem FPart.lt {k : FloatKind} {w : World} {b o : Nat} {f : Nat → Nat} (h : FPart k w b o f) : b < w.heap.size :=
  World.block_lt_of_cell? w ⟨b, o + 0, none⟩ (h.cell 0 (by omega))

theorem FPart.kept {k : FloatKind} {w w' : World} {b o : Nat} {f : Nat → Nat} (h : FPart k w b o f) (hb : w'.heap[b]? = w.heap[b]?) : FPart k w' b o f :=
  ⟨fun j hj => (World.cell?_of_block (w := w) (a := ⟨b, o + j, none⟩) hb).trans (h.cell j hj), fun j => (World.frozen?_of_block (w := w) (a := ⟨b, j, none⟩) hb).trans (h.free j)⟩

theorem FPart.set {k : FloatKind} {w : World} {b o : Nat} {f : Nat → Nat} (h : FPart k w b o f) (i : Nat) (hi : i < 576) (v : Nat) :
    FPart k (w.setCell ⟨b, o + i, none⟩ (.float k v)) b o (fun j => if j = i then v else f j) := by
  refine ⟨fun j hj => ?_, fun j => by rw [World.frozen?_setCell]; exact h.free j⟩
  by_cases e : j = i
  · subst e
    rw [World.cell?_setCell_same _ _ _ (h.cell j hi)]
    simp
  · rw [World.cell?_setCell_other _ _ _ _ (by intro he; injection he with _ h2 _; omega)]
    simpa [e] using h.cell j hj

theorem FPart.congr {k : FloatKind} {w : World} {b o : Nat} {f g : Nat → Nat} (h : FPart k w b o f) (e : ∀ j, j < 576 → f j = g j) : FPart k w b o g :=
  ⟨fun j hj => by rw [← e j hj]; exact h.cell j hj, h.free⟩

/-- A fact kept from the walk. -/
theorem hide {p : Prop} (h : p) : Hid p := h

/-- What the walk is told of a slice of whole numbers of eight bits that came in. -/
def IsRow (k : IntKind) (w : World) (a : Option Addr) (len cap : Nat) (zs : List Int) : Prop :=
  (a = none ∧ len = 0 ∧ cap = 0 ∧ zs = []) ∨
  ∃ x, a = some x ∧ len ≤ cap ∧ cap ≤ maxLen ∧ zs.length = cap ∧ (∀ i, i < zs.length → w.cell? (x.add i) = some (.int k (zs.getD i 0))) ∧ ∀ n ∈ zs, (Lit.int k n).wf = true

/-- A store of a float into a cell that is there. -/
theorem store_float {P : Program} {w : World} {a : Addr} {u : Value} (k : FloatKind) (n : Nat) (h : w.cell? a = some u) (hz : w.frozen? a = false) :
    (store a (.float k n)).run P w = .ok () (w.setCell a (.float k n)) := by
  rw [run_store P w a _ _ rfl, h]
  simp [hz]

/-- The negative of a float. -/
theorem unary_neg_float (k : FloatKind) (b : Nat) : Op.unary .neg (.float k b) = pure (.float k (Op.negFloat k b)) := rfl

/-! ### The closed facts on the types -/
theorem Try.info46 : (Try.prog.info? 46).map (fun i => (i.zero, i.size, i.bytes)) = some (some (.float .f32 0), 1, 4) := by kernel_rfl
theorem Try.info42 : (Try.prog.info? 42).map (fun i => (i.zero, i.size, i.bytes)) = some (some (.float .f64 0), 1, 8) := by kernel_rfl

theorem made_get (z : Value) (n j : Nat) (h : j < n) : (madeCells #[z] n)[j]? = some z := by
  simp [madeCells, h, Nat.mod_one]

/-- 'make([]float32, 576)', 'make([]float64, 576)'. -/
theorem make31 (w : World) : (Instr.makeSlice 31 (.int .i64 576) (.int .i64 576)).run Try.prog w = .ok (.slice (some ⟨w.heap.size, 0, none⟩) 576 576) (w.alloc (.cells (madeCells #[.float .f32 0] 576) 46)) := by
  obtain ⟨i, hi, hz, hs, hb⟩ := info_parts Try.info46
  have h := run_make (P := Try.prog) w 31 46 i (.float .f32 0) Try.underlying31 hi hz .i64 .i64 576 576 (by omega) (by omega) (by rw [hb]; omega) (by omega)
  rw [hs] at h
  exact h
theorem make38 (w : World) : (Instr.makeSlice 38 (.int .i64 576) (.int .i64 576)).run Try.prog w = .ok (.slice (some ⟨w.heap.size, 0, none⟩) 576 576) (w.alloc (.cells (madeCells #[.float .f64 0] 576) 42)) := by
  obtain ⟨i, hi, hz, hs, hb⟩ := info_parts Try.info42
  have h := run_make (P := Try.prog) w 38 42 i (.float .f64 0) Try.underlying38 hi hz .i64 .i64 576 576 (by omega) (by omega) (by rw [hb]; omega) (by omega)
  rw [hs] at h
  exact h

end Go.Proofs.Ytgdfaicdpefocaa
