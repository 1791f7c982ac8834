/-
  The zero values of the great structs and arrays, as the closed program gives them; what stays of an aggregate that is built out of parts.
-/
import Derived.Test.YtgdfaicdpefocaaBase
namespace Go.Proofs.Ytgdfaicdpefocaa
open Go.RowKit

/-- The cells of a type's zero value. -/
noncomputable def zcells (t : TypeId) : List Value :=
  match Try.prog.info? t with
  | some i => match i.zero with
    | some v => v.cells.toList
    | none => []
  | none => []

def isZero32 : Value → Bool
  | .float .f32 0 => true
  | _ => false
def isNilSlice : Value → Bool
  | .slice none 0 0 => true
  | _ => false

theorem isZero32_of {v : Value} (h : isZero32 v = true) : v = .float .f32 0 := by
  unfold isZero32 at h
  split at h
  · rfl
  · cases h
theorem isNilSlice_of {v : Value} (h : isNilSlice v = true) : v = .slice none 0 0 := by
  unfold isNilSlice at h
  split at h
  · rfl
  · cases h

theorem zinfo35 : (Try.prog.info? 35).map (fun i => (i.zero, i.size)) = some (some (.agg (zcells 35).toArray), 248) := by kernel_rfl
theorem zinfo49 : (Try.prog.info? 49).map (fun i => (i.zero, i.size)) = some (some (.agg (zcells 49).toArray), 576) := by kernel_rfl
theorem zinfo54 : (Try.prog.info? 54).map (fun i => (i.zero, i.size)) = some (some (.agg (zcells 54).toArray), 2548) := by kernel_rfl
theorem zinfo70 : (Try.prog.info? 70).map (fun i => (i.zero, i.size)) = some (some (.agg (zcells 70).toArray), 3204) := by kernel_rfl

theorem zlen35 : (zcells 35).length = 248 := by kernel_rfl
theorem zlen49 : (zcells 49).length = 576 := by kernel_rfl
theorem zlen54 : (zcells 54).length = 2548 := by kernel_rfl
theorem zlen70 : (zcells 70).length = 3204 := by kernel_rfl
theorem zone35 : (zcells 35).all (·.oneCell') = true := by kernel_rfl
theorem zone49 : (zcells 49).all (·.oneCell') = true := by kernel_rfl
theorem zone54 : (zcells 54).all (·.oneCell') = true := by kernel_rfl
theorem zone70 : (zcells 70).all (·.oneCell') = true := by kernel_rfl
theorem zfloat54 : ((zcells 54).drop 244).all isZero32 = true := by kernel_rfl
theorem znil35 : ((zcells 35).drop 244).all isNilSlice = true := by kernel_rfl

/-- The fields of the package's main data. -/
noncomputable def Try.dataFields : List Field := match Try.prog.underlying 54 with
  | some (.struct fs) => fs.toList
  | _ => []
/-- The fields of a frame. -/
noncomputable def Try.frameFields : List Field := match Try.prog.underlying 70 with
  | some (.struct fs) => fs.toList
  | _ => []
/-- The fields of the thin package's main data. -/
noncomputable def Try.mainFields : List Field := match Try.prog.underlying 35 with
  | some (.struct fs) => fs.toList
  | _ => []

/-! ### 'build' -/
theorem foldl_size (l : List (Value × Nat)) : ∀ (off : Nat) (cs : Array Value), (l.foldl (fun cs (c, j) => cs.setIfInBounds (off + j) c) cs).size = cs.size := by
  induction l with
  | nil => intros; rfl
  | cons x r ih => intro off cs; simp only [List.foldl_cons]; rw [ih]; simp
theorem foldl_one (l : List (Value × Nat)) (hl : ∀ x ∈ l, x.1.oneCell' = true) : ∀ (off : Nat) (cs : Array Value), (∀ v ∈ cs, v.oneCell' = true) → ∀ v ∈ l.foldl (fun cs (c, j) => cs.setIfInBounds (off + j) c) cs, v.oneCell' = true := by
  induction l with
  | nil => intro off cs h; exact h
  | cons x r ih =>
    intro off cs h
    simp only [List.foldl_cons]
    refine ih (fun y hy => hl y (by simp [hy])) off _ (fun v hv => ?_)
    rcases Array.mem_or_eq_of_mem_setIfInBounds hv with h' | h'
    · exact h v h'
    · rw [h']; exact hl x (by simp)

theorem zipIdx_one {A : Array Value} (h : ∀ v ∈ A, v.oneCell' = true) : ∀ x ∈ A.zipIdx.toList, x.1.oneCell' = true := by
  intro x hx
  have hx' : x ∈ A.zipIdx := Array.mem_toList_iff.1 hx
  obtain ⟨i, hi, he⟩ := Array.mem_iff_getElem.1 hx'
  have e : x.1 = A[i]'(by simpa using hi) := by rw [← he]; simp
  rw [e]
  exact h _ (Array.getElem_mem _)

/-- Cells laid over others, from a place on: as 'fill' does it. -/
def laidAt (off : Nat) (A cs : Array Value) : Array Value := A.zipIdx.foldl (fun cs (c, j) => cs.setIfInBounds (off + j) c) cs
theorem laidAt_size (off : Nat) (A cs : Array Value) : (laidAt off A cs).size = cs.size := by
  unfold laidAt
  rw [← Array.foldl_toList]
  exact foldl_size _ _ _
theorem laidAt_one (off : Nat) (A cs : Array Value) (hA : ∀ v ∈ A, v.oneCell' = true) (h : ∀ v ∈ cs, v.oneCell' = true) : ∀ v ∈ laidAt off A cs, v.oneCell' = true := by
  unfold laidAt
  rw [← Array.foldl_toList]
  exact foldl_one _ (zipIdx_one hA) _ _ h
theorem fill_cons (place : Nat → Option (Nat × Nat)) (cs A : Array Value) (i off size : Nat) (r : List (Nat × Value)) (hp : place i = some (off, size)) (hA : A.size = size) (hc : off + size ≤ cs.size) :
    Instr.fill place cs ((i, .agg A) :: r) = Instr.fill place (laidAt off A cs) r := by
  rw [Instr.fill, hp]
  subst hA
  have h1 : decide ((Value.agg A).cells.size ≠ A.size) = false := by simp [Value.cells]
  have h2 : decide (off + (Value.agg A).cells.size > cs.size) = false := by simp [Value.cells]; omega
  refine (if_neg ?_).trans rfl
  rw [h1, h2]
  decide

/-- A build, its cells known. -/
theorem wpList_built {P : Program} {ops : Array Oper} {rest : List Oper} {o : Oper} {a : Act} {w : World} {Q : Exit → Act → World → Prop} (hg : o.guard = none) (t : TypeId) (parts : Array (Nat × Operand)) (ho : o.op = .build t parts)
    (vals : List (Nat × Value)) (hv : (parts.map fun (i, x) => (i, a.eval x)).toList = vals) (cells : Array Value) (hb : P.built t vals = some cells)
    (h : wpList P ops Q rest (a.put o.dst (.agg cells)) w) : wpList P ops Q (o :: rest) a w := by
  refine wpList_build hg t parts ho (by rw [hv, hb]; rfl) ?_
  rw [hv, hb]
  exact h

theorem mem_extract {A : Array Value} {i j : Nat} {v : Value} (h : v ∈ A.extract i j) : v ∈ A := by
  obtain ⟨k, hk, he⟩ := Array.mem_iff_getElem.1 h
  rw [Array.getElem_extract] at he
  rw [← he]
  exact Array.getElem_mem _

/-- 'maindata.MainData{ScalefacL: .., ScalefacS: ..}'. -/
theorem built54 (A B : Array Value) (hA : A.size = 88) (hB : B.size = 156) (oA : ∀ v ∈ A, v.oneCell' = true) (oB : ∀ v ∈ B, v.oneCell' = true) :
    ∃ C, Try.prog.built 54 [(0, .agg A), (1, .agg B)] = some C ∧ C.size = 2548 ∧ ∀ v ∈ C, v.oneCell' = true := by
  obtain ⟨i, hi, hz⟩ := Option.map_eq_some_iff.1 zinfo54
  simp only [Prod.mk.injEq] at hz
  have hp : Try.dataFields.mapM (fun f => (Try.prog.info? f.type).map fun i => (f.offset, i.size)) = some [(0, 88), (88, 156), (244, 2304)] := by kernel_rfl
  have hu : Try.prog.underlying 54 = some (.struct Try.dataFields.toArray) := Try.underlying54
  have hzs : (zcells 54).toArray.size = 2548 := by simpa using zlen54
  have hz1 : ∀ v ∈ (zcells 54).toArray, v.oneCell' = true := fun v hv => List.all_eq_true.1 zone54 v (by simpa using hv)
  have hb : Try.prog.built 54 [(0, .agg A), (1, .agg B)] = Instr.fill (fun x => [(0, 88), (88, 156), (244, 2304)].toArray[x]?) (zcells 54).toArray [(0, .agg A), (1, .agg B)] := by
    unfold Program.built
    rw [hi, hu]
    simp only [hz.1, hp, Value.cells]
  rw [hb, fill_cons _ _ A 0 0 88 _ rfl hA (by omega), fill_cons _ _ B 1 88 156 _ rfl hB (by rw [laidAt_size]; omega), Instr.fill]
  exact ⟨_, rfl, by rw [laidAt_size, laidAt_size, hzs], laidAt_one _ _ _ oB (laidAt_one _ _ _ oA hz1)⟩

/-- '&Frame{header: .., sideInfo: .., mainData: &md}'. -/
theorem built70 (p : Option Addr) : ∃ C, Try.prog.built 70 [(0, .int .u32 0), (1, .pointer none), (2, .pointer p)] = some C ∧ C[2]? = some (.pointer p) := by
  obtain ⟨i, hi, hz⟩ := Option.map_eq_some_iff.1 zinfo70
  simp only [Prod.mk.injEq] at hz
  have hp : Try.frameFields.mapM (fun f => (Try.prog.info? f.type).map fun i => (f.offset, i.size)) = some [(0, 1), (1, 1), (2, 1), (3, 1), (4, 1152), (1156, 2048)] := by kernel_rfl
  have hu : Try.prog.underlying 70 = some (.struct Try.frameFields.toArray) := Try.underlying70
  have hb : Try.prog.built 70 [(0, .int .u32 0), (1, .pointer none), (2, .pointer p)] = Instr.fill (fun x => [(0, 1), (1, 1), (2, 1), (3, 1), (4, 1152), (1156, 2048)].toArray[x]?) (zcells 70).toArray [(0, .int .u32 0), (1, .pointer none), (2, .pointer p)] := by
    unfold Program.built
    rw [hi, hu]
    simp only [hz.1, hp, Value.cells]
  rw [hb]
  have hzs' : (zcells 70).length = 3204 := zlen70
  refine ⟨(((zcells 70).toArray.setIfInBounds 0 (.int .u32 0)).setIfInBounds 1 (.pointer none)).setIfInBounds 2 (.pointer p), ?_, ?_⟩
  · simp [Instr.fill, Value.cells, hzs']
  · simp [hzs']

/-- 'impl.Main{}'. -/
theorem built35 : Try.prog.built 35 [] = some (zcells 35).toArray := by
  obtain ⟨i, hi, hz⟩ := Option.map_eq_some_iff.1 zinfo35
  simp only [Prod.mk.injEq] at hz
  have hp : Try.mainFields.mapM (fun f => (Try.prog.info? f.type).map fun i => (f.offset, i.size)) = some [(0, 88), (88, 156), (244, 4)] := by kernel_rfl
  have hu : Try.prog.underlying 35 = some (.struct Try.mainFields.toArray) := Try.underlying35
  unfold Program.built
  rw [hi, hu]
  simp only [hz.1, hp, Value.cells, Instr.fill]

end Go.Proofs.Ytgdfaicdpefocaa
