/-
  The plain law of the floats: a sixteenth of a whole number of eight bits, its negative, both as 64 bits; the greatest of such; how near two are. No program here.
-/
import Derived.Laws.FloatArith
import Derived.KernelRfl
namespace Go.Proofs.Ytgdfaicdpefocaa

/-- The bits of the float32 'n / 16'. -/
def q32 (n : Int) : Nat := (FloatKind.f32.format.div (FloatKind.f32.nearest n) 1098907648).getD 0
def neg32 (b : Nat) : Nat := Op.negFloat .f32 b
def neg64 (b : Nat) : Nat := Op.negFloat .f64 b
/-- The bits of 'float64(x)'. -/
def w64 (b : Nat) : Nat := (floatToFloatBits .f32 b .f64).getD 0
/-- The bits of the float64 'm / 16', m not negative. -/
def mag (m : Nat) : Nat := FloatKind.f64.encode (.number false m (-4))

/-- A sixteenth of a whole number of eight bits, or the negative of one. -/
def Good (b : Nat) : Prop := ∃ n : Int, -128 ≤ n ∧ n ≤ 127 ∧ (b = q32 n ∨ b = neg32 (q32 n))

def ok1 (b : Nat) : Bool :=
  floatToFloatBits .f32 b .f64 == some (w64 b) && w64 (neg32 b) == neg64 (w64 b) && neg32 (neg32 b) == b && neg64 (neg64 (w64 b)) == w64 b
    && FloatKind.f64.format.sub (w64 b) (w64 b) == some 0 && (List.range 129).any (fun m => w64 b == mag m || w64 b == neg64 (mag m))
def okN (n : Int) : Bool := FloatKind.f32.format.div (FloatKind.f32.nearest n) 1098907648 == some (q32 n) && ok1 (q32 n) && ok1 (neg32 (q32 n))

theorem okN_all : ((List.range 256).all fun i => okN ((i : Int) - 128)) = true := by kernel_rfl

theorem okN_of {n : Int} (h1 : -128 ≤ n) (h2 : n ≤ 127) : okN n = true := by
  have h := List.all_eq_true.1 okN_all (n + 128).toNat (by simp; omega)
  have e : (((n + 128).toNat : Nat) : Int) - 128 = n := by omega
  rwa [e] at h

theorem q32_some {n : Int} (h1 : -128 ≤ n) (h2 : n ≤ 127) : FloatKind.f32.format.div (FloatKind.f32.nearest n) 1098907648 = some (q32 n) := by
  have h := okN_of h1 h2
  simp only [okN, Bool.and_eq_true, beq_iff_eq] at h
  exact h.1.1

theorem ok1_of {b : Nat} (h : Good b) : ok1 b = true := by
  obtain ⟨n, h1, h2, hb⟩ := h
  have h := okN_of h1 h2
  simp only [okN, Bool.and_eq_true] at h
  rcases hb with rfl | rfl
  · exact h.1.2
  · exact h.2

theorem Good.parts {b : Nat} (h : Good b) : floatToFloatBits .f32 b .f64 = some (w64 b) ∧ w64 (neg32 b) = neg64 (w64 b) ∧ neg32 (neg32 b) = b ∧ neg64 (neg64 (w64 b)) = w64 b
    ∧ FloatKind.f64.format.sub (w64 b) (w64 b) = some 0 ∧ ∃ m, m ≤ 128 ∧ (w64 b = mag m ∨ w64 b = neg64 (mag m)) := by
  have h := ok1_of h
  simp only [ok1, Bool.and_eq_true, beq_iff_eq, List.any_eq_true, Bool.or_eq_true, List.mem_range] at h
  obtain ⟨⟨⟨⟨⟨a, b⟩, c⟩, d⟩, e⟩, m, hm, f⟩ := h
  exact ⟨a, b, c, d, e, m, by omega, f⟩

theorem good_zero : Good 0 := ⟨0, by omega, by omega, .inl (by kernel_rfl)⟩
theorem good_q32 {n : Int} (h1 : -128 ≤ n) (h2 : n ≤ 127) : Good (q32 n) := ⟨n, h1, h2, .inl rfl⟩
theorem Good.neg {b : Nat} (h : Good b) : Good (neg32 b) := by
  have hp := h.parts.2.2.1
  obtain ⟨n, h1, h2, hb⟩ := h
  rcases hb with rfl | rfl
  · exact ⟨n, h1, h2, .inr rfl⟩
  · refine ⟨n, h1, h2, .inl ?_⟩
    have hq := (good_q32 h1 h2).parts.2.2.1
    exact hq

/-- A float64 that is a sixteenth of a whole number of eight bits, or its negative. -/
def Good64 (c : Nat) : Prop := ∃ m, m ≤ 128 ∧ (c = mag m ∨ c = neg64 (mag m))
theorem Good.wide {b : Nat} (h : Good b) : Good64 (w64 b) := h.parts.2.2.2.2.2

/-! ### The greatest -/
/-- 'max' of two floats of 64 bits, where neither is a NaN. -/
def max64 (x y : Nat) : Option Nat :=
  match FloatKind.f64.format.order x y with
  | none => none
  | some .lt => some y
  | some .gt => some x
  | some .eq => some (if (FloatKind.f64.decode x).neg then y else x)

def okMax (i j : Nat) : Bool := max64 (mag i) (mag j) == some (mag (max i j)) && max64 (mag i) (neg64 (mag j)) == some (mag i) && neg64 (neg64 (mag j)) == mag j
/-- The row of one number. (In nine parts: the kernel gives its memory back behind each.) -/
def okRow (i : Nat) : Bool := (List.range 129).all fun j => okMax i j
theorem okRows0 : ((List.range 16).all fun i => okRow (i + 0)) = true := by kernel_rfl
theorem okRows1 : ((List.range 16).all fun i => okRow (i + 16)) = true := by kernel_rfl
theorem okRows2 : ((List.range 16).all fun i => okRow (i + 32)) = true := by kernel_rfl
theorem okRows3 : ((List.range 16).all fun i => okRow (i + 48)) = true := by kernel_rfl
theorem okRows4 : ((List.range 16).all fun i => okRow (i + 64)) = true := by kernel_rfl
theorem okRows5 : ((List.range 16).all fun i => okRow (i + 80)) = true := by kernel_rfl
theorem okRows6 : ((List.range 16).all fun i => okRow (i + 96)) = true := by kernel_rfl
theorem okRows7 : ((List.range 16).all fun i => okRow (i + 112)) = true := by kernel_rfl
theorem okRows8 : ((List.range 1).all fun i => okRow (i + 128)) = true := by kernel_rfl
theorem okRow_of {i : Nat} (hi : i ≤ 128) : okRow i = true := by
  by_cases h0 : i < 16
  · have h := List.all_eq_true.1 okRows0 (i - 0) (by simp; omega); rwa [show i - 0 + 0 = i by omega] at h
  by_cases h1 : i < 32
  · have h := List.all_eq_true.1 okRows1 (i - 16) (by simp; omega); rwa [show i - 16 + 16 = i by omega] at h
  by_cases h2 : i < 48
  · have h := List.all_eq_true.1 okRows2 (i - 32) (by simp; omega); rwa [show i - 32 + 32 = i by omega] at h
  by_cases h3 : i < 64
  · have h := List.all_eq_true.1 okRows3 (i - 48) (by simp; omega); rwa [show i - 48 + 48 = i by omega] at h
  by_cases h4 : i < 80
  · have h := List.all_eq_true.1 okRows4 (i - 64) (by simp; omega); rwa [show i - 64 + 64 = i by omega] at h
  by_cases h5 : i < 96
  · have h := List.all_eq_true.1 okRows5 (i - 80) (by simp; omega); rwa [show i - 80 + 80 = i by omega] at h
  by_cases h6 : i < 112
  · have h := List.all_eq_true.1 okRows6 (i - 96) (by simp; omega); rwa [show i - 96 + 96 = i by omega] at h
  by_cases h7 : i < 128
  · have h := List.all_eq_true.1 okRows7 (i - 112) (by simp; omega); rwa [show i - 112 + 112 = i by omega] at h
  have h := List.all_eq_true.1 okRows8 (i - 128) (by simp; omega)
  rwa [show i - 128 + 128 = i by omega] at h
theorem okMax_of {i j : Nat} (hi : i ≤ 128) (hj : j ≤ 128) : max64 (mag i) (mag j) = some (mag (max i j)) ∧ max64 (mag i) (neg64 (mag j)) = some (mag i) ∧ neg64 (neg64 (mag j)) = mag j := by
  have h := List.all_eq_true.1 (okRow_of hi) j (by simp; omega)
  simp only [okMax, Bool.and_eq_true, beq_iff_eq] at h
  exact ⟨h.1.1, h.1.2, h.2⟩

/-- Not negative. -/
def Top (t : Nat) : Prop := ∃ m, m ≤ 128 ∧ t = mag m
theorem top_zero : Top 0 := ⟨0, by omega, by kernel_rfl⟩

theorem top_max {t v : Nat} (ht : Top t) (hv : Good64 v) : ∃ a b, max64 t v = some a ∧ max64 a (neg64 v) = some b ∧ Top b := by
  obtain ⟨i, hi, rfl⟩ := ht
  obtain ⟨j, hj, hv⟩ := hv
  have h := okMax_of hi hj
  rcases hv with rfl | rfl
  · have h' := okMax_of (i := max i j) (by omega) hj
    exact ⟨_, _, h.1, h'.2.1, max i j, by omega, rfl⟩
  · rw [h.2.2]
    exact ⟨_, _, h.2.1, h.1, max i j, by omega, rfl⟩

/-! ### How near -/
def okNear (i : Nat) : Bool :=
  match FloatKind.f64.format.div (mag i) 4671226772094713856 with
  | none => false
  | some q =>
    match FloatKind.f64.format.add q 4472406533629990549 with
    | none => false
    | some t => !(FloatKind.f64.format.order 0 t == some .gt) && !(FloatKind.f64.format.order (neg64 0) t == some .gt)
theorem okNear_all : ((List.range 129).all fun i => okNear i) = true := by kernel_rfl
theorem near_of {t : Nat} (ht : Top t) : ∃ q s, FloatKind.f64.format.div t 4671226772094713856 = some q ∧ FloatKind.f64.format.add q 4472406533629990549 = some s
    ∧ (FloatKind.f64.format.order 0 s == some .gt) = false ∧ (FloatKind.f64.format.order (neg64 0) s == some .gt) = false := by
  obtain ⟨i, hi, rfl⟩ := ht
  have h := List.all_eq_true.1 okNear_all i (by simp; omega)
  unfold okNear at h
  split at h
  · cases h
  · rename_i q hq
    split at h
    · cases h
    · rename_i s hs
      simp only [Bool.and_eq_true, Bool.not_eq_true'] at h
      exact ⟨q, s, hq, hs, h.1, h.2⟩
theorem same_zero : (FloatKind.f64.format.order 0 0 != some .eq) = false := by kernel_rfl

end Go.Proofs.Ytgdfaicdpefocaa
