import Derived.Test.Qxb6629241aFmtArg
namespace Go.Proofs.Qxb6629241aFmt
open Go.RowKit
set_option linter.unusedSimpArgs false
set_option linter.unusedVariables false

/-! ### the plain law of the doubled gaps -/
theorem IsK.unique {c : Nat → Nat} {m m' : Nat} (h : IsK c m) (h' : IsK c m') : m = m' := by
  rcases Nat.lt_trichotomy m m' with e | e | e
  · have h1 := h.2.2 (by have := h'.1; omega)
    have h2 := h'.2.1 m e
    omega
  · exact e
  · have h1 := h'.2.2 (by have := h.1; omega)
    have h2 := h.2.1 m' e
    omega
theorem cS_double {g g' : Nat → Nat} {N : Nat} (hg : ∀ j, j < N → g' j = 2 * g j) (k : Nat) : ∀ m, m ≤ N → cS g' (k + 1) m = cS g k m + m := by
  intro m
  induction m with
  | zero => intro _; rfl
  | succ m ih =>
    intro hm
    have e : 2 * g m / 2 ^ (k + 1) = g m / 2 ^ k := by
      rw [Nat.pow_succ, Nat.mul_comm (2 ^ k) 2, Nat.mul_div_mul_left _ _ (by omega)]
    simp only [cS, hg m (by omega), e, ih (by omega)]
    omega
theorem cS_zero {g g' : Nat → Nat} {N : Nat} (hg : ∀ j, j < N → g' j = 2 * g j) : ∀ m, m ≤ N → cS g' 0 m + m = 2 * cS g 0 m := by
  intro m
  induction m with
  | zero => intro _; rfl
  | succ m ih =>
    intro hm
    have := ih (by omega)
    simp only [cS, hg m (by omega), Nat.pow_zero, Nat.div_one]
    omega
theorem cS_ones {g : Nat → Nat} {N : Nat} (hg : ∀ j, j < N → g j = 1) : ∀ m, m ≤ N → cS g 0 m = 2 * m ∧ cS g 1 m = 2 * m := by
  intro m
  induction m with
  | zero => intro _; exact ⟨rfl, rfl⟩
  | succ m ih =>
    intro hm
    have := ih (by omega)
    simp only [cS, hg m (by omega), Nat.pow_zero, Nat.div_one]
    refine ⟨by omega, ?_⟩
    have e : 1 / 2 ^ 1 = 0 := by decide
    rw [e]; omega
theorem cS_ge {g : Nat → Nat} {N : Nat} (hg : ∀ j, j < N → 1 ≤ g j) : ∀ m, m ≤ N → 2 * m ≤ cS g 0 m := by
  intro m
  induction m with
  | zero => intro _; exact Nat.le_refl _
  | succ m ih =>
    intro hm
    have h1 := ih (by omega)
    have h2 := hg m (by omega)
    simp only [cS, Nat.pow_zero, Nat.div_one]
    omega
theorem cS_gt {g : Nat → Nat} {N : Nat} (hg : ∀ j, j < N → 1 ≤ g j) (i : Nat) (hi : i < N) (h2 : g i ≠ 1) : ∀ m, m ≤ N → i < m → 2 * m < cS g 0 m := by
  intro m
  induction m with
  | zero => intro _ h; omega
  | succ m ih =>
    intro hm him
    have h3 := hg m (by omega)
    simp only [cS, Nat.pow_zero, Nat.div_one]
    by_cases e : i = m
    · subst e
      have := cS_ge hg i (by omega)
      omega
    · have := ih (by omega) (by omega)
      omega
theorem cS_small {g : Nat → Nat} {N k : Nat} (hg : ∀ j, j < N → g j < 2 ^ k) : ∀ m, m ≤ N → cS g k m = m * (k + 1) := by
  intro m
  induction m with
  | zero => intro _; simp [cS]
  | succ m ih =>
    intro hm
    simp only [cS, Nat.div_eq_of_lt (hg m (by omega)), ih (by omega), Nat.succ_mul]
    omega
/-- the values doubled and moved -/
def dbl (vs : List Nat) (x : Nat) : List Nat := vs.map fun v => 2 * v + x
theorem dbl_length (vs : List Nat) (x : Nat) : (dbl vs x).length = vs.length := by unfold dbl; simp
theorem dbl_get (vs : List Nat) (x j : Nat) (h : j < vs.length) (h' : j < (dbl vs x).length) : (dbl vs x)[j] = 2 * vs[j] + x := by
  simp only [dbl, List.getElem_map]
theorem asc_le {vs : List Nat} (hv : Asc vs) (j k : Nat) (hk : k < vs.length) (hjk : j ≤ k) : vs[j]'(by omega) ≤ vs[k] := by
  induction k with
  | zero =>
    have e : j = 0 := by omega
    subst e; exact Nat.le_refl _
  | succ k ih =>
    by_cases e : j = k + 1
    · subst e; exact Nat.le_refl _
    · have h1 := ih (by omega) (by omega)
      have h2 := hv.2 k hk
      omega
theorem dbl_asc {vs : List Nat} (hv : Asc vs) (x : Nat) (hl : ∀ j (h : j < vs.length), 2 * vs[j] + x < 4294967296) : Asc (dbl vs x) := by
  constructor
  · intro j h
    have h1 : j < vs.length := by rw [dbl_length] at h; exact h
    rw [dbl_get vs x j h1]; exact hl j h1
  · intro j h
    have h1 : j + 1 < vs.length := by rw [dbl_length] at h; exact h
    rw [dbl_get vs x j (by omega), dbl_get vs x (j + 1) h1]
    have := hv.2 j h1
    omega
theorem dbl_gap (vs : List Nat) (x j : Nat) (h : j < vs.length - 1) : gap (dbl vs x) j = 2 * gap vs j := by
  rw [gap_eq vs j (by omega), gap_eq (dbl vs x) j (by rw [dbl_length]; omega), dbl_get vs x (j + 1) (by omega), dbl_get vs x j (by omega)]
  omega
theorem gap_pos {vs : List Nat} (hv : Asc vs) (j : Nat) (h : j < vs.length - 1) : 1 ≤ gap vs j := by
  rw [gap_eq vs j (by omega)]
  have := hv.2 j (by omega)
  omega
theorem ones_zero {vs : List Nat} (h1 : ∀ j, j < vs.length - 1 → gap vs j = 1) {x a b : Nat} (ha : IsK (cost vs) a) (hb : IsK (cost (dbl vs x)) b) : a = 0 ∧ b = 0 := by
  have e1 := cS_ones h1 (vs.length - 1) (Nat.le_refl _)
  have e2 := cS_double (fun j hj => dbl_gap vs x j hj) 0 (vs.length - 1) (Nat.le_refl _)
  have e3 := cS_zero (fun j hj => dbl_gap vs x j hj) (vs.length - 1) (Nat.le_refl _)
  constructor
  · rcases Nat.eq_zero_or_pos a with e | e
    · exact e
    · have := ha.2.1 0 e
      unfold cost at this
      simp only [Nat.zero_add] at this
      omega
  · rcases Nat.eq_zero_or_pos b with e | e
    · exact e
    · have := hb.2.1 0 e
      unfold cost at this
      rw [dbl_length] at this
      simp only [Nat.zero_add] at this e2
      omega
theorem more_one {vs : List Nat} (hv : Asc vs) {i : Nat} (hi : i < vs.length - 1) (h1 : gap vs i ≠ 1) {x a b : Nat} (hl : ∀ j (h : j < vs.length), 2 * vs[j] + x < 4294967296) (ha : IsK (cost vs) a) (hb : IsK (cost (dbl vs x)) b) : b = a + 1 := by
  have hN : ∀ k, cost (dbl vs x) (k + 1) = cost vs k + (vs.length - 1) := by
    intro k
    unfold cost
    rw [dbl_length]
    exact cS_double (fun j hj => dbl_gap vs x j hj) k (vs.length - 1) (Nat.le_refl _)
  have e3 : cost (dbl vs x) 0 + (vs.length - 1) = 2 * cost vs 0 := by
    unfold cost
    rw [dbl_length]
    exact cS_zero (fun j hj => dbl_gap vs x j hj) (vs.length - 1) (Nat.le_refl _)
  have e4 : 2 * (vs.length - 1) < cost vs 0 := cS_gt (fun j hj => gap_pos hv j hj) i hi h1 (vs.length - 1) (Nat.le_refl _) hi
  have hg : ∀ j, j < vs.length - 1 → gap vs j < 2 ^ 31 := by
    intro j hj
    rw [gap_eq vs j (by omega)]
    have := hl (j + 1) (by omega)
    have h2 : (2 : Nat) ^ 31 = 2147483648 := by decide
    omega
  have ha31 : a ≤ 31 := by
    have := ha.1
    rcases Nat.lt_or_ge a 32 with h | h
    · omega
    · have e : a = 32 := by omega
      subst e
      have h5 : cost vs 32 < cost vs 31 := ha.2.1 31 (by omega)
      have h6 : cost vs 31 = (vs.length - 1) * 32 := cS_small hg (vs.length - 1) (Nat.le_refl _)
      have h7 : cost vs 32 = (vs.length - 1) * 33 := cS_small (fun j hj => Nat.lt_of_lt_of_le (hg j hj) (by decide)) (vs.length - 1) (Nat.le_refl _)
      omega
  have hK : IsK (cost (dbl vs x)) (a + 1) := by
    refine ⟨by omega, fun j hj => ?_, fun h => ?_⟩
    · cases j with
      | zero => rw [hN 0]; omega
      | succ j => rw [hN (j + 1), hN j]; have := ha.2.1 j (by omega); omega
    · rw [hN a, hN (a + 1)]; have := ha.2.2 (by omega); omega
  exact hb.unique hK

end Go.Proofs.Qxb6629241aFmt
