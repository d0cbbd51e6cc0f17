import Derived.KernelRfl
namespace Go.Proofs.Qxb6604205a.plain

def dig (x : Int) : Bool := decide (48 ≤ x) && decide (x ≤ 57)
theorem dig_true {x : Int} (h : dig x = true) : 48 ≤ x ∧ x ≤ 57 := by unfold dig at h; simpa using h
theorem dig_false {x : Int} (h : dig x = false) : ¬ (48 ≤ x ∧ x ≤ 57) := by
  unfold dig at h
  intro ⟨h1, h2⟩
  simp [h1, h2] at h
theorem dig_mk {x : Int} (h1 : 48 ≤ x) (h2 : x ≤ 57) : dig x = true := by unfold dig; simp [h1, h2]

/-- The power of ten, kept shut. -/
def pw : Nat → Int
  | 0 => 1
  | k + 1 => pw k * 10
theorem pw_succ (k : Nat) : pw (k + 1) = pw k * 10 := rfl
theorem pw_pos (k : Nat) : 1 ≤ pw k := by
  induction k with
  | zero => decide
  | succ k ih => rw [pw_succ]; omega
theorem pw_mono {k m : Nat} (h : k ≤ m) : pw k ≤ pw m := by
  induction m with
  | zero => obtain rfl : k = 0 := by omega
            exact Int.le_refl _
  | succ m ih =>
    by_cases e : k = m + 1
    · rw [e]; exact Int.le_refl _
    · have := ih (by omega)
      have p := pw_pos m
      rw [pw_succ]; omega
theorem pw_18 : pw 18 = 1000000000000000000 := by decide
theorem pw_bd {k : Nat} (h : k ≤ 18) : 1 ≤ pw k ∧ pw k ≤ 1000000000000000000 := ⟨pw_pos k, by have := pw_mono h; rw [pw_18] at this; exact this⟩

/-- The value of the first k digits, from the left. -/
def V (g : Nat → Int) : Nat → Int
  | 0 => 0
  | k + 1 => 10 * V g k + (g k - 48)
theorem V_succ (g : Nat → Int) (k : Nat) : V g (k + 1) = 10 * V g k + (g k - 48) := rfl
theorem V_bd (g : Nat → Int) (k : Nat) (h : ∀ i, i < k → dig (g i) = true) : 0 ≤ V g k ∧ V g k + 1 ≤ pw k := by
  induction k with
  | zero => exact ⟨by simp [V], by simp [V, pw]⟩
  | succ k ih =>
    have := ih (fun i hi => h i (by omega))
    have d := dig_true (h k (by omega))
    rw [V_succ, pw_succ]
    omega

/-- The value of the last k of m digits, from the right. -/
def R (g : Nat → Int) (m : Nat) : Nat → Int
  | 0 => 0
  | k + 1 => R g m k + (g (m - 1 - k) - 48) * pw k
theorem R_succ (g : Nat → Int) (m k : Nat) : R g m (k + 1) = R g m k + (g (m - 1 - k) - 48) * pw k := rfl
theorem R_bd (g : Nat → Int) (m k : Nat) (hk : k ≤ m) (h : ∀ i, m - k ≤ i → i < m → dig (g i) = true) : 0 ≤ R g m k ∧ R g m k + 1 ≤ pw k := by
  induction k with
  | zero => exact ⟨by simp [R], by simp [R, pw]⟩
  | succ k ih =>
    have := ih (by omega) (fun i h1 h2 => h i (by omega) h2)
    have d := dig_true (h (m - 1 - k) (by omega) (by omega))
    have p := pw_pos k
    rw [R_succ, pw_succ]
    have e1 : 0 ≤ (g (m - 1 - k) - 48) * pw k := Int.mul_nonneg (by omega) (by omega)
    have e2 : (g (m - 1 - k) - 48) * pw k ≤ 9 * pw k := Int.mul_le_mul_of_nonneg_right (by omega) (by omega)
    omega
theorem split (g : Nat → Int) (m k : Nat) (hk : k ≤ m) : V g m = V g (m - k) * pw k + R g m k := by
  induction k with
  | zero => simp [R, pw]
  | succ k ih =>
    rw [ih (by omega)]
    obtain ⟨j, hj⟩ : ∃ j, m - k = j + 1 := ⟨m - k - 1, by omega⟩
    have e1 : m - (k + 1) = j := by omega
    have e2 : m - 1 - k = j := by omega
    rw [hj, e1, V_succ, R_succ, pw_succ, e2]
    have : (10 * V g j + (g j - 48)) * pw k = V g j * (pw k * 10) + (g j - 48) * pw k := by
      rw [Int.add_mul, Int.mul_comm 10 (V g j), Int.mul_assoc, Int.mul_comm 10 (pw k)]
    omega
theorem same (g : Nat → Int) (m : Nat) : R g m m = V g m := by
  have := split g m m (Nat.le_refl _)
  rw [Nat.sub_self] at this
  simp [V] at this
  exact this.symm
end Go.Proofs.Qxb6604205a.plain
