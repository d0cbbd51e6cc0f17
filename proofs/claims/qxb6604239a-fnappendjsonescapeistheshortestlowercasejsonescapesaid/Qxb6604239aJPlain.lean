import Derived.Test.Qxb6604239aEsc
namespace Go.Proofs.Qxb6604239a.esc
set_option linter.unusedVariables false

theorem hx_bd (d : Int) (h0 : 0 ≤ d) (h1 : d < 16) : 48 ≤ hx d ∧ hx d ≤ 102 := by unfold hx; split <;> omega
theorem esc_len (c : Int) : (esc c).length = 2 ∨ (esc c).length = 6 := by
  unfold esc
  by_cases h34 : c = 34
  · rw [if_pos h34]; exact .inl rfl
  rw [if_neg h34]
  by_cases h92 : c = 92
  · rw [if_pos h92]; exact .inl rfl
  rw [if_neg h92]
  by_cases h8 : c = 8
  · rw [if_pos h8]; exact .inl rfl
  rw [if_neg h8]
  by_cases h9 : c = 9
  · rw [if_pos h9]; exact .inl rfl
  rw [if_neg h9]
  by_cases h10 : c = 10
  · rw [if_pos h10]; exact .inl rfl
  rw [if_neg h10]
  by_cases h12 : c = 12
  · rw [if_pos h12]; exact .inl rfl
  rw [if_neg h12]
  by_cases h13 : c = 13
  · rw [if_pos h13]; exact .inl rfl
  rw [if_neg h13]
  exact .inr rfl
theorem esc_print (c : Int) (c0 : 0 ≤ c) (c255 : c ≤ 255) : ∀ x ∈ esc c, 32 ≤ x ∧ x ≤ 126 := by
  have h1 := hx_bd (c / 16) (by omega) (by omega)
  have h2 := hx_bd (c % 16) (by omega) (by omega)
  intro x hx'
  unfold esc at hx'
  by_cases h34 : c = 34
  · rw [if_pos h34] at hx'; simp at hx'; omega
  rw [if_neg h34] at hx'
  by_cases h92 : c = 92
  · rw [if_pos h92] at hx'; simp at hx'; omega
  rw [if_neg h92] at hx'
  by_cases h8 : c = 8
  · rw [if_pos h8] at hx'; simp at hx'; omega
  rw [if_neg h8] at hx'
  by_cases h9 : c = 9
  · rw [if_pos h9] at hx'; simp at hx'; omega
  rw [if_neg h9] at hx'
  by_cases h10 : c = 10
  · rw [if_pos h10] at hx'; simp at hx'; omega
  rw [if_neg h10] at hx'
  by_cases h12 : c = 12
  · rw [if_pos h12] at hx'; simp at hx'; omega
  rw [if_neg h12] at hx'
  by_cases h13 : c = 13
  · rw [if_pos h13] at hx'; simp at hx'; omega
  rw [if_neg h13] at hx'
  simp at hx'
  omega

/-- The byte of s at place k, as a number. -/
def ch (s : ByteArray) (k : Nat) : Int := if h : k < s.size then (s[k].toNat : Int) else 0
theorem ch_at {s : ByteArray} {k : Nat} (h : k < s.size) : ch s k = (s[k].toNat : Int) := by unfold ch; simp [h]
theorem ch_bd (s : ByteArray) (k : Nat) : 0 ≤ ch s k ∧ ch s k ≤ 255 := by
  unfold ch
  split
  · rename_i h
    have := s[k].toNat_lt
    omega
  · omega
/-- The escapes of the first k bytes, end to end. -/
def ej (s : ByteArray) : Nat → List Int
  | 0 => []
  | k + 1 => ej s k ++ esc (ch s k)
theorem ej_succ (s : ByteArray) (k : Nat) : ej s (k + 1) = ej s k ++ esc (ch s k) := rfl
theorem ej_len (s : ByteArray) (k : Nat) : 2 * k ≤ (ej s k).length ∧ (ej s k).length ≤ 6 * k := by
  induction k with
  | zero => simp [ej]
  | succ k ih =>
    rw [ej_succ, List.length_append]
    have := esc_len (ch s k)
    omega
theorem ej_print (s : ByteArray) (k : Nat) : ∀ x ∈ ej s k, 32 ≤ x ∧ x ≤ 126 := by
  induction k with
  | zero => intro x hx'; simp [ej] at hx'
  | succ k ih =>
    intro x hx'
    rw [ej_succ, List.mem_append] at hx'
    rcases hx' with h | h
    · exact ih x h
    · exact esc_print _ (ch_bd s k).1 (ch_bd s k).2 x h
theorem ej_prefix (s : ByteArray) (k : Nat) : ∀ m, k ≤ m → ∃ r, ej s m = ej s k ++ r := by
  intro m
  induction m with
  | zero => intro h; obtain rfl : k = 0 := by omega
            exact ⟨[], by simp⟩
  | succ m ih =>
    intro h
    by_cases e : k = m + 1
    · exact ⟨[], by rw [e]; simp⟩
    · obtain ⟨r, hr⟩ := ih (by omega)
      exact ⟨r ++ esc (ch s m), by rw [ej_succ, hr, List.append_assoc]⟩
/-- The j-th byte of all the escapes. -/
def fj (s : ByteArray) (j : Nat) : Int := (ej s s.size).getD j 0
theorem fj_at (s : ByteArray) (k : Nat) (hk : k < s.size) : ∀ j, j < (esc (ch s k)).length → fj s ((ej s k).length + j) = (esc (ch s k)).getD j 0 := by
  intro j hj
  obtain ⟨r, hr⟩ := ej_prefix s (k + 1) s.size (by omega)
  unfold fj
  rw [hr, ej_succ, List.append_assoc]
  simp only [List.getD_eq_getElem?_getD]
  rw [List.getElem?_append_right (by omega), List.getElem?_append_left (by omega)]
  simp
theorem fj_print (s : ByteArray) (j : Nat) (hj : j < (ej s s.size).length) : 32 ≤ fj s j ∧ fj s j ≤ 126 := by
  unfold fj
  refine ej_print s s.size _ ?_
  simp [List.getD_eq_getElem?_getD, hj]
theorem ej_le (s : ByteArray) (k : Nat) (hk : k < s.size) : (ej s k).length + (esc (ch s k)).length ≤ (ej s s.size).length := by
  obtain ⟨r, hr⟩ := ej_prefix s (k + 1) s.size (by omega)
  rw [hr, ej_succ]
  simp
end Go.Proofs.Qxb6604239a.esc
