import Derived.Test.Qxb6604205aPlain
namespace Go.Proofs.Qxb6604205a.plain

/-- May x stand at place i of dd:dd:dd? -/
def okTB (i : Nat) (x : Int) : Bool := if i = 2 ∨ i = 5 then x == 58 else dig x
def okT (f : Nat → Int) (i : Nat) : Bool := okTB i (f i)

def Scan (f : Nat → Int) (n m : Nat) : Prop := m ≤ 8 ∧ m ≤ n ∧ (∀ i, i < m → okT f i = true) ∧ (m = 8 ∨ m = n ∨ okT f m = false)
def Run (f : Nat → Int) (n s j : Nat) : Prop := s ≤ j ∧ j ≤ n ∧ (∀ i, s ≤ i → i < j → dig (f i) = true) ∧ (j = n ∨ dig (f j) = false)

theorem scan_unique {f : Nat → Int} {n m m' : Nat} (h : Scan f n m) (h' : Scan f n m') : m = m' := by
  obtain ⟨a1, a2, a3, a4⟩ := h
  obtain ⟨b1, b2, b3, b4⟩ := h'
  rcases Nat.lt_trichotomy m m' with c | c | c
  · have := b3 m c
    rcases a4 with d | d | d
    · omega
    · omega
    · rw [this] at d; cases d
  · exact c
  · have := a3 m' c
    rcases b4 with d | d | d
    · omega
    · omega
    · rw [this] at d; cases d
theorem scan_exists (f : Nat → Int) (n : Nat) : ∃ m, Scan f n m := by
  have step : ∀ d m, m + d = min 8 n → (∀ i, i < m → okT f i = true) → ∃ m, Scan f n m := by
    intro d
    induction d with
    | zero => intro m hm h; exact ⟨m, by omega, by omega, h, by omega⟩
    | succ d ih =>
      intro m hm h
      cases e : okT f m
      · exact ⟨m, by omega, by omega, h, .inr (.inr e)⟩
      · refine ih (m + 1) (by omega) ?_
        intro i hi
        by_cases c : i = m
        · rw [c]; exact e
        · exact h i (by omega)
  exact step (min 8 n) 0 (by omega) (fun i hi => absurd hi (by omega))
theorem run_unique {f : Nat → Int} {n s m m' : Nat} (h : Run f n s m) (h' : Run f n s m') : m = m' := by
  obtain ⟨a1, a2, a3, a4⟩ := h
  obtain ⟨b1, b2, b3, b4⟩ := h'
  rcases Nat.lt_trichotomy m m' with c | c | c
  · have := b3 m a1 c
    rcases a4 with d | d
    · omega
    · rw [this] at d; cases d
  · exact c
  · have := a3 m' b1 c
    rcases b4 with d | d
    · omega
    · rw [this] at d; cases d

def TSpec (f : Nat → Int) (n : Nat) (nw : Bool) (k : Nat) (r : Int) : Prop :=
  ∃ m, Scan f n m ∧
    ((m = 8 ∧ 8 < n ∧ f 8 = 46 ∧ ∃ j, Run f n 9 j ∧ ((j = 9 ∧ k = 8 ∧ r = 15) ∨ (j ≠ 9 ∧ k = j ∧ r = 0))) ∨
     (m = 8 ∧ ¬ (8 < n ∧ f 8 = 46) ∧ k = 8 ∧ r = 0) ∨
     (m = 5 ∧ nw = true ∧ ((5 < n ∧ f 5 = 46 ∧ k = 0 ∧ r = 14) ∨ (¬ (5 < n ∧ f 5 = 46) ∧ k = 5 ∧ r = 0))) ∨
     (m ≠ 8 ∧ m ≠ 5 ∧ nw = true ∧ k = 0 ∧ r = 12) ∨
     (m ≠ 8 ∧ nw = false ∧ k = 0 ∧ r = 11))

theorem TSpec.le {f : Nat → Int} {n k : Nat} {nw : Bool} {r : Int} (h : TSpec f n nw k r) : k ≤ n := by
  obtain ⟨m, ⟨_, hm, _, _⟩, h⟩ := h
  rcases h with ⟨_, _, _, j, ⟨_, hj, _, _⟩, h | h⟩ | h | ⟨_, _, h | h⟩ | h | h <;> omega

theorem TSpec.unique {f : Nat → Int} {n k k' : Nat} {nw : Bool} {r r' : Int} (h : TSpec f n nw k r) (h' : TSpec f n nw k' r') : k = k' ∧ r = r' := by
  obtain ⟨m, hm, h⟩ := h
  obtain ⟨m', hm', h'⟩ := h'
  obtain rfl := scan_unique hm hm'
  cases nw
  · rcases h with ⟨a1, a2, a3, j, hj, h⟩ | ⟨a1, a2, h⟩ | ⟨_, c, _⟩ | ⟨_, _, c, _⟩ | ⟨a1, _, h⟩
    · rcases h' with ⟨_, _, _, j', hj', h'⟩ | ⟨_, b, h'⟩ | ⟨_, c, _⟩ | ⟨_, _, c, _⟩ | ⟨b1, _, h'⟩
      · obtain rfl := run_unique hj hj'
        omega
      · exact absurd ⟨a2, a3⟩ b
      · cases c
      · cases c
      · exact absurd a1 b1
    · rcases h' with ⟨b0, b1, b2, _⟩ | ⟨_, b, h'⟩ | ⟨_, c, _⟩ | ⟨_, _, c, _⟩ | ⟨b1, _, h'⟩
      · exact absurd ⟨b1, b2⟩ a2
      · omega
      · cases c
      · cases c
      · exact absurd a1 b1
    · cases c
    · cases c
    · rcases h' with ⟨b0, b1, b2, _⟩ | ⟨b0, b, h'⟩ | ⟨_, c, _⟩ | ⟨_, _, c, _⟩ | ⟨b1, _, h'⟩
      · exact absurd b0 a1
      · exact absurd b0 a1
      · cases c
      · cases c
      · omega
  · rcases h with ⟨a1, a2, a3, j, hj, h⟩ | ⟨a1, a2, h⟩ | ⟨a1, _, h⟩ | ⟨a1, a2, _, h⟩ | ⟨_, c, _⟩
    · rcases h' with ⟨_, _, _, j', hj', h'⟩ | ⟨_, b, h'⟩ | ⟨b1, _, _⟩ | ⟨b1, _, _, _⟩ | ⟨_, c, _⟩
      · obtain rfl := run_unique hj hj'
        omega
      · exact absurd ⟨a2, a3⟩ b
      · omega
      · exact absurd a1 b1
      · cases c
    · rcases h' with ⟨b0, b1, b2, _⟩ | ⟨_, b, h'⟩ | ⟨b1, _, _⟩ | ⟨b1, _, _, _⟩ | ⟨_, c, _⟩
      · exact absurd ⟨b1, b2⟩ a2
      · omega
      · omega
      · exact absurd a1 b1
      · cases c
    · rcases h' with ⟨b0, b1, b2, _⟩ | ⟨b0, b, h'⟩ | ⟨b1, _, h'⟩ | ⟨_, b1, _, _⟩ | ⟨_, c, _⟩
      · omega
      · omega
      · rcases h with ⟨p1, p2, h⟩ | ⟨p1, h⟩ <;> rcases h' with ⟨q1, q2, h'⟩ | ⟨q1, h'⟩
        · omega
        · exact absurd ⟨p1, p2⟩ q1
        · exact absurd ⟨q1, q2⟩ p1
        · omega
      · exact absurd a1 b1
      · cases c
    · rcases h' with ⟨b0, b1, b2, _⟩ | ⟨b0, b, h'⟩ | ⟨b1, _, h'⟩ | ⟨_, b1, _, h'⟩ | ⟨_, c, _⟩
      · exact absurd b0 a1
      · exact absurd b0 a1
      · exact absurd b1 a2
      · omega
      · cases c
    · cases c
end Go.Proofs.Qxb6604205a.plain
