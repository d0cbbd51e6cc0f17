import Derived.Test.Qxb6604205aPartialB
namespace Go.Proofs.Qxb6604205a.matchT
open Go.ChangeShapes Go.WideShapes Go.ChangeAt Go.RowKit
open Go.Proofs.Qxb6604205a.plain Go.Proofs.Qxb6604205a.short Go.Proofs.Qxb6604205a.fixed Go.Proofs.Qxb6604205a.timeModel Go.Proofs.Qxb6604205a.partialT
set_option linter.unusedVariables false

/-! ### The plain side -/
def okDB (i : Nat) (x : Int) : Bool := if i = 4 ∨ i = 7 then x == 45 else dig x
def okD (f : Nat → Int) (i : Nat) : Bool := okDB i (f i)
def preD (f : Nat → Int) (n : Nat) : Bool := decide (10 ≤ n) && (List.range 10).all (okD f)
theorem preD_true {f : Nat → Int} {n : Nat} (h : preD f n = true) : 10 ≤ n ∧ ∀ i, i < 10 → okD f i = true := by
  unfold preD at h
  simp only [Bool.and_eq_true, decide_eq_true_eq, List.all_eq_true, List.mem_range] at h
  exact h
theorem preD_mk {f : Nat → Int} {n : Nat} (h : 10 ≤ n) (h' : ∀ i, i < 10 → okD f i = true) : preD f n = true := by
  unfold preD
  simp only [Bool.and_eq_true, decide_eq_true_eq, List.all_eq_true, List.mem_range]
  exact ⟨h, h'⟩
theorem preD_no {f : Nat → Int} {n i : Nat} (h : i < 10) (h' : okD f i = false) : preD f n = false := by
  cases e : preD f n
  · rfl
  · rw [(preD_true e).2 i h] at h'; cases h'
theorem preD_short {f : Nat → Int} {n : Nat} (h : n < 10) : preD f n = false := by
  cases e : preD f n
  · rfl
  · have := (preD_true e).1; omega

/-- The bytes behind the first k. -/
def up (k : Nat) (f : Nat → Int) (i : Nat) : Int := f (k + i)
def offB (h : Nat → Int) (m : Nat) : Bool :=
  if m = 1 then h 0 == 90 || h 0 == 122 else if m = 6 then (h 0 == 43 || h 0 == 45) && pre (up 1 h) 5 5 else false
def tmR (r : Int) (m : Nat) : Int := if r = 0 ∧ 0 < m then 17 else r
def timeOnly (f : Nat → Int) (n : Nat) : Bool := decide (n ≤ 2) || f 2 == 58
def sepOK (x : Int) : Bool := x == 84 || x == 116 || x == 32
def kindOf (h : Nat → Int) (m : Nat) (r : Int) : Int := if r ≠ 0 then 0 else if m = 0 then 7 else if offB h m = true then 6 else 0
def whyOf (h : Nat → Int) (m : Nat) (r : Int) : Int := if r ≠ 0 then r else if m = 0 then 0 else if offB h m = true then 0 else 16

def MRel (f : Nat → Int) (n : Nat) (nw : Bool) (x y : Int) : Prop :=
  if timeOnly f n = true then ∃ (k : Nat) (r : Int), TSpec f n nw k r ∧ x = 9 ∧ y = tmR r (n - k)
  else if preD f n = false then x = 0 ∧ y = 9
  else if n = 10 then x = 8 ∧ y = 0
  else if sepOK (f 10) = false then x = 0 ∧ y = 10
  else ∃ (k : Nat) (r : Int), TSpec (up 11 f) (n - 11) nw k r ∧ x = kindOf (up k (up 11 f)) (n - 11 - k) r ∧ y = whyOf (up k (up 11 f)) (n - 11 - k) r

theorem MRel.unique {f : Nat → Int} {n : Nat} {nw : Bool} {x y x' y' : Int} (h : MRel f n nw x y) (h' : MRel f n nw x' y') : x = x' ∧ y = y' := by
  unfold MRel at h h'
  by_cases c1 : timeOnly f n = true
  · rw [if_pos c1] at h h'
    obtain ⟨k, r, ht, rfl, rfl⟩ := h
    obtain ⟨k', r', ht', rfl, rfl⟩ := h'
    obtain ⟨rfl, rfl⟩ := ht.unique ht'
    exact ⟨rfl, rfl⟩
  rw [if_neg c1] at h h'
  by_cases c2 : preD f n = false
  · rw [if_pos c2] at h h'
    omega
  rw [if_neg c2] at h h'
  by_cases c3 : n = 10
  · rw [if_pos c3] at h h'
    omega
  rw [if_neg c3] at h h'
  by_cases c4 : sepOK (f 10) = false
  · rw [if_pos c4] at h h'
    omega
  rw [if_neg c4] at h h'
  obtain ⟨k, r, ht, rfl, rfl⟩ := h
  obtain ⟨k', r', ht', rfl, rfl⟩ := h'
  obtain ⟨rfl, rfl⟩ := ht.unique ht'
  exact ⟨rfl, rfl⟩

theorem rel_time {f : Nat → Int} {n k : Nat} {nw : Bool} {r : Int} (c1 : timeOnly f n = true) (ht : TSpec f n nw k r) : MRel f n nw 9 (tmR r (n - k)) := by
  unfold MRel; rw [if_pos c1]; exact ⟨k, r, ht, rfl, rfl⟩
theorem rel_bad {f : Nat → Int} {n : Nat} {nw : Bool} (c1 : timeOnly f n = false) (c2 : preD f n = false) : MRel f n nw 0 9 := by
  unfold MRel; rw [if_neg (by rw [c1]; decide), if_pos c2]; exact ⟨rfl, rfl⟩
theorem rel_date {f : Nat → Int} {nw : Bool} (c1 : timeOnly f 10 = false) (c2 : preD f 10 = true) : MRel f 10 nw 8 0 := by
  unfold MRel; rw [if_neg (by rw [c1]; decide), if_neg (by rw [c2]; decide), if_pos rfl]; exact ⟨rfl, rfl⟩
theorem rel_sep {f : Nat → Int} {n : Nat} {nw : Bool} (c1 : timeOnly f n = false) (c2 : preD f n = true) (c3 : n ≠ 10) (c4 : sepOK (f 10) = false) : MRel f n nw 0 10 := by
  unfold MRel; rw [if_neg (by rw [c1]; decide), if_neg (by rw [c2]; decide), if_neg c3, if_pos c4]; exact ⟨rfl, rfl⟩
theorem rel_full {f : Nat → Int} {n k : Nat} {nw : Bool} {r : Int} (c1 : timeOnly f n = false) (c2 : preD f n = true) (c3 : n ≠ 10) (c4 : sepOK (f 10) = true) (ht : TSpec (up 11 f) (n - 11) nw k r) :
    MRel f n nw (kindOf (up k (up 11 f)) (n - 11 - k) r) (whyOf (up k (up 11 f)) (n - 11 - k) r) := by
  unfold MRel; rw [if_neg (by rw [c1]; decide), if_neg (by rw [c2]; decide), if_neg c3, if_neg (by rw [c4]; decide)]; exact ⟨k, r, ht, rfl, rfl⟩

/-! ### The callees -/
theorem okS10 (f : Nat → Int) (i : Nat) (h : i < 10) : okS f ⟨#[100, 100, 100, 100, 45, 100, 100, 45, 100, 100]⟩ i = okD f i := by
  rcases (by omega : i = 0 ∨ i = 1 ∨ i = 2 ∨ i = 3 ∨ i = 4 ∨ i = 5 ∨ i = 6 ∨ i = 7 ∨ i = 8 ∨ i = 9) with rfl | rfl | rfl | rfl | rfl | rfl | rfl | rfl | rfl | rfl <;> rfl
theorem fd10 (b off n c : Nat) (f : Nat → Int) (w : World) (hx : n ≤ 1048576) (hr : ∀ i, 0 ≤ f i ∧ f i ≤ 255) (hc : ∀ i, i < n → w.cell? ⟨b, off + i, none⟩ = some (.int .u8 (f i))) :
    Calls Try.prog 26 #[.slice (some ⟨b, off, none⟩) n c, .string ⟨#[100, 100, 100, 100, 45, 100, 100, 45, 100, 100]⟩] w fun e w' => e = .returned (.bool (preD f n)) ∧ ∃ q, w' = w.drewN q := by
  by_cases h : n < 10
  · rw [preD_short h]
    exact (fd_short _ _ _ _ _ h).mono fun e w' ⟨h1, h2⟩ => ⟨h1, 0, h2⟩
  · refine (fd b off n c f ⟨#[100, 100, 100, 100, 45, 100, 100, 45, 100, 100]⟩ w (show 10 ≤ n by omega) hx hr hc).mono fun e w' ⟨hq, ho⟩ => ⟨?_, hq⟩
    rcases ho with ⟨rfl, ho⟩ | ⟨rfl, i, hi, ho⟩
    · rw [preD_mk (by omega) (fun i hi => by rw [← okS10 f i hi]; exact ho i hi)]
    · rw [preD_no (i := i) hi (by rw [← okS10 f i hi]; exact ho)]

theorem dateOK (i : Nat) (x : Int) (w : World) : Calls Try.prog 22 #[.int .i64 (i : Int), .int .u8 x] w fun e w' => e = .returned (.bool (okDB i x)) ∧ w' = w := by
  by_cases h2 : i = 4
  · subst h2
    have e : okDB 4 x = (x == 45) := rfl
    rw [e]; clear e
    go_enter Try.func22, Try.ntmps22
    go_wp2
    go_ret
    exact ⟨rfl, rfl⟩
  by_cases h5 : i = 7
  · subst h5
    have e : okDB 7 x = (x == 45) := rfl
    rw [e]; clear e h2
    go_enter Try.func22, Try.ntmps22
    go_wp2
    go_ret
    exact ⟨rfl, rfl⟩
  have e : okDB i x = dig x := by unfold okDB; rw [if_neg (by omega)]
  rw [e]; clear e
  have e2 : ((i : Int) == 4) = false := by simp; omega
  have e5 : ((i : Int) == 7) = false := by simp; omega
  go_enter Try.func22, Try.ntmps22
  go_wp2_with (first | (go_at_call 18; refine (zzDigit _ _).mono ?_; rintro e w' ⟨rfl, rfl⟩))
  go_ret
  exact ⟨rfl, rfl⟩

theorem pre5_eq (h : Nat → Int) : pre (up 1 h) 5 5 = (dig (h 1) && (dig (h 2) && ((h 3 == 58) && (dig (h 4) && dig (h 5))))) := by
  simp [pre, List.range, List.range.loop, okT, okTB, up]

set_option maxHeartbeats 1000000 in
theorem isOff (b off m c : Nat) (h : Nat → Int) (w : World) (hx : m ≤ 1048576) (h0 : 0 < m) (hc : ∀ i, i < m → w.cell? ⟨b, off + i, none⟩ = some (.int .u8 (h i))) :
    Calls Try.prog 23 #[.slice (some ⟨b, off, none⟩) m c] w fun e w' => e = .returned (.bool (offB h m)) ∧ w' = w := by
  have hc0 : w.cell? ⟨b, off, none⟩ = some (.int .u8 (h 0)) := by simpa using hc 0 h0
  by_cases h1 : m = 1
  · subst h1
    have e : offB h 1 = (h 0 == 90 || h 0 == 122) := rfl
    rw [e]; clear e hc
    cases c1 : (h 0 == 90)
    all_goals
      go_enter Try.func23, Try.ntmps23
      go_wp2
      go_ret
      exact ⟨rfl, rfl⟩
  by_cases h6 : m = 6
  · subst h6
    have e : offB h 6 = ((h 0 == 43 || h 0 == 45) && pre (up 1 h) 5 5) := rfl
    rw [e, pre5_eq]; clear e
    have g1 := hc 1 (by omega)
    have g2 := hc 2 (by omega)
    have g3 := hc 3 (by omega)
    have g4 := hc 4 (by omega)
    have g5 := hc 5 (by omega)
    clear hc
    cases c1 : (h 0 == 43)
    · have c1' : (h 0 != 43) = true := by simp [bne, c1]
      cases c2 : (h 0 == 45)
      · have c2' : (h 0 != 45) = true := by simp [bne, c2]
        go_enter Try.func23, Try.ntmps23
        go_wp2
        go_ret
        exact ⟨rfl, rfl⟩
      have c2' : (h 0 != 45) = false := by simp [bne, c2]
      cases d1 : dig (h 1)
      · go_enter Try.func23, Try.ntmps23
        go_wp2_with (first | (go_at_call 18; refine (zzDigit _ _).mono ?_; rintro e w' ⟨rfl, rfl⟩))
        go_ret
        exact ⟨rfl, rfl⟩
      cases d2 : dig (h 2)
      · go_enter Try.func23, Try.ntmps23
        go_wp2_with (first | (go_at_call 18; refine (zzDigit _ _).mono ?_; rintro e w' ⟨rfl, rfl⟩))
        go_ret
        exact ⟨rfl, rfl⟩
      cases d3 : (h 3 == 58)
      · go_enter Try.func23, Try.ntmps23
        go_wp2_with (first | (go_at_call 18; refine (zzDigit _ _).mono ?_; rintro e w' ⟨rfl, rfl⟩))
        go_ret
        exact ⟨rfl, rfl⟩
      cases d4 : dig (h 4)
      · go_enter Try.func23, Try.ntmps23
        go_wp2_with (first | (go_at_call 18; refine (zzDigit _ _).mono ?_; rintro e w' ⟨rfl, rfl⟩))
        go_ret
        exact ⟨rfl, rfl⟩
      go_enter Try.func23, Try.ntmps23
      go_wp2_with (first | (go_at_call 18; refine (zzDigit _ _).mono ?_; rintro e w' ⟨rfl, rfl⟩))
      go_ret
      exact ⟨rfl, rfl⟩
    have c1' : (h 0 != 43) = false := by simp [bne, c1]
    cases d1 : dig (h 1)
    · go_enter Try.func23, Try.ntmps23
      go_wp2_with (first | (go_at_call 18; refine (zzDigit _ _).mono ?_; rintro e w' ⟨rfl, rfl⟩))
      go_ret
      exact ⟨rfl, rfl⟩
    cases d2 : dig (h 2)
    · go_enter Try.func23, Try.ntmps23
      go_wp2_with (first | (go_at_call 18; refine (zzDigit _ _).mono ?_; rintro e w' ⟨rfl, rfl⟩))
      go_ret
      exact ⟨rfl, rfl⟩
    cases d3 : (h 3 == 58)
    · go_enter Try.func23, Try.ntmps23
      go_wp2_with (first | (go_at_call 18; refine (zzDigit _ _).mono ?_; rintro e w' ⟨rfl, rfl⟩))
      go_ret
      exact ⟨rfl, rfl⟩
    cases d4 : dig (h 4)
    · go_enter Try.func23, Try.ntmps23
      go_wp2_with (first | (go_at_call 18; refine (zzDigit _ _).mono ?_; rintro e w' ⟨rfl, rfl⟩))
      go_ret
      exact ⟨rfl, rfl⟩
    go_enter Try.func23, Try.ntmps23
    go_wp2_with (first | (go_at_call 18; refine (zzDigit _ _).mono ?_; rintro e w' ⟨rfl, rfl⟩))
    go_ret
    exact ⟨rfl, rfl⟩
  have e : offB h m = false := by unfold offB; rw [if_neg h1, if_neg h6]
  rw [e]; clear e
  have e1 : ((m : Int) == 1) = false := by simp; omega
  have e6 : ((m : Int) != 6) = true := by simp; omega
  go_enter Try.func23, Try.ntmps23
  go_wp2
  go_ret
  exact ⟨rfl, rfl⟩
end Go.Proofs.Qxb6604205a.matchT
