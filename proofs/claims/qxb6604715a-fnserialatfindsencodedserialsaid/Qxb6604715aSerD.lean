import Derived.Test.Qxb6604715aSerC
namespace Go.Proofs.Qxb6604715a.ser
open Go.ChangeShapes Go.WideShapes Go.ChangeAt Go.RowKit
set_option linter.unusedVariables false
set_option maxRecDepth 20000

/-- Of what was there only the blocks of the list may have turned. -/
structure Turns (bs : List Nat) (w w' : World) : Prop where
  os : w'.os = w.os
  tape : w'.tape = w.tape
  output : w'.output = w.output
  size : w.heap.size ≤ w'.heap.size
  block : ∀ k, k < w.heap.size → k ∉ bs → w'.heap[k]? = w.heap[k]?

theorem Turns.refl (bs : List Nat) (w : World) : Turns bs w w := ⟨rfl, rfl, rfl, Nat.le_refl _, fun _ _ _ => rfl⟩
theorem Turns.trans {bs bs' : List Nat} {a b c : World} (h : Turns bs a b) (k : Turns bs' b c) (hb : ∀ x ∈ bs', x ∈ bs ∨ a.heap.size ≤ x) : Turns bs a c :=
  ⟨k.os.trans h.os, k.tape.trans h.tape, k.output.trans h.output, Nat.le_trans h.size k.size, fun i hi hn => (k.block i (Nat.lt_of_lt_of_le hi h.size) (fun hm => by rcases hb i hm with h' | h'; exact hn h'; omega)).trans (h.block i hi hn)⟩
theorem Turns.drew {bs : List Nat} {a w : World} (h : Turns bs a w) : Turns bs a w.drew := ⟨h.os, h.tape, h.output, h.size, h.block⟩
theorem Turns.alloc {bs : List Nat} {a w : World} (h : Turns bs a w) (o : Obj) : Turns bs a (w.alloc o) :=
  h.trans (bs' := []) ⟨rfl, rfl, rfl, by simp, fun k hk _ => Below.heap_alloc _ _ _ hk⟩ (by simp)
theorem Turns.setCell {bs : List Nat} {a w : World} (h : Turns bs a w) {B : Nat} (hB : B ∈ bs ∨ a.heap.size ≤ B) (v : Value) : Turns bs a (w.setCell ⟨B, 0, none⟩ v) :=
  h.trans (bs' := [B]) ⟨rfl, rfl, rfl, by simp [World.setCell], fun k hk hn => Below.heap_setCell _ _ _ _ (by simpa using hn)⟩ (by simpa using hB)
theorem boxOther {w : World} {B B' : Nat} {t : TypeId} {v : Value} (h : Boxed w B t v) (hne : B ≠ B') (u : Value) : Boxed (w.setCell ⟨B', 0, none⟩ u) B t v := h.kept (grownBy_setCell' w B' u) (by simpa using hne)
theorem boxDrew {w : World} {B : Nat} {t : TypeId} {v : Value} (h : Boxed w B t v) : Boxed w.drew B t v := h

theorem readBytes' (S O E o n c k : Nat) (K : Int) (t : TypeId) (u : Value) (w : World) (hK : K = (k : Int)) (hS : Boxed w S 107 (.slice (some ⟨E, o, none⟩) n c)) (hO : Boxed w O t u) (hSO : O ≠ S) (hk : k ≤ n) (hn : n ≤ c) :
    Calls Try.prog 44 #[.pointer (some ⟨S, 0, none⟩), .pointer (some ⟨O, 0, none⟩), .int .i64 K] w fun e w' => e = .returned (.bool true) ∧ w' = (w.setCell ⟨S, 0, none⟩ (.slice (some (adv E o k c)) (n - k) (c - k))).setCell ⟨O, 0, none⟩ (.slice (some ⟨E, o, none⟩) k c) := by
  subst hK
  exact readBytes S O E o n c k t u w hS hO hSO hk hn
theorem skip' (S E o n c k : Nat) (K : Int) (w : World) (hK : K = (k : Int)) (hS : Boxed w S 107 (.slice (some ⟨E, o, none⟩) n c)) (hk : k ≤ n) (hn : n ≤ c) :
    Calls Try.prog 45 #[.pointer (some ⟨S, 0, none⟩), .int .i64 K] w fun e w' => e = .returned (.bool true) ∧ w' = w.setCell ⟨S, 0, none⟩ (.slice (some (adv E o k c)) (n - k) (c - k)) := by
  subst hK
  exact skip S E o n c k w hS hk hn

theorem boxDrewN {w : World} {B : Nat} {t : TypeId} {v : Value} (h : Boxed w B t v) (m : Nat) : Boxed (w.drewN m) B t v := h
theorem Turns.drewN {bs : List Nat} {a w : World} (h : Turns bs a w) (m : Nat) : Turns bs a (w.drewN m) := ⟨h.os, h.tape, h.output, h.size, h.block⟩

/-- What reading one element leaves. -/
def Took (S O T E o h L c : Nat) (tag : Int) (w : World) (e : Ending) (w' : World) : Prop :=
  e = .returned (.bool true) ∧ Boxed w' O 107 (.slice (some (adv E o h c)) L (c - h)) ∧ Boxed w' T 110 (.int .u8 tag) ∧ Turns [S, O, T] w w'

theorem and128 (c : Int) (c0 : 0 ≤ c) (c1 : c < 128) : bits .and .u8 c 128 = 0 := by
  obtain ⟨n, rfl⟩ := Int.eq_ofNat_of_zero_le c0
  have h : ∀ f : Fin 128, f.val &&& 128 = 0 := by decide +kernel
  have := h ⟨n, by omega⟩
  rw [show (128 : Int) = ((128 : Nat) : Int) from rfl, u8_and_nat n 128 (by omega) (by omega)]
  simp only at this
  omega

set_option maxHeartbeats 1600000 in
theorem short48 (S O T E o n c L : Nat) (u v : Value) (w : World) (hS : Boxed w S 107 (.slice (some ⟨E, o, none⟩) n c)) (hO : Boxed w O 107 u) (hT : Boxed w T 110 v) (hSO : O ≠ S) (hTS : T ≠ S) (hTO : T ≠ O) (hES : E ≠ S) (hEO : E ≠ O) (hET : E ≠ T)
    (hL : L < 128) (hk : 2 + L ≤ n) (hn : n ≤ c) (h0 : w.cell? ⟨E, o, none⟩ = some (.int .u8 48)) (h1 : w.cell? ⟨E, o + 1, none⟩ = some (.int .u8 L)) :
    Calls Try.prog 38 #[.pointer (some ⟨S, 0, none⟩), .pointer (some ⟨O, 0, none⟩), .pointer (some ⟨T, 0, none⟩), .bool true] w (Took S O T E o 2 L c 48 w) := by
  have c0 := hS.cell
  have t0 : decide ((n : Int) < 2) = false := by simp; omega
  have a1 : bits .and .u8 48 31 = 16 := by decide
  have a2 : bits .and .u8 (L : Int) 128 = 0 := and128 L (by omega) (by omega)
  go_enter Try.func38, Try.ntmps38
  go_wp2_with fail
  go_quiet (fail)
  obtain ⟨W, hW⟩ : ∃ W, (w.drewN nq).setCell ⟨T, 0, none⟩ (.int .u8 48) = W := ⟨_, rfl⟩
  have hT' : Boxed (w.drewN nq) T 110 v := boxDrewN hT nq
  have ct := hT'.cell
  have ft := hT'.frozen
  have bS : Boxed W S 107 (.slice (some ⟨E, o, none⟩) n c) := hW ▸ boxOther (boxDrewN hS nq) hTS.symm _
  have bO : Boxed W O 107 u := hW ▸ boxOther (boxDrewN hO nq) hTO.symm _
  have bT : Boxed W T 110 (.int .u8 48) := hW ▸ hT'.set _
  have tu : Turns [S, O, T] w W := hW ▸ ((Turns.refl _ w).drewN nq).setCell (.inl (by simp)) _
  go_wp2_with fail
  refine (readBytes' S O E o n c (2 + L) _ 107 u W ?hK bS bO hSO hk hn).mono ?_
  case hK => omega
  rintro e w' ⟨rfl, hw'⟩
  have dO : Boxed w' O 107 (.slice (some ⟨E, o, none⟩) (2 + L) c) := hw' ▸ (boxOther bO hSO _).set _
  have dT : Boxed w' T 110 (.int .u8 48) := hw' ▸ boxOther (boxOther bT hTS _) hTO _
  have du : Turns [S, O, T] w w' := hw' ▸ (tu.setCell (.inl (by simp)) _).setCell (.inl (by simp)) _
  clear hw'
  go_wp2_with fail
  refine (skip' O E o (2 + L) c 2 _ w' ?hK dO (by omega) (by omega)).mono ?_
  case hK => omega
  rintro e w2 ⟨rfl, hw2⟩
  have fO : Boxed w2 O 107 (.slice (some (adv E o 2 c)) (2 + L - 2) (c - 2)) := hw2 ▸ dO.set _
  have fT : Boxed w2 T 110 (.int .u8 48) := hw2 ▸ boxOther dT hTO _
  have fu : Turns [S, O, T] w w2 := hw2 ▸ du.setCell (.inl (by simp)) _
  clear hw2
  go_wp2_with fail
  go_ret
  exact ⟨rfl, by simpa using fO, fT, fu⟩
set_option maxHeartbeats 1600000 in
theorem short2 (S O T E o n c L : Nat) (u v : Value) (w : World) (hS : Boxed w S 107 (.slice (some ⟨E, o, none⟩) n c)) (hO : Boxed w O 107 u) (hT : Boxed w T 110 v) (hSO : O ≠ S) (hTS : T ≠ S) (hTO : T ≠ O) (hES : E ≠ S) (hEO : E ≠ O) (hET : E ≠ T)
    (hL : L < 128) (hk : 2 + L ≤ n) (hn : n ≤ c) (h0 : w.cell? ⟨E, o, none⟩ = some (.int .u8 2)) (h1 : w.cell? ⟨E, o + 1, none⟩ = some (.int .u8 L)) :
    Calls Try.prog 38 #[.pointer (some ⟨S, 0, none⟩), .pointer (some ⟨O, 0, none⟩), .pointer (some ⟨T, 0, none⟩), .bool true] w (Took S O T E o 2 L c 2 w) := by
  have c0 := hS.cell
  have t0 : decide ((n : Int) < 2) = false := by simp; omega
  have a1 : bits .and .u8 2 31 = 2 := by decide
  have a2 : bits .and .u8 (L : Int) 128 = 0 := and128 L (by omega) (by omega)
  go_enter Try.func38, Try.ntmps38
  go_wp2_with fail
  go_quiet (fail)
  obtain ⟨W, hW⟩ : ∃ W, (w.drewN nq).setCell ⟨T, 0, none⟩ (.int .u8 2) = W := ⟨_, rfl⟩
  have hT' : Boxed (w.drewN nq) T 110 v := boxDrewN hT nq
  have ct := hT'.cell
  have ft := hT'.frozen
  have bS : Boxed W S 107 (.slice (some ⟨E, o, none⟩) n c) := hW ▸ boxOther (boxDrewN hS nq) hTS.symm _
  have bO : Boxed W O 107 u := hW ▸ boxOther (boxDrewN hO nq) hTO.symm _
  have bT : Boxed W T 110 (.int .u8 2) := hW ▸ hT'.set _
  have tu : Turns [S, O, T] w W := hW ▸ ((Turns.refl _ w).drewN nq).setCell (.inl (by simp)) _
  go_wp2_with fail
  refine (readBytes' S O E o n c (2 + L) _ 107 u W ?hK bS bO hSO hk hn).mono ?_
  case hK => omega
  rintro e w' ⟨rfl, hw'⟩
  have dO : Boxed w' O 107 (.slice (some ⟨E, o, none⟩) (2 + L) c) := hw' ▸ (boxOther bO hSO _).set _
  have dT : Boxed w' T 110 (.int .u8 2) := hw' ▸ boxOther (boxOther bT hTS _) hTO _
  have du : Turns [S, O, T] w w' := hw' ▸ (tu.setCell (.inl (by simp)) _).setCell (.inl (by simp)) _
  clear hw'
  go_wp2_with fail
  refine (skip' O E o (2 + L) c 2 _ w' ?hK dO (by omega) (by omega)).mono ?_
  case hK => omega
  rintro e w2 ⟨rfl, hw2⟩
  have fO : Boxed w2 O 107 (.slice (some (adv E o 2 c)) (2 + L - 2) (c - 2)) := hw2 ▸ dO.set _
  have fT : Boxed w2 T 110 (.int .u8 2) := hw2 ▸ boxOther dT hTO _
  have fu : Turns [S, O, T] w w2 := hw2 ▸ du.setCell (.inl (by simp)) _
  clear hw2
  go_wp2_with fail
  go_ret
  exact ⟨rfl, by simpa using fO, fT, fu⟩
end Go.Proofs.Qxb6604715a.ser
