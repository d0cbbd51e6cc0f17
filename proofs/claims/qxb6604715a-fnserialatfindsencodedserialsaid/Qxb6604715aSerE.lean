import Derived.Test.Qxb6604715aSerD
namespace Go.Proofs.Qxb6604715a.ser
open Go.ChangeShapes Go.WideShapes Go.ChangeAt Go.RowKit
set_option linter.unusedVariables false
set_option maxRecDepth 20000

set_option maxHeartbeats 3200000 in
theorem long48_1 (S O T E o n c L : Nat) (u v : Value) (w : World) (hS : Boxed w S 107 (.slice (some ⟨E, o, none⟩) n c)) (hO : Boxed w O 107 u) (hT : Boxed w T 110 v) (hSO : O ≠ S) (hTS : T ≠ S) (hTO : T ≠ O) (hES : E ≠ S) (hEO : E ≠ O) (hET : E ≠ T) (hE : E < w.heap.size)
    (hL1 : 128 ≤ L) (hL2 : L < 256) (hk : 3 + L ≤ n) (hn : n ≤ c) (h0 : w.cell? ⟨E, o, none⟩ = some (.int .u8 48)) (h1 : w.cell? ⟨E, o + 1, none⟩ = some (.int .u8 129)) (h2 : w.cell? ⟨E, o + 2, none⟩ = some (.int .u8 (L : Int))) :
    Calls Try.prog 38 #[.pointer (some ⟨S, 0, none⟩), .pointer (some ⟨O, 0, none⟩), .pointer (some ⟨T, 0, none⟩), .bool true] w (Took S O T E o 3 L c 48 w) := by
  have c0 := hS.cell
  have t0 : decide ((n : Int) < 2) = false := by simp; omega
  have t1 : decide ((n : Int) < 3) = false := by simp; omega
  have t2 : decide ((L : Int) < 128) = false := by simp; omega
  have t3 : decide (3 + (L : Int) < (L : Int)) = false := by simp; omega
  have a1 : bits .and .u8 48 31 = 16 := by decide
  have a2 : bits .and .u8 129 128 = 128 := by decide
  have a3 : bits .and .u8 129 127 = 1 := by decide
  have ls := hS.lt
  have lo := hO.lt
  have lt := hT.lt
  go_enter Try.func38, Try.ntmps38
  go_wp2_with fail
  go_quiet (fail)
  obtain ⟨W, hW⟩ : ∃ W, (w.drewN nq).setCell ⟨T, 0, none⟩ (.int .u8 48) = W := ⟨_, rfl⟩
  have hT' : Boxed (w.drewN nq) T 110 v := boxDrewN hT nq
  have ct := hT'.cell
  have ft := hT'.frozen
  have bS : Boxed W S 107 (.slice (some ⟨E, o, none⟩) n c) := hW ▸ boxOther (boxDrewN hS nq) hTS.symm _
  have bO : Boxed W O 107 u := hW ▸ boxOther (boxDrewN hO nq) hTO.symm _
  have bT : Boxed W T 110 (.int .u8 48) := hW ▸ hT'.set _
  have tu : Turns [S, O, T] w W := hW ▸ ((Turns.refl _ w).drewN nq).setCell (.inl (by simp)) _
  have hA := tu.size
  obtain ⟨W2, hW2⟩ : ∃ W2, W.alloc (.cells #[.int .u32 0] 70) = W2 := ⟨_, rfl⟩
  have eA : W2.heap.size = W.heap.size + 1 := by rw [← hW2]; simp
  have dS : Boxed W2 S 107 (.slice (some ⟨E, o, none⟩) n c) := hW2 ▸ bS.alloc _
  have dO : Boxed W2 O 107 u := hW2 ▸ bO.alloc _
  have dT : Boxed W2 T 110 (.int .u8 48) := hW2 ▸ bT.alloc _
  have dA : Boxed W2 W.heap.size 70 (.int .u32 0) := hW2 ▸ Boxed.new W 70 _
  have tu2 : Turns [S, O, T] w W2 := hW2 ▸ tu.alloc _
  have dSc := dS.cell
  obtain ⟨B, hB⟩ : ∃ B, W.heap.size + 1 = B := ⟨_, rfl⟩
  have hB2 : W2.heap.size = B := eA.trans hB
  clear eA
  obtain ⟨W2', hW2'⟩ : ∃ W2', W2.alloc (.cells #[.slice none 0 0] 107) = W2' := ⟨_, rfl⟩
  have qB : Boxed W2' B 107 (.slice none 0 0) := hB2 ▸ hW2' ▸ Boxed.new W2 107 _
  have qBc := qB.cell
  have qBf := qB.frozen
  obtain ⟨W3, hW3⟩ : ∃ W3, W2'.setCell ⟨B, 0, none⟩ (.slice (some ⟨E, o + 2, none⟩) 1 (c - 2)) = W3 := ⟨_, rfl⟩
  have eS : Boxed W3 S 107 (.slice (some ⟨E, o, none⟩) n c) := hW3 ▸ boxOther (hW2' ▸ dS.alloc _) (by omega) _
  have eO : Boxed W3 O 107 u := hW3 ▸ boxOther (hW2' ▸ dO.alloc _) (by omega) _
  have eT : Boxed W3 T 110 (.int .u8 48) := hW3 ▸ boxOther (hW2' ▸ dT.alloc _) (by omega) _
  have eA3 : Boxed W3 W.heap.size 70 (.int .u32 0) := hW3 ▸ boxOther (hW2' ▸ dA.alloc _) (by omega) _
  have eB : Boxed W3 B 107 (.slice (some ⟨E, o + 2, none⟩) 1 (c - 2)) := hW3 ▸ qB.set _
  have tu3 : Turns [S, O, T] w W3 := hW3 ▸ Turns.setCell (hW2' ▸ tu2.alloc _) (.inr (by omega)) _
  have hb : W3.heap[E]? = w.heap[E]? := tu3.block E hE (by simp; omega)
  have g0 : W3.cell? ⟨E, o + 2, none⟩ = some (.int .u8 (L : Int)) := (World.cell?_of_block (w := w) hb).trans h2
  go_wp2_with fail
  refine (readU1 B W.heap.size E (o + 2) 1 (c - 2) 70 _ (L : Int) W3 eB eA3 (by omega) (by omega) (by omega) (by omega) g0 (by omega) (by omega)).mono ?_
  rintro e w4 ⟨rfl, hw4⟩
  rw [show (L : Int) = (L : Int) by omega] at hw4
  have f4A : Boxed w4 W.heap.size 70 (.int .u32 (L : Int)) := hw4 ▸ (boxOther eA3 (by omega) _).set _
  have f4S : Boxed w4 S 107 (.slice (some ⟨E, o, none⟩) n c) := hw4 ▸ boxOther (boxOther eS (by omega) _) (by omega) _
  have f4O : Boxed w4 O 107 u := hw4 ▸ boxOther (boxOther eO (by omega) _) (by omega) _
  have f4T : Boxed w4 T 110 (.int .u8 48) := hw4 ▸ boxOther (boxOther eT (by omega) _) (by omega) _
  have tu4 : Turns [S, O, T] w w4 := hw4 ▸ (tu3.setCell (.inr (by omega)) _).setCell (.inr (by omega)) _
  clear hw4
  have f4Ac := f4A.cell
  have t5 : ((L : Int) / 1 == 0) = false := by simp; omega
  go_wp2_with fail
  refine (readBytes' S O E o n c (3 + L) _ 107 u w4 ?hK f4S f4O hSO hk hn).mono ?_
  case hK => omega
  rintro e w' ⟨rfl, hw'⟩
  have dO : Boxed w' O 107 (.slice (some ⟨E, o, none⟩) (3 + L) c) := hw' ▸ (boxOther f4O hSO _).set _
  have dT : Boxed w' T 110 (.int .u8 48) := hw' ▸ boxOther (boxOther f4T hTS _) hTO _
  have du : Turns [S, O, T] w w' := hw' ▸ (tu4.setCell (.inl (by simp)) _).setCell (.inl (by simp)) _
  clear hw'
  go_wp2_with fail
  refine (skip' O E o (3 + L) c 3 _ w' ?hK dO (by omega) (by omega)).mono ?_
  case hK => omega
  rintro e w2 ⟨rfl, hw2⟩
  have fO : Boxed w2 O 107 (.slice (some (adv E o 3 c)) (3 + L - 3) (c - 3)) := hw2 ▸ dO.set _
  have fT : Boxed w2 T 110 (.int .u8 48) := hw2 ▸ boxOther dT hTO _
  have fu : Turns [S, O, T] w w2 := hw2 ▸ du.setCell (.inl (by simp)) _
  clear hw2
  go_wp2_with fail
  go_ret
  exact ⟨rfl, by simpa using fO, fT, fu⟩

set_option maxHeartbeats 3200000 in
theorem long48_2 (S O T E o n c L : Nat) (u v : Value) (w : World) (hS : Boxed w S 107 (.slice (some ⟨E, o, none⟩) n c)) (hO : Boxed w O 107 u) (hT : Boxed w T 110 v) (hSO : O ≠ S) (hTS : T ≠ S) (hTO : T ≠ O) (hES : E ≠ S) (hEO : E ≠ O) (hET : E ≠ T) (hE : E < w.heap.size)
    (hL1 : 256 ≤ L) (hL2 : L < 65536) (hk : 4 + L ≤ n) (hn : n ≤ c) (h0 : w.cell? ⟨E, o, none⟩ = some (.int .u8 48)) (h1 : w.cell? ⟨E, o + 1, none⟩ = some (.int .u8 130)) (h2 : w.cell? ⟨E, o + 2, none⟩ = some (.int .u8 ((L : Int) / 256))) (h3 : w.cell? ⟨E, o + 2 + 1, none⟩ = some (.int .u8 ((L : Int) % 256))) :
    Calls Try.prog 38 #[.pointer (some ⟨S, 0, none⟩), .pointer (some ⟨O, 0, none⟩), .pointer (some ⟨T, 0, none⟩), .bool true] w (Took S O T E o 4 L c 48 w) := by
  have c0 := hS.cell
  have t0 : decide ((n : Int) < 2) = false := by simp; omega
  have t1 : decide ((n : Int) < 4) = false := by simp; omega
  have t2 : decide ((L : Int) < 128) = false := by simp; omega
  have t3 : decide (4 + (L : Int) < (L : Int)) = false := by simp; omega
  have a1 : bits .and .u8 48 31 = 16 := by decide
  have a2 : bits .and .u8 130 128 = 128 := by decide
  have a3 : bits .and .u8 130 127 = 2 := by decide
  have ls := hS.lt
  have lo := hO.lt
  have lt := hT.lt
  go_enter Try.func38, Try.ntmps38
  go_wp2_with fail
  go_quiet (fail)
  obtain ⟨W, hW⟩ : ∃ W, (w.drewN nq).setCell ⟨T, 0, none⟩ (.int .u8 48) = W := ⟨_, rfl⟩
  have hT' : Boxed (w.drewN nq) T 110 v := boxDrewN hT nq
  have ct := hT'.cell
  have ft := hT'.frozen
  have bS : Boxed W S 107 (.slice (some ⟨E, o, none⟩) n c) := hW ▸ boxOther (boxDrewN hS nq) hTS.symm _
  have bO : Boxed W O 107 u := hW ▸ boxOther (boxDrewN hO nq) hTO.symm _
  have bT : Boxed W T 110 (.int .u8 48) := hW ▸ hT'.set _
  have tu : Turns [S, O, T] w W := hW ▸ ((Turns.refl _ w).drewN nq).setCell (.inl (by simp)) _
  have hA := tu.size
  obtain ⟨W2, hW2⟩ : ∃ W2, W.alloc (.cells #[.int .u32 0] 70) = W2 := ⟨_, rfl⟩
  have eA : W2.heap.size = W.heap.size + 1 := by rw [← hW2]; simp
  have dS : Boxed W2 S 107 (.slice (some ⟨E, o, none⟩) n c) := hW2 ▸ bS.alloc _
  have dO : Boxed W2 O 107 u := hW2 ▸ bO.alloc _
  have dT : Boxed W2 T 110 (.int .u8 48) := hW2 ▸ bT.alloc _
  have dA : Boxed W2 W.heap.size 70 (.int .u32 0) := hW2 ▸ Boxed.new W 70 _
  have tu2 : Turns [S, O, T] w W2 := hW2 ▸ tu.alloc _
  have dSc := dS.cell
  obtain ⟨B, hB⟩ : ∃ B, W.heap.size + 1 = B := ⟨_, rfl⟩
  have hB2 : W2.heap.size = B := eA.trans hB
  clear eA
  obtain ⟨W2', hW2'⟩ : ∃ W2', W2.alloc (.cells #[.slice none 0 0] 107) = W2' := ⟨_, rfl⟩
  have qB : Boxed W2' B 107 (.slice none 0 0) := hB2 ▸ hW2' ▸ Boxed.new W2 107 _
  have qBc := qB.cell
  have qBf := qB.frozen
  obtain ⟨W3, hW3⟩ : ∃ W3, W2'.setCell ⟨B, 0, none⟩ (.slice (some ⟨E, o + 2, none⟩) 2 (c - 2)) = W3 := ⟨_, rfl⟩
  have eS : Boxed W3 S 107 (.slice (some ⟨E, o, none⟩) n c) := hW3 ▸ boxOther (hW2' ▸ dS.alloc _) (by omega) _
  have eO : Boxed W3 O 107 u := hW3 ▸ boxOther (hW2' ▸ dO.alloc _) (by omega) _
  have eT : Boxed W3 T 110 (.int .u8 48) := hW3 ▸ boxOther (hW2' ▸ dT.alloc _) (by omega) _
  have eA3 : Boxed W3 W.heap.size 70 (.int .u32 0) := hW3 ▸ boxOther (hW2' ▸ dA.alloc _) (by omega) _
  have eB : Boxed W3 B 107 (.slice (some ⟨E, o + 2, none⟩) 2 (c - 2)) := hW3 ▸ qB.set _
  have tu3 : Turns [S, O, T] w W3 := hW3 ▸ Turns.setCell (hW2' ▸ tu2.alloc _) (.inr (by omega)) _
  have hb : W3.heap[E]? = w.heap[E]? := tu3.block E hE (by simp; omega)
  have g0 : W3.cell? ⟨E, o + 2, none⟩ = some (.int .u8 ((L : Int) / 256)) := (World.cell?_of_block (w := w) hb).trans h2
  have g1 : W3.cell? ⟨E, o + 2 + 1, none⟩ = some (.int .u8 ((L : Int) % 256)) := (World.cell?_of_block (w := w) hb).trans h3
  go_wp2_with fail
  refine (readU2 B W.heap.size E (o + 2) 2 (c - 2) 70 _ ((L : Int) / 256) ((L : Int) % 256) W3 eB eA3 (by omega) (by omega) (by omega) (by omega) g0 g1 (by omega) (by omega) (by omega) (by omega)).mono ?_
  rintro e w4 ⟨rfl, hw4⟩
  rw [show (L : Int) / 256 * 256 + (L : Int) % 256 = (L : Int) by omega] at hw4
  have f4A : Boxed w4 W.heap.size 70 (.int .u32 (L : Int)) := hw4 ▸ (boxOther eA3 (by omega) _).set _
  have f4S : Boxed w4 S 107 (.slice (some ⟨E, o, none⟩) n c) := hw4 ▸ boxOther (boxOther eS (by omega) _) (by omega) _
  have f4O : Boxed w4 O 107 u := hw4 ▸ boxOther (boxOther eO (by omega) _) (by omega) _
  have f4T : Boxed w4 T 110 (.int .u8 48) := hw4 ▸ boxOther (boxOther eT (by omega) _) (by omega) _
  have tu4 : Turns [S, O, T] w w4 := hw4 ▸ (tu3.setCell (.inr (by omega)) _).setCell (.inr (by omega)) _
  clear hw4
  have f4Ac := f4A.cell
  have t5 : ((L : Int) / 256 == 0) = false := by simp; omega
  go_wp2_with fail
  refine (readBytes' S O E o n c (4 + L) _ 107 u w4 ?hK f4S f4O hSO hk hn).mono ?_
  case hK => omega
  rintro e w' ⟨rfl, hw'⟩
  have dO : Boxed w' O 107 (.slice (some ⟨E, o, none⟩) (4 + L) c) := hw' ▸ (boxOther f4O hSO _).set _
  have dT : Boxed w' T 110 (.int .u8 48) := hw' ▸ boxOther (boxOther f4T hTS _) hTO _
  have du : Turns [S, O, T] w w' := hw' ▸ (tu4.setCell (.inl (by simp)) _).setCell (.inl (by simp)) _
  clear hw'
  go_wp2_with fail
  refine (skip' O E o (4 + L) c 4 _ w' ?hK dO (by omega) (by omega)).mono ?_
  case hK => omega
  rintro e w2 ⟨rfl, hw2⟩
  have fO : Boxed w2 O 107 (.slice (some (adv E o 4 c)) (4 + L - 4) (c - 4)) := hw2 ▸ dO.set _
  have fT : Boxed w2 T 110 (.int .u8 48) := hw2 ▸ boxOther dT hTO _
  have fu : Turns [S, O, T] w w2 := hw2 ▸ du.setCell (.inl (by simp)) _
  clear hw2
  go_wp2_with fail
  go_ret
  exact ⟨rfl, by simpa using fO, fT, fu⟩

set_option maxHeartbeats 3200000 in
theorem long48_3 (S O T E o n c L : Nat) (u v : Value) (w : World) (hS : Boxed w S 107 (.slice (some ⟨E, o, none⟩) n c)) (hO : Boxed w O 107 u) (hT : Boxed w T 110 v) (hSO : O ≠ S) (hTS : T ≠ S) (hTO : T ≠ O) (hES : E ≠ S) (hEO : E ≠ O) (hET : E ≠ T) (hE : E < w.heap.size)
    (hL1 : 65536 ≤ L) (hL2 : L < 16777216) (hk : 5 + L ≤ n) (hn : n ≤ c) (h0 : w.cell? ⟨E, o, none⟩ = some (.int .u8 48)) (h1 : w.cell? ⟨E, o + 1, none⟩ = some (.int .u8 131)) (h2 : w.cell? ⟨E, o + 2, none⟩ = some (.int .u8 ((L : Int) / 65536))) (h3 : w.cell? ⟨E, o + 2 + 1, none⟩ = some (.int .u8 ((L : Int) / 256 % 256))) (h4 : w.cell? ⟨E, o + 2 + 2, none⟩ = some (.int .u8 ((L : Int) % 256))) :
    Calls Try.prog 38 #[.pointer (some ⟨S, 0, none⟩), .pointer (some ⟨O, 0, none⟩), .pointer (some ⟨T, 0, none⟩), .bool true] w (Took S O T E o 5 L c 48 w) := by
  have c0 := hS.cell
  have t0 : decide ((n : Int) < 2) = false := by simp; omega
  have t1 : decide ((n : Int) < 5) = false := by simp; omega
  have t2 : decide ((L : Int) < 128) = false := by simp; omega
  have t3 : decide (5 + (L : Int) < (L : Int)) = false := by simp; omega
  have a1 : bits .and .u8 48 31 = 16 := by decide
  have a2 : bits .and .u8 131 128 = 128 := by decide
  have a3 : bits .and .u8 131 127 = 3 := by decide
  have ls := hS.lt
  have lo := hO.lt
  have lt := hT.lt
  go_enter Try.func38, Try.ntmps38
  go_wp2_with fail
  go_quiet (fail)
  obtain ⟨W, hW⟩ : ∃ W, (w.drewN nq).setCell ⟨T, 0, none⟩ (.int .u8 48) = W := ⟨_, rfl⟩
  have hT' : Boxed (w.drewN nq) T 110 v := boxDrewN hT nq
  have ct := hT'.cell
  have ft := hT'.frozen
  have bS : Boxed W S 107 (.slice (some ⟨E, o, none⟩) n c) := hW ▸ boxOther (boxDrewN hS nq) hTS.symm _
  have bO : Boxed W O 107 u := hW ▸ boxOther (boxDrewN hO nq) hTO.symm _
  have bT : Boxed W T 110 (.int .u8 48) := hW ▸ hT'.set _
  have tu : Turns [S, O, T] w W := hW ▸ ((Turns.refl _ w).drewN nq).setCell (.inl (by simp)) _
  have hA := tu.size
  obtain ⟨W2, hW2⟩ : ∃ W2, W.alloc (.cells #[.int .u32 0] 70) = W2 := ⟨_, rfl⟩
  have eA : W2.heap.size = W.heap.size + 1 := by rw [← hW2]; simp
  have dS : Boxed W2 S 107 (.slice (some ⟨E, o, none⟩) n c) := hW2 ▸ bS.alloc _
  have dO : Boxed W2 O 107 u := hW2 ▸ bO.alloc _
  have dT : Boxed W2 T 110 (.int .u8 48) := hW2 ▸ bT.alloc _
  have dA : Boxed W2 W.heap.size 70 (.int .u32 0) := hW2 ▸ Boxed.new W 70 _
  have tu2 : Turns [S, O, T] w W2 := hW2 ▸ tu.alloc _
  have dSc := dS.cell
  obtain ⟨B, hB⟩ : ∃ B, W.heap.size + 1 = B := ⟨_, rfl⟩
  have hB2 : W2.heap.size = B := eA.trans hB
  clear eA
  obtain ⟨W2', hW2'⟩ : ∃ W2', W2.alloc (.cells #[.slice none 0 0] 107) = W2' := ⟨_, rfl⟩
  have qB : Boxed W2' B 107 (.slice none 0 0) := hB2 ▸ hW2' ▸ Boxed.new W2 107 _
  have qBc := qB.cell
  have qBf := qB.frozen
  obtain ⟨W3, hW3⟩ : ∃ W3, W2'.setCell ⟨B, 0, none⟩ (.slice (some ⟨E, o + 2, none⟩) 3 (c - 2)) = W3 := ⟨_, rfl⟩
  have eS : Boxed W3 S 107 (.slice (some ⟨E, o, none⟩) n c) := hW3 ▸ boxOther (hW2' ▸ dS.alloc _) (by omega) _
  have eO : Boxed W3 O 107 u := hW3 ▸ boxOther (hW2' ▸ dO.alloc _) (by omega) _
  have eT : Boxed W3 T 110 (.int .u8 48) := hW3 ▸ boxOther (hW2' ▸ dT.alloc _) (by omega) _
  have eA3 : Boxed W3 W.heap.size 70 (.int .u32 0) := hW3 ▸ boxOther (hW2' ▸ dA.alloc _) (by omega) _
  have eB : Boxed W3 B 107 (.slice (some ⟨E, o + 2, none⟩) 3 (c - 2)) := hW3 ▸ qB.set _
  have tu3 : Turns [S, O, T] w W3 := hW3 ▸ Turns.setCell (hW2' ▸ tu2.alloc _) (.inr (by omega)) _
  have hb : W3.heap[E]? = w.heap[E]? := tu3.block E hE (by simp; omega)
  have g0 : W3.cell? ⟨E, o + 2, none⟩ = some (.int .u8 ((L : Int) / 65536)) := (World.cell?_of_block (w := w) hb).trans h2
  have g1 : W3.cell? ⟨E, o + 2 + 1, none⟩ = some (.int .u8 ((L : Int) / 256 % 256)) := (World.cell?_of_block (w := w) hb).trans h3
  have g2 : W3.cell? ⟨E, o + 2 + 2, none⟩ = some (.int .u8 ((L : Int) % 256)) := (World.cell?_of_block (w := w) hb).trans h4
  go_wp2_with fail
  refine (readU3 B W.heap.size E (o + 2) 3 (c - 2) 70 _ ((L : Int) / 65536) ((L : Int) / 256 % 256) ((L : Int) % 256) W3 eB eA3 (by omega) (by omega) (by omega) (by omega) g0 g1 g2 (by omega) (by omega) (by omega) (by omega) (by omega) (by omega)).mono ?_
  rintro e w4 ⟨rfl, hw4⟩
  rw [show ((L : Int) / 65536 * 256 + (L : Int) / 256 % 256) * 256 + (L : Int) % 256 = (L : Int) by omega] at hw4
  have f4A : Boxed w4 W.heap.size 70 (.int .u32 (L : Int)) := hw4 ▸ (boxOther eA3 (by omega) _).set _
  have f4S : Boxed w4 S 107 (.slice (some ⟨E, o, none⟩) n c) := hw4 ▸ boxOther (boxOther eS (by omega) _) (by omega) _
  have f4O : Boxed w4 O 107 u := hw4 ▸ boxOther (boxOther eO (by omega) _) (by omega) _
  have f4T : Boxed w4 T 110 (.int .u8 48) := hw4 ▸ boxOther (boxOther eT (by omega) _) (by omega) _
  have tu4 : Turns [S, O, T] w w4 := hw4 ▸ (tu3.setCell (.inr (by omega)) _).setCell (.inr (by omega)) _
  clear hw4
  have f4Ac := f4A.cell
  have t5 : ((L : Int) / 65536 == 0) = false := by simp; omega
  go_wp2_with fail
  refine (readBytes' S O E o n c (5 + L) _ 107 u w4 ?hK f4S f4O hSO hk hn).mono ?_
  case hK => omega
  rintro e w' ⟨rfl, hw'⟩
  have dO : Boxed w' O 107 (.slice (some ⟨E, o, none⟩) (5 + L) c) := hw' ▸ (boxOther f4O hSO _).set _
  have dT : Boxed w' T 110 (.int .u8 48) := hw' ▸ boxOther (boxOther f4T hTS _) hTO _
  have du : Turns [S, O, T] w w' := hw' ▸ (tu4.setCell (.inl (by simp)) _).setCell (.inl (by simp)) _
  clear hw'
  go_wp2_with fail
  refine (skip' O E o (5 + L) c 5 _ w' ?hK dO (by omega) (by omega)).mono ?_
  case hK => omega
  rintro e w2 ⟨rfl, hw2⟩
  have fO : Boxed w2 O 107 (.slice (some (adv E o 5 c)) (5 + L - 5) (c - 5)) := hw2 ▸ dO.set _
  have fT : Boxed w2 T 110 (.int .u8 48) := hw2 ▸ boxOther dT hTO _
  have fu : Turns [S, O, T] w w2 := hw2 ▸ du.setCell (.inl (by simp)) _
  clear hw2
  go_wp2_with fail
  go_ret
  exact ⟨rfl, by simpa using fO, fT, fu⟩

set_option maxHeartbeats 3200000 in
theorem long2_1 (S O T E o n c L : Nat) (u v : Value) (w : World) (hS : Boxed w S 107 (.slice (some ⟨E, o, none⟩) n c)) (hO : Boxed w O 107 u) (hT : Boxed w T 110 v) (hSO : O ≠ S) (hTS : T ≠ S) (hTO : T ≠ O) (hES : E ≠ S) (hEO : E ≠ O) (hET : E ≠ T) (hE : E < w.heap.size)
    (hL1 : 128 ≤ L) (hL2 : L < 256) (hk : 3 + L ≤ n) (hn : n ≤ c) (h0 : w.cell? ⟨E, o, none⟩ = some (.int .u8 2)) (h1 : w.cell? ⟨E, o + 1, none⟩ = some (.int .u8 129)) (h2 : w.cell? ⟨E, o + 2, none⟩ = some (.int .u8 (L : Int))) :
    Calls Try.prog 38 #[.pointer (some ⟨S, 0, none⟩), .pointer (some ⟨O, 0, none⟩), .pointer (some ⟨T, 0, none⟩), .bool true] w (Took S O T E o 3 L c 2 w) := by
  have c0 := hS.cell
  have t0 : decide ((n : Int) < 2) = false := by simp; omega
  have t1 : decide ((n : Int) < 3) = false := by simp; omega
  have t2 : decide ((L : Int) < 128) = false := by simp; omega
  have t3 : decide (3 + (L : Int) < (L : Int)) = false := by simp; omega
  have a1 : bits .and .u8 2 31 = 2 := by decide
  have a2 : bits .and .u8 129 128 = 128 := by decide
  have a3 : bits .and .u8 129 127 = 1 := by decide
  have ls := hS.lt
  have lo := hO.lt
  have lt := hT.lt
  go_enter Try.func38, Try.ntmps38
  go_wp2_with fail
  go_quiet (fail)
  obtain ⟨W, hW⟩ : ∃ W, (w.drewN nq).setCell ⟨T, 0, none⟩ (.int .u8 2) = W := ⟨_, rfl⟩
  have hT' : Boxed (w.drewN nq) T 110 v := boxDrewN hT nq
  have ct := hT'.cell
  have ft := hT'.frozen
  have bS : Boxed W S 107 (.slice (some ⟨E, o, none⟩) n c) := hW ▸ boxOther (boxDrewN hS nq) hTS.symm _
  have bO : Boxed W O 107 u := hW ▸ boxOther (boxDrewN hO nq) hTO.symm _
  have bT : Boxed W T 110 (.int .u8 2) := hW ▸ hT'.set _
  have tu : Turns [S, O, T] w W := hW ▸ ((Turns.refl _ w).drewN nq).setCell (.inl (by simp)) _
  have hA := tu.size
  obtain ⟨W2, hW2⟩ : ∃ W2, W.alloc (.cells #[.int .u32 0] 70) = W2 := ⟨_, rfl⟩
  have eA : W2.heap.size = W.heap.size + 1 := by rw [← hW2]; simp
  have dS : Boxed W2 S 107 (.slice (some ⟨E, o, none⟩) n c) := hW2 ▸ bS.alloc _
  have dO : Boxed W2 O 107 u := hW2 ▸ bO.alloc _
  have dT : Boxed W2 T 110 (.int .u8 2) := hW2 ▸ bT.alloc _
  have dA : Boxed W2 W.heap.size 70 (.int .u32 0) := hW2 ▸ Boxed.new W 70 _
  have tu2 : Turns [S, O, T] w W2 := hW2 ▸ tu.alloc _
  have dSc := dS.cell
  obtain ⟨B, hB⟩ : ∃ B, W.heap.size + 1 = B := ⟨_, rfl⟩
  have hB2 : W2.heap.size = B := eA.trans hB
  clear eA
  obtain ⟨W2', hW2'⟩ : ∃ W2', W2.alloc (.cells #[.slice none 0 0] 107) = W2' := ⟨_, rfl⟩
  have qB : Boxed W2' B 107 (.slice none 0 0) := hB2 ▸ hW2' ▸ Boxed.new W2 107 _
  have qBc := qB.cell
  have qBf := qB.frozen
  obtain ⟨W3, hW3⟩ : ∃ W3, W2'.setCell ⟨B, 0, none⟩ (.slice (some ⟨E, o + 2, none⟩) 1 (c - 2)) = W3 := ⟨_, rfl⟩
  have eS : Boxed W3 S 107 (.slice (some ⟨E, o, none⟩) n c) := hW3 ▸ boxOther (hW2' ▸ dS.alloc _) (by omega) _
  have eO : Boxed W3 O 107 u := hW3 ▸ boxOther (hW2' ▸ dO.alloc _) (by omega) _
  have eT : Boxed W3 T 110 (.int .u8 2) := hW3 ▸ boxOther (hW2' ▸ dT.alloc _) (by omega) _
  have eA3 : Boxed W3 W.heap.size 70 (.int .u32 0) := hW3 ▸ boxOther (hW2' ▸ dA.alloc _) (by omega) _
  have eB : Boxed W3 B 107 (.slice (some ⟨E, o + 2, none⟩) 1 (c - 2)) := hW3 ▸ qB.set _
  have tu3 : Turns [S, O, T] w W3 := hW3 ▸ Turns.setCell (hW2' ▸ tu2.alloc _) (.inr (by omega)) _
  have hb : W3.heap[E]? = w.heap[E]? := tu3.block E hE (by simp; omega)
  have g0 : W3.cell? ⟨E, o + 2, none⟩ = some (.int .u8 (L : Int)) := (World.cell?_of_block (w := w) hb).trans h2
  go_wp2_with fail
  refine (readU1 B W.heap.size E (o + 2) 1 (c - 2) 70 _ (L : Int) W3 eB eA3 (by omega) (by omega) (by omega) (by omega) g0 (by omega) (by omega)).mono ?_
  rintro e w4 ⟨rfl, hw4⟩
  rw [show (L : Int) = (L : Int) by omega] at hw4
  have f4A : Boxed w4 W.heap.size 70 (.int .u32 (L : Int)) := hw4 ▸ (boxOther eA3 (by omega) _).set _
  have f4S : Boxed w4 S 107 (.slice (some ⟨E, o, none⟩) n c) := hw4 ▸ boxOther (boxOther eS (by omega) _) (by omega) _
  have f4O : Boxed w4 O 107 u := hw4 ▸ boxOther (boxOther eO (by omega) _) (by omega) _
  have f4T : Boxed w4 T 110 (.int .u8 2) := hw4 ▸ boxOther (boxOther eT (by omega) _) (by omega) _
  have tu4 : Turns [S, O, T] w w4 := hw4 ▸ (tu3.setCell (.inr (by omega)) _).setCell (.inr (by omega)) _
  clear hw4
  have f4Ac := f4A.cell
  have t5 : ((L : Int) / 1 == 0) = false := by simp; omega
  go_wp2_with fail
  refine (readBytes' S O E o n c (3 + L) _ 107 u w4 ?hK f4S f4O hSO hk hn).mono ?_
  case hK => omega
  rintro e w' ⟨rfl, hw'⟩
  have dO : Boxed w' O 107 (.slice (some ⟨E, o, none⟩) (3 + L) c) := hw' ▸ (boxOther f4O hSO _).set _
  have dT : Boxed w' T 110 (.int .u8 2) := hw' ▸ boxOther (boxOther f4T hTS _) hTO _
  have du : Turns [S, O, T] w w' := hw' ▸ (tu4.setCell (.inl (by simp)) _).setCell (.inl (by simp)) _
  clear hw'
  go_wp2_with fail
  refine (skip' O E o (3 + L) c 3 _ w' ?hK dO (by omega) (by omega)).mono ?_
  case hK => omega
  rintro e w2 ⟨rfl, hw2⟩
  have fO : Boxed w2 O 107 (.slice (some (adv E o 3 c)) (3 + L - 3) (c - 3)) := hw2 ▸ dO.set _
  have fT : Boxed w2 T 110 (.int .u8 2) := hw2 ▸ boxOther dT hTO _
  have fu : Turns [S, O, T] w w2 := hw2 ▸ du.setCell (.inl (by simp)) _
  clear hw2
  go_wp2_with fail
  go_ret
  exact ⟨rfl, by simpa using fO, fT, fu⟩

set_option maxHeartbeats 3200000 in
theorem long2_2 (S O T E o n c L : Nat) (u v : Value) (w : World) (hS : Boxed w S 107 (.slice (some ⟨E, o, none⟩) n c)) (hO : Boxed w O 107 u) (hT : Boxed w T 110 v) (hSO : O ≠ S) (hTS : T ≠ S) (hTO : T ≠ O) (hES : E ≠ S) (hEO : E ≠ O) (hET : E ≠ T) (hE : E < w.heap.size)
    (hL1 : 256 ≤ L) (hL2 : L < 65536) (hk : 4 + L ≤ n) (hn : n ≤ c) (h0 : w.cell? ⟨E, o, none⟩ = some (.int .u8 2)) (h1 : w.cell? ⟨E, o + 1, none⟩ = some (.int .u8 130)) (h2 : w.cell? ⟨E, o + 2, none⟩ = some (.int .u8 ((L : Int) / 256))) (h3 : w.cell? ⟨E, o + 2 + 1, none⟩ = some (.int .u8 ((L : Int) % 256))) :
    Calls Try.prog 38 #[.pointer (some ⟨S, 0, none⟩), .pointer (some ⟨O, 0, none⟩), .pointer (some ⟨T, 0, none⟩), .bool true] w (Took S O T E o 4 L c 2 w) := by
  have c0 := hS.cell
  have t0 : decide ((n : Int) < 2) = false := by simp; omega
  have t1 : decide ((n : Int) < 4) = false := by simp; omega
  have t2 : decide ((L : Int) < 128) = false := by simp; omega
  have t3 : decide (4 + (L : Int) < (L : Int)) = false := by simp; omega
  have a1 : bits .and .u8 2 31 = 2 := by decide
  have a2 : bits .and .u8 130 128 = 128 := by decide
  have a3 : bits .and .u8 130 127 = 2 := by decide
  have ls := hS.lt
  have lo := hO.lt
  have lt := hT.lt
  go_enter Try.func38, Try.ntmps38
  go_wp2_with fail
  go_quiet (fail)
  obtain ⟨W, hW⟩ : ∃ W, (w.drewN nq).setCell ⟨T, 0, none⟩ (.int .u8 2) = W := ⟨_, rfl⟩
  have hT' : Boxed (w.drewN nq) T 110 v := boxDrewN hT nq
  have ct := hT'.cell
  have ft := hT'.frozen
  have bS : Boxed W S 107 (.slice (some ⟨E, o, none⟩) n c) := hW ▸ boxOther (boxDrewN hS nq) hTS.symm _
  have bO : Boxed W O 107 u := hW ▸ boxOther (boxDrewN hO nq) hTO.symm _
  have bT : Boxed W T 110 (.int .u8 2) := hW ▸ hT'.set _
  have tu : Turns [S, O, T] w W := hW ▸ ((Turns.refl _ w).drewN nq).setCell (.inl (by simp)) _
  have hA := tu.size
  obtain ⟨W2, hW2⟩ : ∃ W2, W.alloc (.cells #[.int .u32 0] 70) = W2 := ⟨_, rfl⟩
  have eA : W2.heap.size = W.heap.size + 1 := by rw [← hW2]; simp
  have dS : Boxed W2 S 107 (.slice (some ⟨E, o, none⟩) n c) := hW2 ▸ bS.alloc _
  have dO : Boxed W2 O 107 u := hW2 ▸ bO.alloc _
  have dT : Boxed W2 T 110 (.int .u8 2) := hW2 ▸ bT.alloc _
  have dA : Boxed W2 W.heap.size 70 (.int .u32 0) := hW2 ▸ Boxed.new W 70 _
  have tu2 : Turns [S, O, T] w W2 := hW2 ▸ tu.alloc _
  have dSc := dS.cell
  obtain ⟨B, hB⟩ : ∃ B, W.heap.size + 1 = B := ⟨_, rfl⟩
  have hB2 : W2.heap.size = B := eA.trans hB
  clear eA
  obtain ⟨W2', hW2'⟩ : ∃ W2', W2.alloc (.cells #[.slice none 0 0] 107) = W2' := ⟨_, rfl⟩
  have qB : Boxed W2' B 107 (.slice none 0 0) := hB2 ▸ hW2' ▸ Boxed.new W2 107 _
  have qBc := qB.cell
  have qBf := qB.frozen
  obtain ⟨W3, hW3⟩ : ∃ W3, W2'.setCell ⟨B, 0, none⟩ (.slice (some ⟨E, o + 2, none⟩) 2 (c - 2)) = W3 := ⟨_, rfl⟩
  have eS : Boxed W3 S 107 (.slice (some ⟨E, o, none⟩) n c) := hW3 ▸ boxOther (hW2' ▸ dS.alloc _) (by omega) _
  have eO : Boxed W3 O 107 u := hW3 ▸ boxOther (hW2' ▸ dO.alloc _) (by omega) _
  have eT : Boxed W3 T 110 (.int .u8 2) := hW3 ▸ boxOther (hW2' ▸ dT.alloc _) (by omega) _
  have eA3 : Boxed W3 W.heap.size 70 (.int .u32 0) := hW3 ▸ boxOther (hW2' ▸ dA.alloc _) (by omega) _
  have eB : Boxed W3 B 107 (.slice (some ⟨E, o + 2, none⟩) 2 (c - 2)) := hW3 ▸ qB.set _
  have tu3 : Turns [S, O, T] w W3 := hW3 ▸ Turns.setCell (hW2' ▸ tu2.alloc _) (.inr (by omega)) _
  have hb : W3.heap[E]? = w.heap[E]? := tu3.block E hE (by simp; omega)
  have g0 : W3.cell? ⟨E, o + 2, none⟩ = some (.int .u8 ((L : Int) / 256)) := (World.cell?_of_block (w := w) hb).trans h2
  have g1 : W3.cell? ⟨E, o + 2 + 1, none⟩ = some (.int .u8 ((L : Int) % 256)) := (World.cell?_of_block (w := w) hb).trans h3
  go_wp2_with fail
  refine (readU2 B W.heap.size E (o + 2) 2 (c - 2) 70 _ ((L : Int) / 256) ((L : Int) % 256) W3 eB eA3 (by omega) (by omega) (by omega) (by omega) g0 g1 (by omega) (by omega) (by omega) (by omega)).mono ?_
  rintro e w4 ⟨rfl, hw4⟩
  rw [show (L : Int) / 256 * 256 + (L : Int) % 256 = (L : Int) by omega] at hw4
  have f4A : Boxed w4 W.heap.size 70 (.int .u32 (L : Int)) := hw4 ▸ (boxOther eA3 (by omega) _).set _
  have f4S : Boxed w4 S 107 (.slice (some ⟨E, o, none⟩) n c) := hw4 ▸ boxOther (boxOther eS (by omega) _) (by omega) _
  have f4O : Boxed w4 O 107 u := hw4 ▸ boxOther (boxOther eO (by omega) _) (by omega) _
  have f4T : Boxed w4 T 110 (.int .u8 2) := hw4 ▸ boxOther (boxOther eT (by omega) _) (by omega) _
  have tu4 : Turns [S, O, T] w w4 := hw4 ▸ (tu3.setCell (.inr (by omega)) _).setCell (.inr (by omega)) _
  clear hw4
  have f4Ac := f4A.cell
  have t5 : ((L : Int) / 256 == 0) = false := by simp; omega
  go_wp2_with fail
  refine (readBytes' S O E o n c (4 + L) _ 107 u w4 ?hK f4S f4O hSO hk hn).mono ?_
  case hK => omega
  rintro e w' ⟨rfl, hw'⟩
  have dO : Boxed w' O 107 (.slice (some ⟨E, o, none⟩) (4 + L) c) := hw' ▸ (boxOther f4O hSO _).set _
  have dT : Boxed w' T 110 (.int .u8 2) := hw' ▸ boxOther (boxOther f4T hTS _) hTO _
  have du : Turns [S, O, T] w w' := hw' ▸ (tu4.setCell (.inl (by simp)) _).setCell (.inl (by simp)) _
  clear hw'
  go_wp2_with fail
  refine (skip' O E o (4 + L) c 4 _ w' ?hK dO (by omega) (by omega)).mono ?_
  case hK => omega
  rintro e w2 ⟨rfl, hw2⟩
  have fO : Boxed w2 O 107 (.slice (some (adv E o 4 c)) (4 + L - 4) (c - 4)) := hw2 ▸ dO.set _
  have fT : Boxed w2 T 110 (.int .u8 2) := hw2 ▸ boxOther dT hTO _
  have fu : Turns [S, O, T] w w2 := hw2 ▸ du.setCell (.inl (by simp)) _
  clear hw2
  go_wp2_with fail
  go_ret
  exact ⟨rfl, by simpa using fO, fT, fu⟩

set_option maxHeartbeats 3200000 in
theorem long2_3 (S O T E o n c L : Nat) (u v : Value) (w : World) (hS : Boxed w S 107 (.slice (some ⟨E, o, none⟩) n c)) (hO : Boxed w O 107 u) (hT : Boxed w T 110 v) (hSO : O ≠ S) (hTS : T ≠ S) (hTO : T ≠ O) (hES : E ≠ S) (hEO : E ≠ O) (hET : E ≠ T) (hE : E < w.heap.size)
    (hL1 : 65536 ≤ L) (hL2 : L < 16777216) (hk : 5 + L ≤ n) (hn : n ≤ c) (h0 : w.cell? ⟨E, o, none⟩ = some (.int .u8 2)) (h1 : w.cell? ⟨E, o + 1, none⟩ = some (.int .u8 131)) (h2 : w.cell? ⟨E, o + 2, none⟩ = some (.int .u8 ((L : Int) / 65536))) (h3 : w.cell? ⟨E, o + 2 + 1, none⟩ = some (.int .u8 ((L : Int) / 256 % 256))) (h4 : w.cell? ⟨E, o + 2 + 2, none⟩ = some (.int .u8 ((L : Int) % 256))) :
    Calls Try.prog 38 #[.pointer (some ⟨S, 0, none⟩), .pointer (some ⟨O, 0, none⟩), .pointer (some ⟨T, 0, none⟩), .bool true] w (Took S O T E o 5 L c 2 w) := by
  have c0 := hS.cell
  have t0 : decide ((n : Int) < 2) = false := by simp; omega
  have t1 : decide ((n : Int) < 5) = false := by simp; omega
  have t2 : decide ((L : Int) < 128) = false := by simp; omega
  have t3 : decide (5 + (L : Int) < (L : Int)) = false := by simp; omega
  have a1 : bits .and .u8 2 31 = 2 := by decide
  have a2 : bits .and .u8 131 128 = 128 := by decide
  have a3 : bits .and .u8 131 127 = 3 := by decide
  have ls := hS.lt
  have lo := hO.lt
  have lt := hT.lt
  go_enter Try.func38, Try.ntmps38
  go_wp2_with fail
  go_quiet (fail)
  obtain ⟨W, hW⟩ : ∃ W, (w.drewN nq).setCell ⟨T, 0, none⟩ (.int .u8 2) = W := ⟨_, rfl⟩
  have hT' : Boxed (w.drewN nq) T 110 v := boxDrewN hT nq
  have ct := hT'.cell
  have ft := hT'.frozen
  have bS : Boxed W S 107 (.slice (some ⟨E, o, none⟩) n c) := hW ▸ boxOther (boxDrewN hS nq) hTS.symm _
  have bO : Boxed W O 107 u := hW ▸ boxOther (boxDrewN hO nq) hTO.symm _
  have bT : Boxed W T 110 (.int .u8 2) := hW ▸ hT'.set _
  have tu : Turns [S, O, T] w W := hW ▸ ((Turns.refl _ w).drewN nq).setCell (.inl (by simp)) _
  have hA := tu.size
  obtain ⟨W2, hW2⟩ : ∃ W2, W.alloc (.cells #[.int .u32 0] 70) = W2 := ⟨_, rfl⟩
  have eA : W2.heap.size = W.heap.size + 1 := by rw [← hW2]; simp
  have dS : Boxed W2 S 107 (.slice (some ⟨E, o, none⟩) n c) := hW2 ▸ bS.alloc _
  have dO : Boxed W2 O 107 u := hW2 ▸ bO.alloc _
  have dT : Boxed W2 T 110 (.int .u8 2) := hW2 ▸ bT.alloc _
  have dA : Boxed W2 W.heap.size 70 (.int .u32 0) := hW2 ▸ Boxed.new W 70 _
  have tu2 : Turns [S, O, T] w W2 := hW2 ▸ tu.alloc _
  have dSc := dS.cell
  obtain ⟨B, hB⟩ : ∃ B, W.heap.size + 1 = B := ⟨_, rfl⟩
  have hB2 : W2.heap.size = B := eA.trans hB
  clear eA
  obtain ⟨W2', hW2'⟩ : ∃ W2', W2.alloc (.cells #[.slice none 0 0] 107) = W2' := ⟨_, rfl⟩
  have qB : Boxed W2' B 107 (.slice none 0 0) := hB2 ▸ hW2' ▸ Boxed.new W2 107 _
  have qBc := qB.cell
  have qBf := qB.frozen
  obtain ⟨W3, hW3⟩ : ∃ W3, W2'.setCell ⟨B, 0, none⟩ (.slice (some ⟨E, o + 2, none⟩) 3 (c - 2)) = W3 := ⟨_, rfl⟩
  have eS : Boxed W3 S 107 (.slice (some ⟨E, o, none⟩) n c) := hW3 ▸ boxOther (hW2' ▸ dS.alloc _) (by omega) _
  have eO : Boxed W3 O 107 u := hW3 ▸ boxOther (hW2' ▸ dO.alloc _) (by omega) _
  have eT : Boxed W3 T 110 (.int .u8 2) := hW3 ▸ boxOther (hW2' ▸ dT.alloc _) (by omega) _
  have eA3 : Boxed W3 W.heap.size 70 (.int .u32 0) := hW3 ▸ boxOther (hW2' ▸ dA.alloc _) (by omega) _
  have eB : Boxed W3 B 107 (.slice (some ⟨E, o + 2, none⟩) 3 (c - 2)) := hW3 ▸ qB.set _
  have tu3 : Turns [S, O, T] w W3 := hW3 ▸ Turns.setCell (hW2' ▸ tu2.alloc _) (.inr (by omega)) _
  have hb : W3.heap[E]? = w.heap[E]? := tu3.block E hE (by simp; omega)
  have g0 : W3.cell? ⟨E, o + 2, none⟩ = some (.int .u8 ((L : Int) / 65536)) := (World.cell?_of_block (w := w) hb).trans h2
  have g1 : W3.cell? ⟨E, o + 2 + 1, none⟩ = some (.int .u8 ((L : Int) / 256 % 256)) := (World.cell?_of_block (w := w) hb).trans h3
  have g2 : W3.cell? ⟨E, o + 2 + 2, none⟩ = some (.int .u8 ((L : Int) % 256)) := (World.cell?_of_block (w := w) hb).trans h4
  go_wp2_with fail
  refine (readU3 B W.heap.size E (o + 2) 3 (c - 2) 70 _ ((L : Int) / 65536) ((L : Int) / 256 % 256) ((L : Int) % 256) W3 eB eA3 (by omega) (by omega) (by omega) (by omega) g0 g1 g2 (by omega) (by omega) (by omega) (by omega) (by omega) (by omega)).mono ?_
  rintro e w4 ⟨rfl, hw4⟩
  rw [show ((L : Int) / 65536 * 256 + (L : Int) / 256 % 256) * 256 + (L : Int) % 256 = (L : Int) by omega] at hw4
  have f4A : Boxed w4 W.heap.size 70 (.int .u32 (L : Int)) := hw4 ▸ (boxOther eA3 (by omega) _).set _
  have f4S : Boxed w4 S 107 (.slice (some ⟨E, o, none⟩) n c) := hw4 ▸ boxOther (boxOther eS (by omega) _) (by omega) _
  have f4O : Boxed w4 O 107 u := hw4 ▸ boxOther (boxOther eO (by omega) _) (by omega) _
  have f4T : Boxed w4 T 110 (.int .u8 2) := hw4 ▸ boxOther (boxOther eT (by omega) _) (by omega) _
  have tu4 : Turns [S, O, T] w w4 := hw4 ▸ (tu3.setCell (.inr (by omega)) _).setCell (.inr (by omega)) _
  clear hw4
  have f4Ac := f4A.cell
  have t5 : ((L : Int) / 65536 == 0) = false := by simp; omega
  go_wp2_with fail
  refine (readBytes' S O E o n c (5 + L) _ 107 u w4 ?hK f4S f4O hSO hk hn).mono ?_
  case hK => omega
  rintro e w' ⟨rfl, hw'⟩
  have dO : Boxed w' O 107 (.slice (some ⟨E, o, none⟩) (5 + L) c) := hw' ▸ (boxOther f4O hSO _).set _
  have dT : Boxed w' T 110 (.int .u8 2) := hw' ▸ boxOther (boxOther f4T hTS _) hTO _
  have du : Turns [S, O, T] w w' := hw' ▸ (tu4.setCell (.inl (by simp)) _).setCell (.inl (by simp)) _
  clear hw'
  go_wp2_with fail
  refine (skip' O E o (5 + L) c 5 _ w' ?hK dO (by omega) (by omega)).mono ?_
  case hK => omega
  rintro e w2 ⟨rfl, hw2⟩
  have fO : Boxed w2 O 107 (.slice (some (adv E o 5 c)) (5 + L - 5) (c - 5)) := hw2 ▸ dO.set _
  have fT : Boxed w2 T 110 (.int .u8 2) := hw2 ▸ boxOther dT hTO _
  have fu : Turns [S, O, T] w w2 := hw2 ▸ du.setCell (.inl (by simp)) _
  clear hw2
  go_wp2_with fail
  go_ret
  exact ⟨rfl, by simpa using fO, fT, fu⟩

end Go.Proofs.Qxb6604715a.ser
