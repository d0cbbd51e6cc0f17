import Derived.Test.Qxb6604715aSerF
namespace Go.Proofs.Qxb6604715a.ser
open Go.ChangeShapes Go.WideShapes Go.ChangeAt Go.RowKit
set_option linter.unusedVariables false
set_option maxRecDepth 20000

theorem adv_in {E o k c : Nat} (h : k < c) : adv E o k c = ⟨E, o + k, none⟩ := if_neg (by omega)

/-- What 'serialAt' answers. -/
def Ans (E o s : Nat) (w : World) (e : Ending) (w' : World) : Prop :=
  ∃ a c, e = .returned (.slice (some a) s c) ∧ (0 < s → a = ⟨E, o, none⟩) ∧ s ≤ c ∧ Turns [] w w'

set_option maxHeartbeats 1600000 in
theorem serialAt (X E n c p I s : Nat) (w : World) (hX : w.cell? ⟨X, 0, none⟩ = some (.slice (some ⟨E, 0, none⟩) n c)) (hE : E < w.heap.size) (hI : I < 16777216) (hk : hlen s + s ≤ I) (hp : p + (hlen I + I) ≤ n) (hn : n ≤ c)
    (l1 : Lies w E p (48 :: der I)) (l2 : Lies w E (p + hlen I) (2 :: der s)) :
    Calls Try.prog 30 #[.pointer (some ⟨X, 0, none⟩), .int .i64 (p : Int)] w (Ans E (p + hlen I + hlen s) s w) := by
  have g1 := hlen_ge I
  have g2 := hlen_ge s
  have q1 : p < c := by omega
  have q2 : p < n := by omega
  obtain ⟨B, hB⟩ : ∃ B, w.heap.size = B := ⟨_, rfl⟩
  obtain ⟨W1, hW1⟩ : ∃ W, w.alloc (.cells #[.slice none 0 0] 107) = W := ⟨_, rfl⟩
  have z1 : W1.heap.size = B + 1 := by rw [← hW1, ← hB]; simp
  have b1 : Boxed W1 B 107 (.slice none 0 0) := hB ▸ hW1 ▸ Boxed.new w 107 _
  have b1c := b1.cell
  have b1f := b1.frozen
  obtain ⟨W2, hW2⟩ : ∃ W, W1.setCell ⟨B, 0, none⟩ (.slice (some ⟨E, p, none⟩) (n - p) (c - p)) = W := ⟨_, rfl⟩
  have z2 : W2.heap.size = B + 1 := by rw [← hW2, ← z1]; simp [World.setCell]
  have b2 : Boxed W2 B 107 (.slice (some ⟨E, p, none⟩) (n - p) (c - p)) := hW2 ▸ b1.set _
  have u2 : Turns [] w W2 := hW2 ▸ Turns.setCell (hW1 ▸ (Turns.refl [] w).alloc _) (.inr (by omega)) _
  obtain ⟨W3, hW3⟩ : ∃ W, W2.alloc (.cells #[.slice none 0 0] 107) = W := ⟨_, rfl⟩
  have z3 : W3.heap.size = B + 2 := by rw [← hW3]; simp [z2]
  have b3 : Boxed W3 (B + 1) 107 (.slice none 0 0) := z2 ▸ hW3 ▸ Boxed.new W2 107 _
  obtain ⟨W4, hW4⟩ : ∃ W, W3.alloc (.cells #[.slice none 0 0] 107) = W := ⟨_, rfl⟩
  have z4 : W4.heap.size = B + 3 := by rw [← hW4]; simp [z3]
  have s4 : Boxed W4 B 107 (.slice (some ⟨E, p, none⟩) (n - p) (c - p)) := hW4 ▸ Boxed.alloc (hW3 ▸ b2.alloc _) _
  have e4 : Boxed W4 (B + 1) 107 (.slice none 0 0) := hW4 ▸ b3.alloc _
  have r4 : Boxed W4 (B + 2) 107 (.slice none 0 0) := z3 ▸ hW4 ▸ Boxed.new W3 107 _
  have u4 : Turns [] w W4 := hW4 ▸ Turns.alloc (hW3 ▸ u2.alloc _) _
  go_enter Try.func30, Try.ntmps30
  go_wp2_with fail
  refine (readASN1 48 (.inl rfl) B (B + 1) E p (n - p) (c - p) I _ W4 s4 e4 (by omega) (by omega) (by omega) (by omega) hI (by omega) (by omega) (l1.kept u4 hE (by simp))).mono ?_
  rintro e w5 ⟨rfl, h5, t5⟩
  rw [adv_in (by omega)] at h5
  have u5 : Turns [] w w5 := u4.trans t5 (by simp; omega)
  have r5 : Boxed w5 (B + 2) 107 (.slice none 0 0) := (t5.block (B + 2) (by omega) (by simp)).trans r4
  have z5 := t5.size
  go_wp2_with fail
  refine (readASN1 2 (.inr rfl) (B + 1) (B + 2) E (p + hlen I) I (c - p - hlen I) s _ w5 h5 r5 (by omega) (by omega) (by omega) (by omega) (by omega) hk (by omega) (l2.kept u5 hE (by simp))).mono ?_
  rintro e w6 ⟨rfl, h6, t6⟩
  have u6 : Turns [] w w6 := u5.trans t6 (by simp; omega)
  have h6c := h6.cell
  go_wp2_with fail
  go_ret
  exact ⟨_, _, rfl, fun h => adv_in (by omega), by omega, u6⟩

set_option maxHeartbeats 800000 in
theorem zzSerialAt (X E n c p I s : Nat) (w : World) (hX : w.cell? ⟨X, 0, none⟩ = some (.slice (some ⟨E, 0, none⟩) n c)) (hE : E < w.heap.size) (hI : I < 16777216) (hk : hlen s + s ≤ I) (hp : p + (hlen I + I) ≤ n) (hn : n ≤ c)
    (l1 : Lies w E p (48 :: der I)) (l2 : Lies w E (p + hlen I) (2 :: der s)) :
    Calls Try.prog 14 #[.pointer (some ⟨X, 0, none⟩), .int .i64 (p : Int)] w (Ans E (p + hlen I + hlen s) s w) := by
  go_enter Try.func14, Try.ntmps14
  go_wp2_with fail
  refine (serialAt X E n c p I s w hX hE hI hk hp hn l1 l2).mono ?_
  rintro e w' ⟨a, c', rfl, h1, h2, h3⟩
  go_wp2_with fail
  go_ret
  exact ⟨a, c', rfl, h1, h2, h3⟩

set_option maxHeartbeats 800000 in
theorem zzNew (a : Option Addr) (n c : Nat) (w : World) :
    Calls Try.prog 15 #[.slice a n c] w fun e w' => e = .returned (.pointer (some ⟨w.heap.size, 0, none⟩)) ∧ w'.cell? ⟨w.heap.size, 0, none⟩ = some (.slice a n c) ∧ Turns [] w w' := by
  go_enter Try.func15, Try.ntmps15
  go_wp2_with fail
  go_ret
  refine ⟨rfl, ?_, (Turns.refl [] w).alloc _⟩
  rw [cell_of_row _ _ _ _ _ _ (heap_alloc_new w _)]
  rfl
end Go.Proofs.Qxb6604715a.ser
