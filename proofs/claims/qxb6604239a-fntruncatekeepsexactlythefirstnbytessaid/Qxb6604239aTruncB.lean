import Derived.Test.Qxb6604239aTruncA
namespace Go.Proofs.Qxb6604239a.trunc
open Go.ChangeShapes Go.WideShapes Go.ChangeAt Go.RowKit
open Go.Proofs.Qxb6604239a.esc Go.Proofs.Qxb6604239a.copy
set_option linter.unusedVariables false

theorem info23 : (Try.prog.info? 23).map (fun i => (i.zero, i.size, i.bytes)) = some (some (.slice none 0 0), 1, 24) := by kernel_rfl
theorem hmk22 (n : Nat) (hn : n ≤ 1048576) (w : World) :
    (Instr.makeSlice 22 (.int .i64 (n : Int)) (.int .i64 (n : Int))).run Try.prog w = .ok (.slice (some ⟨w.heap.size, 0, none⟩) n n) (w.alloc (.cells (madeCells #[.slice none 0 0] n) 23)) :=
  run_make_row' 22 23 (.slice none 0 0) 24 Try.underlying22 info23 rfl .i64 .i64 n (by omega) (by omega) w
theorem hmk23 (n : Nat) (hn : n ≤ 4294967296) (w : World) :
    (Instr.makeSlice 23 (.int .i64 (n : Int)) (.int .i64 (n : Int))).run Try.prog w = .ok (.slice (some ⟨w.heap.size, 0, none⟩) n n) (w.alloc (.cells (madeCells #[.int .u8 0] n) 5)) :=
  run_make_row' 23 5 (.int .u8 0) 1 Try.underlying23 info5 rfl .i64 .i64 n (by omega) (by omega) w
theorem hnil22 (w : World) (a : Option Addr) (n c n' c' : Nat) : (binOp .eql 22 (.slice a n c) (.slice none n' c')).run Try.prog w = .ok (.bool a.isNone) w := Lib.run_eql_slice_nil w _ _ a n c n' c' Try.underlying22

/-- N pieces of P bytes each, read through the outer list. -/
def Pcs (w : World) (a : Option Addr) (N P : Nat) (g : Nat → Nat → Int) : Prop :=
  N = 0 ∨ ∃ b off, a = some ⟨b, off, none⟩ ∧ ∀ j, j < N → ∃ b' o' c', w.cell? ⟨b, off + j, none⟩ = some (.slice (some ⟨b', o', none⟩) P c') ∧ ∀ i, i < P → w.cell? ⟨b', o' + i, none⟩ = some (.int .u8 (g j i))
theorem Pcs.later {w w' : World} {a : Option Addr} {N P : Nat} {g : Nat → Nat → Int} (h : Pcs w a N P g) (hk : ∀ p v, w.cell? p = some v → w'.cell? p = some v) : Pcs w' a N P g := by
  rcases h with h | ⟨b, off, e, hc⟩
  · exact .inl h
  · exact .inr ⟨b, off, e, fun j hj => by obtain ⟨b', o', c', h1, h2⟩ := hc j hj; exact ⟨b', o', c', hk _ _ h1, fun i hi => hk _ _ (h2 i hi)⟩⟩
theorem below_cells {w w' : World} (h : Below w.heap.size w w') : ∀ p v, w.cell? p = some v → w'.cell? p = some v := fun _ _ hv => cell_later h hv

/-- What zzDeepCopy lays: an outer row, and behind it one row a piece. -/
def DeepRow (w : World) (B N P : Nat) (g : Nat → Nat → Int) : Prop :=
  w.rowIs B 23 N (fun j => .slice (some ⟨B + 1 + j, 0, none⟩) P P) ∧ ∀ j, j < N → w.rowIs (B + 1 + j) 5 P (fun i => .int .u8 (g j i))

theorem deep_nil (w : World) : Calls Try.prog 10 #[.slice none 0 0] w fun e w' => e = .returned (.slice none 0 0) ∧ w' = w := by
  have h1 := hnil22
  go_enter Try.func10, Try.ntmps10
  go_wp2
  go_ret
  exact ⟨rfl, rfl⟩

/-- Where the copying stands behind k pieces. -/
def DeepAt (w : World) (N P k : Nat) (g : Nat → Nat → Int) (wr : World) : Prop :=
  wr.rowIs w.heap.size 23 N (fun j => if j < k then .slice (some ⟨w.heap.size + 1 + j, 0, none⟩) P P else .slice none 0 0) ∧ (∀ j, j < k → wr.rowIs (w.heap.size + 1 + j) 5 P (fun i => .int .u8 (g j i))) ∧ Below w.heap.size w wr ∧ wr.heap.size = w.heap.size + 1 + k

theorem deepAt_next {w wr w1 : World} {N P k : Nat} {g : Nat → Nat → Int} (hk : k < N) (h : DeepAt w N P k g wr) (hr : w1.rowIs wr.heap.size 5 P (fun i => .int .u8 (g k i))) (hb : Below wr.heap.size wr w1) (hs : w1.heap.size = wr.heap.size + 1) :
    DeepAt w N P (k + 1) g (w1.setCell ⟨w.heap.size, k, none⟩ (.slice (some ⟨wr.heap.size, 0, none⟩) P P)) := by
  obtain ⟨h1, h2, h3, h4⟩ := h
  have h1' : w1.rowIs w.heap.size 23 N _ := h1.of_block (hb.block _ (by omega))
  refine ⟨?_, ?_, ?_, ?_⟩
  · refine (h1'.set k (.slice (some ⟨wr.heap.size, 0, none⟩) P P)).congr (fun j hj => ?_)
    by_cases e1 : j = k
    · simp [e1, h4]
    · by_cases e2 : j < k
      · simp [e1, e2, show j < k + 1 by omega]
      · simp [e1, e2, show ¬ j < k + 1 by omega]
  · intro j hj
    by_cases e1 : j = k
    · subst e1
      rw [h4] at hr
      exact hr.setOther (show w.heap.size + 1 + j ≠ w.heap.size by omega) _
    · exact ((h2 j (by omega)).of_block (hb.block _ (by omega))).setOther (show w.heap.size + 1 + j ≠ w.heap.size by omega) _
  · exact (h3.trans (hb.mono (by omega))).setCell (Nat.le_refl _) _
  · simp; omega

set_option maxHeartbeats 1000000 in
theorem deep_some (x : Addr) (N c P : Nat) (g : Nat → Nat → Int) (w : World) (hN : N ≤ 43690) (hP : P ≤ 1048576) (h : Pcs w (some x) N P g) :
    Calls Try.prog 10 #[.slice (some x) N c] w fun e w' => e = .returned (.slice (some ⟨w.heap.size, 0, none⟩) N N) ∧ DeepRow w' w.heap.size N P g ∧ Below w.heap.size w w' ∧ w'.heap.size = w.heap.size + 1 + N := by
  have h1 := hnil22
  have h2 := hmk22 N (by omega)
  have HP : Hid (Pcs w (some x) N P g) := h
  clear h
  go_enter Try.func10, Try.ntmps10
  go_wp2
  go_loopw [4] (fun i wr => ∃ k : Nat, k ≤ N ∧ i = .int .i64 k ∧ Hid (DeepAt w N P k g wr)) (fun i _ => N - (intOf i).toNat)
  case atStart =>
    refine ⟨0, Nat.zero_le _, rfl, ?_, fun j hj => absurd hj (by omega), (Below.refl _ _).alloc (Nat.le_refl _) _, by simp⟩
    exact (World.rowIs_made w (.slice none 0 0) N 23).congr (fun i _ => by simp)
  case round =>
    obtain ⟨k, hk, rfl, hat⟩ := hrel
    by_cases hlt : k < N
    · obtain ⟨b, off, hx, hc⟩ := HP.out.resolve_left (by omega)
      obtain rfl : x = ⟨b, off, none⟩ := by injection hx
      obtain ⟨b', o', c', g1, g2⟩ := hc k hlt
      have hck := cell_later hat.out.2.2.1 g1
      have HC2 : Hid (∀ i, i < P → wr.cell? ⟨b', o' + i, none⟩ = some (.int .u8 (g k i))) := fun i hi => cell_later hat.out.2.2.1 (g2 i hi)
      have hi : (k : Int) < (N : Int) := by omega
      have hcB : wr.cell? ⟨w.heap.size, k, none⟩ = some (.slice none 0 0) := by have := hat.out.1.cell hlt; simpa using this
      have hfB : wr.frozen? ⟨w.heap.size, k, none⟩ = false := hat.out.1.frozen k
      have hsz : w.heap.size < wr.heap.size := hat.out.1.lt
      clear hc g1 g2 hx
      go_wp2_with fail
      refine (copy_some b' o' P c' (g k) wr hP HC2.out).mono ?_
      rintro e w1 ⟨rfl, hr, hb, hs⟩
      have hcB1 : w1.cell? ⟨w.heap.size, k, none⟩ = some (.slice none 0 0) := by rw [← hcB]; exact hb.cell (p := ⟨w.heap.size, k, none⟩) hsz
      have hfB1 : w1.frozen? ⟨w.heap.size, k, none⟩ = false := by rw [← hfB]; exact hb.frozen (p := ⟨w.heap.size, k, none⟩) hsz
      have HN : Hid (DeepAt w N P (k + 1) g (w1.setCell ⟨w.heap.size, k, none⟩ (.slice (some ⟨wr.heap.size, 0, none⟩) P P))) := deepAt_next hlt hat.out hr hb hs
      clear hr hb hs hcB hfB hck
      go_wp2
      go_roundw
      case rel => exact ⟨k + 1, hlt, by go_num, HN⟩
      case measure => simp [intOf]; omega
    · obtain rfl : k = N := by omega
      go_wp2
      go_ret
      exact ⟨rfl, ⟨hat.out.1.congr (fun j hj => by simp [hj]), hat.out.2.1⟩, hat.out.2.2.1, hat.out.2.2.2⟩
end Go.Proofs.Qxb6604239a.trunc
