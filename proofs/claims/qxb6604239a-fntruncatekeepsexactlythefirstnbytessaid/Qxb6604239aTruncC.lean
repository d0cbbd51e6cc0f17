import Derived.Test.Qxb6604239aTruncB
namespace Go.Proofs.Qxb6604239a.trunc
open Go.ChangeShapes Go.WideShapes Go.ChangeAt Go.RowKit
open Go.Proofs.Qxb6604239a.esc Go.Proofs.Qxb6604239a.copy
set_option linter.unusedVariables false

/-- The new row behind q bytes laid. -/
def FlatAt (w : World) (T : Nat) (F : Nat → Int) (q : Nat) (wr : World) : Prop :=
  wr.rowIs w.heap.size 5 T (fun j => if j < q then .int .u8 (F j) else .int .u8 0) ∧ Below w.heap.size w wr ∧ wr.heap.size = w.heap.size + 1
theorem flatAt_next {w wr : World} {T q : Nat} {F : Nat → Int} (h : FlatAt w T F q wr) (v : Int) (hv : F q = v) : FlatAt w T F (q + 1) (wr.setCell ⟨w.heap.size, q, none⟩ (.int .u8 v)) := by
  obtain ⟨h1, h2, h3⟩ := h
  refine ⟨?_, h2.setCell (Nat.le_refl _) _, by simpa using h3⟩
  refine (h1.set q (.int .u8 v)).congr (fun j hj => ?_)
  by_cases e1 : j = q
  · simp [e1, hv]
  · by_cases e2 : j < q
    · simp [e1, e2, show j < q + 1 by omega]
    · simp [e1, e2, show ¬ j < q + 1 by omega]
theorem flatAt_cell {w wr : World} {T q : Nat} {F : Nat → Int} (h : FlatAt w T F q wr) (hq : q < T) : wr.cell? ⟨w.heap.size, q, none⟩ = some (.int .u8 0) := by
  have := h.1.cell hq
  simpa using this

set_option maxHeartbeats 2000000 in
theorem flat (a a' : Option Addr) (N c m c' P T : Nat) (g : Nat → Nat → Int) (l F : Nat → Int) (w : World) (hT : N * P + m = T) (hb : T ≤ 4294967296) (hN : N ≤ 43690) (hPb : P ≤ 1048576) (hp : Pcs w a N P g) (hl : Reads w a' m l)
    (hF1 : ∀ j, j < N → ∀ i, i < P → F (j * P + i) = g j i) (hF2 : ∀ i, i < m → F (N * P + i) = l i) :
    Calls Try.prog 12 #[.slice a N c, .slice a' m c'] w fun e w' => e = .returned (.slice (some ⟨w.heap.size, 0, none⟩) T T) ∧ w'.rowIs w.heap.size 5 T (fun k => .int .u8 (F k)) ∧ Below w.heap.size w w' ∧ w'.heap.size = w.heap.size + 1 := by
  have h2 := hmk23 T (by omega)
  have HP : Hid (Pcs w a N P g) := hp
  have HL : Hid (Reads w a' m l) := hl
  have HT : Hid (N * P + m = T) := hT
  have HF1 : Hid (∀ j, j < N → ∀ i, i < P → F (j * P + i) = g j i) := hF1
  have HF2 : Hid (∀ i, i < m → F (N * P + i) = l i) := hF2
  have hmT : m ≤ T := by omega
  clear hp hl hT hF1 hF2
  go_enter Try.func12, Try.ntmps12
  go_wp2
  go_loop [5, 6] (fun z i => ∃ k t : Nat, k ≤ N ∧ i = .int .i64 k ∧ z = .int .i64 t ∧ t ≤ T ∧ Hid (k * P + m = t)) (fun _ i => N - (intOf i).toNat)
  case atStart => exact ⟨0, m, Nat.zero_le _, rfl, rfl, hmT, (show 0 * P + m = m by simp)⟩
  case round =>
    obtain ⟨k, t, hk, rfl, rfl, htT, ht⟩ := hrel
    by_cases hlt : k < N
    · obtain ⟨b, off, rfl, hc⟩ := HP.out.resolve_left (by omega)
      obtain ⟨b', o', c2, g1, g2⟩ := hc k hlt
      have hi : (k : Int) < (N : Int) := by omega
      clear hc g2
      have hle : t + P ≤ T := by
        have h1 := Nat.mul_le_mul_right P (show k + 1 ≤ N by omega)
        have h3 := Nat.succ_mul k P
        have h4 := HT.out
        have h5 := ht.out
        simp only [Nat.succ_eq_add_one] at h3
        omega
      go_wp2
      go_round
      case rel => exact ⟨k + 1, t + P, hlt, by go_num, by go_num, hle, (show (k + 1) * P + m = t + P by have := ht.out; rw [Nat.succ_mul]; omega)⟩
      case measure => simp [intOf]; omega
    · obtain rfl : k = N := by omega
      obtain rfl : t = T := by have := ht.out; have := HT.out; omega
      go_wp2
      go_loopw [8, 9] (fun z i wr => ∃ j q : Nat, j ≤ k ∧ i = .int .i64 j ∧ z = .int .i64 q ∧ Hid (j * P = q) ∧ Hid (FlatAt w t F q wr)) (fun _ i _ => k - (intOf i).toNat)
      case atStart =>
        refine ⟨0, 0, Nat.zero_le _, rfl, rfl, (show 0 * P = 0 by simp), ?_, (Below.refl _ _).alloc (Nat.le_refl _) _, by simp⟩
        exact (World.rowIs_made w (.int .u8 0) t 5).congr (fun i _ => by simp)
      case round =>
        obtain ⟨j, q, hj, rfl, rfl, hjq, hat⟩ := hrel
        by_cases hlt : j < k
        · obtain ⟨b, off, rfl, hc⟩ := HP.out.resolve_left (by omega)
          obtain ⟨b', o', c2, g1, g2⟩ := hc j hlt
          have G1 : Hid (w.cell? ⟨b, off + j, none⟩ = some (.slice (some ⟨b', o', none⟩) P c2)) := g1
          have G2 : Hid (∀ i, i < P → w.cell? ⟨b', o' + i, none⟩ = some (.int .u8 (g j i))) := g2
          have hi : (j : Int) < (k : Int) := by omega
          have hqT : q + P ≤ t := by
            have h1 := Nat.mul_le_mul_right P (show j + 1 ≤ k by omega)
            have h3 := Nat.succ_mul j P
            have h4 := HT.out
            have h5 := hjq.out
            simp only [Nat.succ_eq_add_one] at h3
            omega
          clear hc g1 g2
          go_wp2
          go_loopw [8, 10] (fun z i wr2 => ∃ s q2 : Nat, s ≤ P ∧ i = .int .i64 s ∧ z = .int .i64 q2 ∧ q2 ≤ t ∧ Hid (q + s = q2) ∧ Hid (FlatAt w t F q2 wr2)) (fun _ i _ => P - (intOf i).toNat)
          case atStart => exact ⟨0, q, Nat.zero_le _, rfl, rfl, by omega, rfl, hat⟩
          case round =>
            obtain ⟨s, q2, hs, rfl, rfl, hq2, hqs, hat2⟩ := hrel
            have hc1 := cell_later hat2.out.2.1 G1.out
            by_cases hlt2 : s < P
            · have hc2 := cell_later hat2.out.2.1 (G2.out s hlt2)
              have hq2t : q2 < t := by have := hqs.out; omega
              have hc3 := flatAt_cell hat2.out hq2t
              have hf3 : wr.frozen? ⟨w.heap.size, q2, none⟩ = false := hat2.out.1.frozen q2
              have hi2 : (s : Int) < (P : Int) := by omega
              have hi3 : (q2 : Int) < (t : Int) := by omega
              have HN : Hid (FlatAt w t F (q2 + 1) (wr.setCell ⟨w.heap.size, q2, none⟩ (.int .u8 (g j s)))) :=
                flatAt_next hat2.out (g j s) (by rw [← HF1.out j hlt s hlt2, hjq.out, hqs.out])
              go_wp2
              go_roundw
              case rel => exact ⟨s + 1, q2 + 1, hlt2, by go_num, by go_num, hq2t, (show q + (s + 1) = q2 + 1 by have := hqs.out; omega), HN⟩
              case measure => simp [intOf]; omega
            · obtain rfl : s = P := by omega
              go_wp2
              go_roundw
              case rel => exact ⟨j + 1, q2, hlt, by go_num, rfl, (show (j + 1) * s = q2 by have h1 := hqs.out; have h2 := hjq.out; rw [Nat.succ_mul]; omega), hat2⟩
              case measure => simp [intOf]; omega
        · obtain rfl : j = k := by omega
          go_wp2
          go_loopw [8, 11] (fun z i wr2 => ∃ s q2 : Nat, s ≤ m ∧ i = .int .i64 s ∧ z = .int .i64 q2 ∧ q2 ≤ t ∧ Hid (q + s = q2) ∧ Hid (FlatAt w t F q2 wr2)) (fun _ i _ => m - (intOf i).toNat)
          case atStart => exact ⟨0, q, Nat.zero_le _, rfl, rfl, by have := hjq.out; have := HT.out; omega, rfl, hat⟩
          case round =>
            obtain ⟨s, q2, hs, rfl, rfl, hq2, hqs, hat2⟩ := hrel
            by_cases hlt2 : s < m
            · obtain ⟨b, off, rfl, hc⟩ := HL.out.resolve_left (by omega)
              have hc2 := cell_later hat2.out.2.1 (hc s hlt2)
              have hq2t : q2 < t := by have h1 := hqs.out; have h2 := hjq.out; have h3 := HT.out; omega
              have hc3 := flatAt_cell hat2.out hq2t
              have hf3 : wr.frozen? ⟨w.heap.size, q2, none⟩ = false := hat2.out.1.frozen q2
              have hi2 : (s : Int) < (m : Int) := by omega
              have hi3 : (q2 : Int) < (t : Int) := by omega
              have HN : Hid (FlatAt w t F (q2 + 1) (wr.setCell ⟨w.heap.size, q2, none⟩ (.int .u8 (l s)))) :=
                flatAt_next hat2.out (l s) (by rw [← HF2.out s hlt2, hjq.out, hqs.out])
              clear hc
              go_wp2
              go_roundw
              case rel => exact ⟨s + 1, q2 + 1, hlt2, by go_num, by go_num, hq2t, (show q + (s + 1) = q2 + 1 by have := hqs.out; omega), HN⟩
              case measure => simp [intOf]; omega
            · obtain rfl : s = m := by omega
              obtain rfl : q2 = t := by have h1 := hqs.out; have h2 := hjq.out; have h3 := HT.out; omega
              go_wp2
              go_ret
              exact ⟨rfl, hat2.out.1.congr (fun i hi => by simp [hi]), hat2.out.2.1, hat2.out.2.2⟩
end Go.Proofs.Qxb6604239a.trunc
