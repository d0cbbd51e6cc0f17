import Derived.Test.Qxb6604239aTruncF
namespace Go.Proofs.Qxb6604239a.trunc
open Go.ChangeShapes Go.WideShapes Go.ChangeAt Go.RowKit
open Go.Proofs.Qxb6604239a.esc Go.Proofs.Qxb6604239a.copy
set_option linter.unusedVariables false

theorem hands {w0 w1 w2 w3 w4 w5 wr : World} {fa lb fc lc : Option Addr} {N P m T : Nat} {g : Nat → Nat → Int} {l F : Nat → Int}
    (hd1 : HasDeep w1 fa w0.heap.size N P g) (hb1 : Below w0.heap.size w0 w1) (hd2 : HasRow w2 lb w1.heap.size m l) (hb2 : Below w1.heap.size w1 w2)
    (hd3 : w3.rowIs w2.heap.size 5 T (fun k => .int .u8 (F k))) (hb3 : Below w2.heap.size w2 w3) (hd4 : HasDeep w4 fc w3.heap.size N P g) (hb4 : Below w3.heap.size w3 w4)
    (hd5 : HasRow w5 lc w4.heap.size m l) (hb5 : Below w4.heap.size w4 w5) (hat : HoldAt w5 w3.heap.size N P N wr) :
    Hands w0 wr fa lb fc lc w0.heap.size w1.heap.size w2.heap.size w3.heap.size w4.heap.size w5.heap.size N P m T g l F := by
  have s1 := hb1.size
  have s2 := hb2.size
  have s3 := hb3.size
  have s4 := hb4.size
  have s5 := hb5.size
  obtain ⟨hh, hb6⟩ := hat
  refine ⟨((((hd1.keep hb2.block).keep hb3.block).keep hb4.block).keep hb5.block).keep hb6.block, (((hd2.keep hb3.block).keep hb4.block).keep hb5.block).keep hb6.block,
    ((hd3.of_block (hb4.block _ hd3.lt)).of_block (hb5.block _ (by have := hd3.lt; omega))).of_block (hb6.block _ (by have := hd3.lt; omega)), (hd4.keep hb5.block).keep hb6.block, hd5.keep hb6.block,
    hh.congr (fun j hj => by simp [hj]), ((((hb1.trans (hb2.mono s1)).trans (hb3.mono (by omega))).trans (hb4.mono (by omega))).trans (hb5.mono (by omega))).trans (hb6.mono (by omega)), by omega, ?_, ?_, ?_, ?_⟩
  · intro e
    rcases hd1 with ⟨h, _⟩ | ⟨_, h1, h2⟩
    · rw [h] at e; cases e
    · by_cases h0 : N = 0
      · have := h1.lt; omega
      · have := (h2 (N - 1) (by omega)).lt; omega
  · rcases hd2 with ⟨_, h⟩ | ⟨_, h⟩
    · exact .inr h
    · exact .inl (by have := h.lt; omega)
  · have := hd3.lt; omega
  · intro e
    rcases hd4 with ⟨h, _⟩ | ⟨_, h1, _⟩
    · rw [h] at e; cases e
    · have := h1.lt; omega

theorem Hands.later {w0 w6 w7 : World} {fa la fca lca : Option Addr} {B1 B2 B3 B4 B5 B6 N P m T : Nat} {g : Nat → Nat → Int} {l F : Nat → Int} (h : Hands w0 w6 fa la fca lca B1 B2 B3 B4 B5 B6 N P m T g l F) (hb : Below w6.heap.size w6 w7) :
    Hands w0 w7 fa la fca lca B1 B2 B3 B4 B5 B6 N P m T g l F :=
  ⟨h.full.keep hb.block, h.last.keep hb.block, h.bef.of_block (hb.block _ h.bef.lt), h.fc.keep hb.block, h.lc.keep hb.block, h.hold.of_block (hb.block _ h.hold.lt), h.below.trans (hb.mono h.below.size), h.old, h.apart1, h.apart2, h.apart3, h.apart5⟩
theorem reads_drewN {w : World} {a : Option Addr} {n : Nat} {f : Nat → Int} (h : Reads w a n f) (q : Nat) : Reads (w.drewN q) a n f := h
theorem reads_of {w wr : World} {a : Option Addr} {n : Nat} {f : Nat → Int} (hq : ∃ q, wr = w.drewN q) (h : Reads w a n f) : Reads wr a n f := by
  obtain ⟨q, rfl⟩ := hq
  exact h
theorem below_more {w w1 : World} (h : Below w.heap.size w w1) (q : Nat) : Below w.heap.size w (w1.drewN q) := ⟨h.os, h.tape, h.output, h.size, h.block⟩
theorem below_of {w w1 wr : World} (h : Below w.heap.size w w1) (hq : ∃ q, wr = w1.drewN q) : Below w.heap.size w wr := by
  obtain ⟨q, rfl⟩ := hq
  exact below_more h q

set_option maxHeartbeats 4000000 in
set_option maxRecDepth 20000 in
theorem law_all (a la : Option Addr) (N c m cl P T : Nat) (A : Nat → Option Addr) (L C : Nat → Nat) (g : Nat → Nat → Int) (l F : Nat → Int) (n : Nat) (w : World) (hN : N ≤ maxLen) (hm : m ≤ maxLen) (hnb : (n : Int) ≤ 9223372036854775807) (hL : ∀ j, j < N → L j ≤ maxLen) (hO : Outer w a N A L C)
    (hW1 : ∀ j, j < N → L j = 65536) (hm2 : m ≤ 65536) (hP : P = 65536) (hp : Pcs w a N P g) (hnl : (a = none ∧ N = 0 ∧ c = 0) ∨ ∃ x, a = some x) (hs : Src w la m cl l) (hT : N * P + m = T)
    (hF1 : ∀ j, j < N → ∀ i, i < P → F (j * P + i) = g j i) (hF2 : ∀ i, i < m → F (N * P + i) = l i)
    (hn : T ≤ n) :
    Calls Try.prog 3 #[.slice a N c, .slice la m cl, .int .i64 (n : Int)] w fun e w' => e = .returned (.bool true) ∧ Below w.heap.size w w' := by
  have HO : Hid (Outer w a N A L C) := hO
  have HL : Hid (∀ j, j < N → L j ≤ maxLen) := hL
  have HW1 : Hid (∀ j, j < N → L j = 65536) := hW1
  have HPP : Hid (P = 65536) := hP
  have HP : Hid (Pcs w a N P g) := hp
  have HNL : Hid ((a = none ∧ N = 0 ∧ c = 0) ∨ ∃ x, a = some x) := hnl
  have HS : Hid (Src w la m cl l) := hs
  have HT : Hid (N * P + m = T) := hT
  have HF1 : Hid (∀ j, j < N → ∀ i, i < P → F (j * P + i) = g j i) := hF1
  have HF2 : Hid (∀ i, i < m → F (N * P + i) = l i) := hF2
  have HNM : Hid (N ≤ maxLen ∧ m ≤ maxLen) := ⟨hN, hm⟩
  have hPb : P ≤ 65536 := by omega
  have d0 : decide ((n : Int) < 0) = false := decide_eq_false (by omega)
  clear hO hL hW1 hP hp hnl hs hT hF1 hF2
  unfold maxLen at hN hm
  go_enter Try.func3, Try.ntmps3
  go_wp2_with fail
  refine (bytesT _ _ _ _ _ _ _ A L C _ HNM.out.1 HNM.out.2 HL.out HO.out).mono ?_
  rintro e w0 ⟨⟨t, rfl⟩, rfl⟩
  cases t
  · go_wp2
    go_ret
    exact ⟨rfl, Below.refl _ _⟩
  go_wp2_with fail
  refine (piecesB _ _ _ _ _ _ A L C _ HNM.out.1 HNM.out.2 HL.out HO.out).mono ?_
  rintro e w0 ⟨⟨z, rfl, hz⟩, rfl⟩
  by_cases hz1 : 1048576 < z
  · clear hz
    go_wp2
    go_ret
    exact ⟨rfl, Below.refl _ _⟩
  have hN2 : N ≤ 43690 := by omega
  clear hz
  go_wp2_with fail
  refine (wellF _ _ _ _ _ _ A L C _ HNM.out.1 HNM.out.2 HL.out HO.out).mono ?_
  rintro e w0 ⟨⟨t, rfl, ht⟩, rfl⟩
  obtain rfl : t = true := ht.2 ⟨HW1.out, hm2⟩
  clear ht
  go_wp2_with fail
  refine (deepU _ _ _ P g _ hN2 (by omega) HP.out HNL.out).mono ?_
  rintro e w1 ⟨fa, rfl, hd1, hb1, hi1⟩
  have HD1 : Hid (HasDeep w1 fa w0.heap.size N P g) := hd1
  have HB1 : Hid (Below w0.heap.size w0 w1) := hb1
  have HS1 : Hid (Src w1 la m cl l) := by
    rcases HS.out with h | ⟨x, e, h⟩
    · exact .inl h
    · exact .inr ⟨x, e, fun i hi => cell_later hb1 (h i hi)⟩
  clear hd1 hb1 hi1
  go_wp2_with fail
  refine (copyU _ _ _ l _ (by omega) HS1.out).mono ?_
  rintro e w2 ⟨lb, rfl, hd2, hb2, hi2⟩
  have HD2 : Hid (HasRow w2 lb w1.heap.size m l) := hd2
  have HB2 : Hid (Below w1.heap.size w1 w2) := hb2
  clear hd2 hb2 hi2
  have hTb : T ≤ 4294967296 := by
    have h1 := HT.out
    have h2 := Nat.mul_le_mul_right P hN2
    have h3 := Nat.mul_le_mul_left 43690 hPb
    omega
  go_wp2_with fail
  refine (flat _ _ _ _ _ _ P T g l F _ HT.out hTb hN2 (by omega) (HD1.out.keep HB2.out.block).pcs HD2.out.reads HF1.out HF2.out).mono ?_
  rintro e w3 ⟨rfl, hd3, hb3, hs3⟩
  have HD3 : Hid (w3.rowIs w2.heap.size 5 T (fun k => .int .u8 (F k))) := hd3
  have HB3 : Hid (Below w2.heap.size w2 w3) := hb3
  clear hd3 hb3 hs3
  go_wp2_with fail
  refine (deepU _ _ _ P g _ hN2 (by omega) ((HD1.out.keep HB2.out.block).keep HB3.out.block).pcs HD1.out.nilOr).mono ?_
  rintro e w4 ⟨fc, rfl, hd4, hb4, hi4⟩
  have HD4 : Hid (HasDeep w4 fc w3.heap.size N P g) := hd4
  have HB4 : Hid (Below w3.heap.size w3 w4) := hb4
  have HI4 : Hid (fc.isNone = fa.isNone) := hi4
  clear hd4 hb4 hi4
  go_wp2_with fail
  refine (copyU _ _ _ l _ (by omega) ((HD2.out.keep HB3.out.block).keep HB4.out.block).src).mono ?_
  rintro e w5 ⟨lc, rfl, hd5, hb5, hi5⟩
  have HD5 : Hid (HasRow w5 lc w4.heap.size m l) := hd5
  have HB5 : Hid (Below w4.heap.size w4 w5) := hb5
  have HI5 : Hid (lc.isNone = lb.isNone) := hi5
  clear hd5 hb5 hi5
  have hmk := hmk22 N (by omega)
  have HD45 : Hid (HasDeep w5 fc w3.heap.size N P g) := HD4.out.keep HB5.out.block
  go_wp2
  go_loopw [11] (fun i wr => ∃ k : Nat, k ≤ N ∧ i = .int .i64 k ∧ Hid (HoldAt w5 w3.heap.size N P k wr)) (fun i _ => N - (intOf i).toNat)
  case atStart =>
    refine ⟨0, Nat.zero_le _, rfl, ?_, (Below.refl _ _).alloc (Nat.le_refl _) _⟩
    exact (World.rowIs_made w5 (.slice none 0 0) N 23).congr (fun i _ => by simp)
  case round =>
    obtain ⟨k, hk, rfl, hat⟩ := hrel
    by_cases hlt : k < N
    · obtain ⟨rfl, hc⟩ := HD45.out.cell hlt
      have hck := cell_later hat.out.2 hc
      have hi : (k : Int) < (N : Int) := by omega
      have hcB : wr.cell? ⟨w5.heap.size, k, none⟩ = some (.slice none 0 0) := by have := hat.out.1.cell hlt; simpa using this
      have hfB : wr.frozen? ⟨w5.heap.size, k, none⟩ = false := hat.out.1.frozen k
      have HN : Hid (HoldAt w5 w3.heap.size N P (k + 1) (wr.setCell ⟨w5.heap.size, k, none⟩ (.slice (some ⟨w3.heap.size + 1 + k, 0, none⟩) P P))) := holdAt_next hat.out
      clear hc hmk
      go_wp2
      go_roundw
      case rel => exact ⟨k + 1, hlt, by go_num, HN⟩
      case measure => simp [intOf]; omega
    · obtain rfl : k = N := by omega
      have HH : Hid (Hands w0 wr fa lb fc lc w0.heap.size w1.heap.size w2.heap.size w3.heap.size w4.heap.size w5.heap.size k P m T g l F) := hands HD1.out HB1.out HD2.out HB2.out HD3.out HB3.out HD4.out HB4.out HD5.out HB5.out hat.out
      obtain ⟨B2, hB2⟩ : ∃ B2, w1.heap.size = B2 := ⟨_, rfl⟩
      obtain ⟨B3, hB3⟩ : ∃ B3, w2.heap.size = B3 := ⟨_, rfl⟩
      obtain ⟨B4, hB4⟩ : ∃ B4, w3.heap.size = B4 := ⟨_, rfl⟩
      obtain ⟨B5, hB5⟩ : ∃ B5, w4.heap.size = B5 := ⟨_, rfl⟩
      obtain ⟨B6, hB6⟩ : ∃ B6, w5.heap.size = B6 := ⟨_, rfl⟩
      rw [hB2, hB3, hB4, hB5, hB6] at HH
      rw [hB3, hB6]
      clear hB2 hB3 hB4 hB5 hB6 hat HD1 HB1 HD2 HB2 HD3 HB3 HD4 HB4 HD5 HB5 HD45 HS HS1 HP HO HL HW1 HNL hmk HNM hN hm hlt
      have q22 := hnil22
      have q23 := hnil
      have hI4 : fc.isNone = fa.isNone := HI4.out
      have hI5 : lc.isNone = lb.isNone := HI5.out
      go_wp2_with fail
      refine (zt_all _ _ _ _ _ _ _ _ hN2 (by omega) (by have h1 := HT.out; have h2 := HPP.out; subst h2; omega)).mono ?_
      rintro e w7 ⟨rfl, hb7⟩
      have H7 : Hid (Hands w0 w7 fa lb fc lc w0.heap.size B2 B3 B4 B5 B6 k P m T g l F) := HH.out.later hb7
      have HPC : Hid (∀ j, j < k → Reads w7 (some ⟨B4 + 1 + j, 0, none⟩) P (g j)) := fun j hj => H7.out.fc.piece hj
      clear hb7 HH
      have hTn : (T : Int) ≤ (n : Int) := by omega
      go_wp2_with fail
      refine (eq_yes _ _ _ _ _ l _ (by omega) H7.out.lc.reads H7.out.last.reads).mono ?_
      rintro e w8 ⟨rfl, q8, rfl⟩
      go_wp2
      go_loopw [14] (fun i wr => ∃ j : Nat, j ≤ k ∧ i = .int .i64 j ∧ Hid (∃ q, wr = w7.drewN q)) (fun i _ => k - (intOf i).toNat)
      case atStart => exact ⟨0, Nat.zero_le _, rfl, ⟨q8, rfl⟩⟩
      case round =>
        obtain ⟨j, hj, rfl, hw⟩ := hrel
        by_cases hlt : j < k
        · have hi : (j : Int) < (k : Int) := by omega
          obtain ⟨rfl, hcf⟩ := H7.out.full.cell hlt
          have hcf' := drewN_cell hw.out hcf
          have hch' := drewN_cell hw.out (H7.out.hold.cell hlt)
          have R1 : Hid (Reads wr (some ⟨B4 + 1 + j, 0, none⟩) P (g j)) := reads_of hw.out (HPC.out j hlt)
          have R2 : Hid (Reads wr (some ⟨w0.heap.size + 1 + j, 0, none⟩) P (g j)) := reads_of hw.out (H7.out.full.piece hlt)
          clear hcf
          go_wp2
          go_quiet ((go_at_call 14; exact Calls.quiet_of (eq_yes _ _ _ _ _ (g j) _ (by omega) (reads_drewN R1.out _) (reads_drewN R2.out _))))
          go_wp2
          go_roundw
          case rel => exact ⟨j + 1, hlt, by go_num, drewN_more hw.out _⟩
          case measure => simp [intOf]; omega
        · obtain rfl : j = k := by omega
          go_wp2
          go_loopw [15] (fun i wr => ∃ s : Nat, s ≤ j ∧ i = .int .i64 s ∧ Hid (∃ q, wr = w7.drewN q)) (fun i _ => j - (intOf i).toNat)
          case atStart => exact ⟨0, Nat.zero_le _, rfl, hw⟩
          case round =>
            obtain ⟨s, hs, rfl, hw2⟩ := hrel
            by_cases hlt : s < j
            · have hi : (s : Int) < (j : Int) := by omega
              obtain ⟨rfl, hcf⟩ := H7.out.full.cell hlt
              obtain ⟨rfl, hcc⟩ := H7.out.fc.cell hlt
              have hcf' := drewN_cell hw2.out hcf
              have hcc' := drewN_cell hw2.out hcc
              have R1 : Hid (Reads wr (some ⟨B4 + 1 + s, 0, none⟩) P (g s)) := reads_of hw2.out (HPC.out s hlt)
              have R2 : Hid (Reads wr (some ⟨w0.heap.size + 1 + s, 0, none⟩) P (g s)) := reads_of hw2.out (H7.out.full.piece hlt)
              clear hcf hcc
              go_wp2
              go_quiet ((go_at_call 14; exact Calls.quiet_of (eq_yes _ _ _ _ _ (g s) _ (by omega) (reads_drewN R1.out _) (reads_drewN R2.out _))))
              go_wp2
              go_roundw
              case rel => exact ⟨s + 1, hlt, by go_num, drewN_more hw2.out _⟩
              case measure => simp [intOf]; omega
            · obtain rfl : s = j := by omega
              go_wp2_with fail
              refine (eq_yes _ _ _ _ _ l _ (by omega) (reads_of hw2.out H7.out.lc.reads) (reads_of hw2.out H7.out.last.reads)).mono ?_
              rintro e w9 ⟨rfl, q9, rfl⟩
              go_wp2
              go_ret
              exact ⟨rfl, below_more (below_of H7.out.below hw2.out) _⟩
end Go.Proofs.Qxb6604239a.trunc
