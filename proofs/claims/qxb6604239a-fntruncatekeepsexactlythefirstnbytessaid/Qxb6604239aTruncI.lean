import Derived.Test.Qxb6604239aTruncH
namespace Go.Proofs.Qxb6604239a.trunc
open Go.ChangeShapes Go.WideShapes Go.ChangeAt Go.RowKit
open Go.Proofs.Qxb6604239a.esc Go.Proofs.Qxb6604239a.copy
set_option linter.unusedVariables false

theorem hneq23 (w : World) (a : Option Addr) (n c n' c' : Nat) : (binOp .neq 23 (.slice a n c) (.slice none n' c')).run Try.prog w = .ok (.bool (!a.isNone)) w := run_neq_slice_nil_any w _ _ a n c n' c' Try.underlying23

theorem Hands.cut {w0 w6 w7 : World} {fa la lca : Option Addr} {B1 B2 B3 B4 B5 B6 N P m T : Nat} {g : Nat → Nat → Int} {l F : Nat → Int} (h : Hands w0 w6 fa la (some ⟨B4, 0, none⟩) lca B1 B2 B3 B4 B5 B6 N P m T g l F) (hg : w6.grownBy w7 (some B4)) (hN : 0 < N) :
    Held w0 w7 fa la lca B1 B2 B3 B4 B5 B6 N P m T g l F := by
  obtain ⟨h5, h6⟩ := h.apart5 rfl
  have blk : ∀ k, k < w6.heap.size → k ≠ B4 → w7.heap[k]? = w6.heap[k]? := fun k hk hne => hg.block k hk (fun e => hne (by injection e))
  refine ⟨?_, ?_, h.bef.of_block (blk _ h.bef.lt (by have := h.apart3; omega)), ?_, h.hold.of_block (blk _ h.hold.lt (by omega)), ?_, ?_⟩
  · rcases h.full with hh | ⟨e, h1, h2⟩
    · exact .inl hh
    · have ha := h.apart1 e
      exact .inr ⟨e, h1.of_block (blk _ h1.lt (by omega)), fun j hj => (h2 j hj).of_block (blk _ (h2 j hj).lt (by omega))⟩
  · rcases h.last with hh | ⟨e, h1⟩
    · exact .inl hh
    · rcases h.apart2 with ha | ha
      · exact .inr ⟨e, h1.of_block (blk _ h1.lt (by omega))⟩
      · subst ha
        by_cases eb : B2 = B4
        · subst eb
          rcases h.fc with ⟨hh, _⟩ | ⟨_, hr, _⟩
          · cases hh
          · obtain ⟨c1, hc1, _, _⟩ := h1
            obtain ⟨c2, hc2, _, _⟩ := hr
            rw [hc1] at hc2
            injection hc2 with hc2
            injection hc2 with _ hc2
            cases hc2
        · exact .inr ⟨e, h1.of_block (blk _ h1.lt eb)⟩
  · rcases h.lc with hh | ⟨e, h1⟩
    · exact .inl hh
    · exact .inr ⟨e, h1.of_block (blk _ h1.lt (by omega))⟩
  · exact h.below.grown hg h.below.size (fun k hk => by injection hk with hk; have := h.old; omega)
  · intro j hj
    rcases h.fc with ⟨hh, _⟩ | ⟨_, _, h2⟩
    · cases hh
    · exact .inr ⟨_, 0, rfl, fun i hi => by rw [Nat.zero_add]; exact ((h2 j hj).of_block (blk _ (h2 j hj).lt (by omega))).cell hi⟩

theorem reads_below {w w' : World} {a : Option Addr} {n : Nat} {f : Nat → Int} (hb : Below w.heap.size w w') (h : Reads w a n f) : Reads w' a n f := by
  rcases h with h | ⟨b, off, e, hc⟩
  · exact .inl h
  · exact .inr ⟨b, off, e, fun i hi => cell_later hb (hc i hi)⟩
theorem row_of {w wr : World} {B t n : Nat} {f : Nat → Value} (hq : ∃ q, wr = w.drewN q) (h : w.rowIs B t n f) : wr.rowIs B t n f := by
  obtain ⟨q, rfl⟩ := hq
  exact h


set_option maxHeartbeats 4000000 in
set_option maxRecDepth 20000 in
theorem law_full (a la : Option Addr) (N c m cl P T : Nat) (A : Nat → Option Addr) (L C : Nat → Nat) (g : Nat → Nat → Int) (l F : Nat → Int) (n : Nat) (w : World) (hN : N ≤ maxLen) (hm : m ≤ maxLen) (hnb : (n : Int) ≤ 9223372036854775807) (hL : ∀ j, j < N → L j ≤ maxLen) (hO : Outer w a N A L C)
    (hW1 : ∀ j, j < N → L j = 65536) (hm2 : m ≤ 65536) (hP : P = 65536) (hp : Pcs w a N P g) (hnl : (a = none ∧ N = 0 ∧ c = 0) ∨ ∃ x, a = some x) (hs : Src w la m cl l) (hT : N * P + m = T)
    (hF1 : ∀ j, j < N → ∀ i, i < P → F (j * P + i) = g j i) (hF2 : ∀ i, i < m → F (N * P + i) = l i)
    (i0 r : Nat) (hn : n = i0 * 65536 + r) (hr : r < 65536) (hi0 : i0 < N) :
    Calls Try.prog 3 #[.slice a N c, .slice la m cl, .int .i64 (n : Int)] w fun e w' => e = .returned (.bool true) ∧ Below w.heap.size w w' := by
  have HNR : Hid (n = i0 * 65536 + r) := hn
  have hrP : r ≤ P := by omega
  have hnT : n < T := by subst hP; omega
  clear hn
  have HO : Hid (Outer w a N A L C) := hO
  have HL : Hid (∀ j, j < N → L j ≤ maxLen) := hL
  have HW1 : Hid (∀ j, j < N → L j = 65536) := hW1
  have HPP : Hid (P = 65536) := hP
  have HP : Hid (Pcs w a N P g) := hp
  have HNL : Hid ((a = none ∧ N = 0 ∧ c = 0) ∨ ∃ x, a = some x) := hnl
  have HS : Hid (Src w la m cl l) := hs
  have HT : Hid (N * P + m = T) := hT
  have HF1 : Hid (∀ j, j < N → ∀ i, i < P → F (j * P + i) = g j i) := hF1
  have HF2 : Hid (∀ i, i < m → F (N * P + i) = l i) := hF2
  have HNM : Hid (N ≤ maxLen ∧ m ≤ maxLen) := ⟨hN, hm⟩
  have hPb : P ≤ 65536 := by omega
  have d0 : decide ((n : Int) < 0) = false := decide_eq_false (by omega)
  clear hO hL hW1 hP hp hnl hs hT hF1 hF2
  unfold maxLen at hN hm
  go_enter Try.func3, Try.ntmps3
  go_wp2_with fail
  refine (bytesT _ _ _ _ _ _ _ A L C _ HNM.out.1 HNM.out.2 HL.out HO.out).mono ?_
  rintro e w0 ⟨⟨t, rfl⟩, rfl⟩
  cases t
  · go_wp2
    go_ret
    exact ⟨rfl, Below.refl _ _⟩
  go_wp2_with fail
  refine (piecesB _ _ _ _ _ _ A L C _ HNM.out.1 HNM.out.2 HL.out HO.out).mono ?_
  rintro e w0 ⟨⟨z, rfl, hz⟩, rfl⟩
  by_cases hz1 : 1048576 < z
  · clear hz
    go_wp2
    go_ret
    exact ⟨rfl, Below.refl _ _⟩
  have hN2 : N ≤ 43690 := by omega
  clear hz
  go_wp2_with fail
  refine (wellF _ _ _ _ _ _ A L C _ HNM.out.1 HNM.out.2 HL.out HO.out).mono ?_
  rintro e w0 ⟨⟨t, rfl, ht⟩, rfl⟩
  obtain rfl : t = true := ht.2 ⟨HW1.out, hm2⟩
  clear ht
  go_wp2_with fail
  refine (deepU _ _ _ P g _ hN2 (by omega) HP.out HNL.out).mono ?_
  rintro e w1 ⟨fa, rfl, hd1, hb1, hi1⟩
  have HD1 : Hid (HasDeep w1 fa w0.heap.size N P g) := hd1
  have HB1 : Hid (Below w0.heap.size w0 w1) := hb1
  have HS1 : Hid (Src w1 la m cl l) := by
    rcases HS.out with h | ⟨x, e, h⟩
    · exact .inl h
    · exact .inr ⟨x, e, fun i hi => cell_later hb1 (h i hi)⟩
  clear hd1 hb1 hi1
  go_wp2_with fail
  refine (copyU _ _ _ l _ (by omega) HS1.out).mono ?_
  rintro e w2 ⟨lb, rfl, hd2, hb2, hi2⟩
  have HD2 : Hid (HasRow w2 lb w1.heap.size m l) := hd2
  have HB2 : Hid (Below w1.heap.size w1 w2) := hb2
  clear hd2 hb2 hi2
  have hTb : T ≤ 4294967296 := by
    have h1 := HT.out
    have h2 := Nat.mul_le_mul_right P hN2
    have h3 := Nat.mul_le_mul_left 43690 hPb
    omega
  go_wp2_with fail
  refine (flat _ _ _ _ _ _ P T g l F _ HT.out hTb hN2 (by omega) (HD1.out.keep HB2.out.block).pcs HD2.out.reads HF1.out HF2.out).mono ?_
  rintro e w3 ⟨rfl, hd3, hb3, hs3⟩
  have HD3 : Hid (w3.rowIs w2.heap.size 5 T (fun k => .int .u8 (F k))) := hd3
  have HB3 : Hid (Below w2.heap.size w2 w3) := hb3
  clear hd3 hb3 hs3
  go_wp2_with fail
  refine (deepU _ _ _ P g _ hN2 (by omega) ((HD1.out.keep HB2.out.block).keep HB3.out.block).pcs HD1.out.nilOr).mono ?_
  rintro e w4 ⟨fc, rfl, hd4, hb4, hi4⟩
  have HD4 : Hid (HasDeep w4 fc w3.heap.size N P g) := hd4
  have HB4 : Hid (Below w3.heap.size w3 w4) := hb4
  have HI4 : Hid (fc.isNone = fa.isNone) := hi4
  clear hd4 hb4 hi4
  go_wp2_with fail
  refine (copyU _ _ _ l _ (by omega) ((HD2.out.keep HB3.out.block).keep HB4.out.block).src).mono ?_
  rintro e w5 ⟨lc, rfl, hd5, hb5, hi5⟩
  have HD5 : Hid (HasRow w5 lc w4.heap.size m l) := hd5
  have HB5 : Hid (Below w4.heap.size w4 w5) := hb5
  have HI5 : Hid (lc.isNone = lb.isNone) := hi5
  clear hd5 hb5 hi5
  have hmk := hmk22 N (by omega)
  have HD45 : Hid (HasDeep w5 fc w3.heap.size N P g) := HD4.out.keep HB5.out.block
  go_wp2
  go_loopw [11] (fun i wr => ∃ k : Nat, k ≤ N ∧ i = .int .i64 k ∧ Hid (HoldAt w5 w3.heap.size N P k wr)) (fun i _ => N - (intOf i).toNat)
  case atStart =>
    refine ⟨0, Nat.zero_le _, rfl, ?_, (Below.refl _ _).alloc (Nat.le_refl _) _⟩
    exact (World.rowIs_made w5 (.slice none 0 0) N 23).congr (fun i _ => by simp)
  case round =>
    obtain ⟨k, hk, rfl, hat⟩ := hrel
    by_cases hlt : k < N
    · obtain ⟨rfl, hc⟩ := HD45.out.cell hlt
      have hck := cell_later hat.out.2 hc
      have hi : (k : Int) < (N : Int) := by omega
      have hcB : wr.cell? ⟨w5.heap.size, k, none⟩ = some (.slice none 0 0) := by have := hat.out.1.cell hlt; simpa using this
      have hfB : wr.frozen? ⟨w5.heap.size, k, none⟩ = false := hat.out.1.frozen k
      have HN : Hid (HoldAt w5 w3.heap.size N P (k + 1) (wr.setCell ⟨w5.heap.size, k, none⟩ (.slice (some ⟨w3.heap.size + 1 + k, 0, none⟩) P P))) := holdAt_next hat.out
      clear hc hmk
      go_wp2
      go_roundw
      case rel => exact ⟨k + 1, hlt, by go_num, HN⟩
      case measure => simp [intOf]; omega
    · obtain rfl : k = N := by omega
      have HH : Hid (Hands w0 wr fa lb fc lc w0.heap.size w1.heap.size w2.heap.size w3.heap.size w4.heap.size w5.heap.size k P m T g l F) := hands HD1.out HB1.out HD2.out HB2.out HD3.out HB3.out HD4.out HB4.out HD5.out HB5.out hat.out
      obtain ⟨B2, hB2⟩ : ∃ B2, w1.heap.size = B2 := ⟨_, rfl⟩
      obtain ⟨B3, hB3⟩ : ∃ B3, w2.heap.size = B3 := ⟨_, rfl⟩
      obtain ⟨B4, hB4⟩ : ∃ B4, w3.heap.size = B4 := ⟨_, rfl⟩
      obtain ⟨B5, hB5⟩ : ∃ B5, w4.heap.size = B5 := ⟨_, rfl⟩
      obtain ⟨B6, hB6⟩ : ∃ B6, w5.heap.size = B6 := ⟨_, rfl⟩
      rw [hB2, hB3, hB4, hB5, hB6] at HH
      rw [hB3, hB6]
      clear hB2 hB3 hB4 hB5 hB6 hat HD1 HB1 HD2 HB2 HD3 HB3 HD4 HB4 HD5 HB5 HD45 HS HS1 HP HO HL HW1 HNL hmk HNM hN hm hlt
      have q22 := hnil22
      have q23 := hnil
      have q23n := hneq23
      have hfn : fa.isNone = false := by rw [(HH.out.full.cell hi0).1]; rfl
      obtain rfl := (HH.out.fc.cell hi0).1
      have HRow : Hid (wr.rowIs B4 23 k (fun s => .slice (some ⟨B4 + 1 + s, 0, none⟩) P P)) := by
        rcases HH.out.fc with ⟨h, _⟩ | ⟨_, h, _⟩
        · cases h
        · exact h
      go_wp2_with fail
      refine (zt_full B4 k m m i0 r (B4 + 1 + i0) 0 P _ n (fun s => .slice (some ⟨B4 + 1 + s, 0, none⟩) P P) wr hN2 (by omega) hi0 hPb HRow.out rfl HNR.out hr hrP).mono ?_
      rintro e w7 ⟨rfl, hg7, hr7⟩
      have H7 : Hid (Held w0 w7 fa lb lc w0.heap.size B2 B3 B4 B5 B6 k P m T g l F) := HH.out.cut hg7 (by omega)
      have HPC : Hid (∀ j, j < k → Reads w7 (some ⟨B4 + 1 + j, 0, none⟩) P (g j)) := H7.out.pcs
      have HR7 : Hid (w7.rowIs B4 23 k (fun s => if i0 ≤ s ∧ s < k then .slice none 0 0 else .slice (some ⟨B4 + 1 + s, 0, none⟩) P P)) := hr7
      clear hg7 hr7 HH HRow
      have hTn : decide ((T : Int) ≤ (n : Int)) = false := decide_eq_false (by omega)
      go_wp2_with fail
      refine (eq_yes _ _ _ _ _ l _ (by omega) H7.out.lc.reads H7.out.last.reads).mono ?_
      rintro e w8 ⟨rfl, q8, rfl⟩
      go_wp2
      go_loopw [14] (fun i wr => ∃ j : Nat, j ≤ k ∧ i = .int .i64 j ∧ Hid (∃ q, wr = w7.drewN q)) (fun i _ => k - (intOf i).toNat)
      case atStart => exact ⟨0, Nat.zero_le _, rfl, ⟨q8, rfl⟩⟩
      case round =>
        obtain ⟨j, hj, rfl, hw⟩ := hrel
        by_cases hlt : j < k
        · have hi : (j : Int) < (k : Int) := by omega
          obtain ⟨rfl, hcf⟩ := H7.out.full.cell hlt
          have hcf' := drewN_cell hw.out hcf
          have hch' := drewN_cell hw.out (H7.out.hold.cell hlt)
          have R1 : Hid (Reads wr (some ⟨B4 + 1 + j, 0, none⟩) P (g j)) := reads_of hw.out (HPC.out j hlt)
          have R2 : Hid (Reads wr (some ⟨w0.heap.size + 1 + j, 0, none⟩) P (g j)) := reads_of hw.out (H7.out.full.piece hlt)
          clear hcf
          go_wp2
          go_quiet ((go_at_call 14; exact Calls.quiet_of (eq_yes _ _ _ _ _ (g j) _ (by omega) (reads_drewN R1.out _) (reads_drewN R2.out _))))
          go_wp2
          go_roundw
          case rel => exact ⟨j + 1, hlt, by go_num, drewN_more hw.out _⟩
          case measure => simp [intOf]; omega
        · obtain rfl : j = k := by omega
          have H8 : Hid (Held w0 wr fa lb lc w0.heap.size B2 B3 B4 B5 B6 j P m T g l F) := H7.out.of hw.out
          have HR8 : Hid (wr.rowIs B4 23 j (fun s => if i0 ≤ s ∧ s < j then .slice none 0 0 else .slice (some ⟨B4 + 1 + s, 0, none⟩) P P)) := row_of hw.out HR7.out
          clear hw H7 HR7 HPC
          have HOut : Hid (Outer wr (some ⟨B4, 0, none⟩) i0 (fun s => some ⟨B4 + 1 + s, 0, none⟩) (fun _ => P) (fun _ => P)) := .inr ⟨B4, 0, rfl, fun s hs => by rw [Nat.zero_add, HR8.out.cell (by omega), if_neg (by omega)]⟩
          have HPcs : Hid (Pcs wr (some ⟨B4, 0, none⟩) i0 P g) := .inr ⟨B4, 0, rfl, fun s hs => ⟨B4 + 1 + s, 0, P, by rw [Nat.zero_add, HR8.out.cell (by omega), if_neg (by omega)], fun i hi => by
            rcases H8.out.pcs s (by omega) with h | ⟨b, off, e, hc⟩
            · omega
            · injection e with e; injection e with e1 e2; subst e1; subst e2; exact hc i hi⟩⟩
          have HRd : Hid (Reads wr (some ⟨B4 + 1 + i0, 0, none⟩) r (g i0)) := (H8.out.pcs i0 (by omega)).short hrP
          have e65 : ((r : Int) == 65536) = false := by simp; omega
          have hTr : Hid (i0 * P + r = n) := (show i0 * P + r = n by have h1 := HNR.out; have h2 := HPP.out; subst h2; omega)
          have hi2 : (i0 : Int) ≤ (j : Int) := by omega
          go_wp2_with fail
          refine (wellF _ _ _ _ _ _ (fun s => some ⟨B4 + 1 + s, 0, none⟩) (fun _ => P) (fun _ => P) _ (by unfold maxLen; omega) (by unfold maxLen; omega) (fun _ _ => by unfold maxLen; omega) HOut.out).mono ?_
          rintro e w9 ⟨⟨t, rfl, ht⟩, rfl⟩
          obtain rfl : t = true := ht.2 ⟨fun _ _ => HPP.out, by omega⟩
          clear ht
          go_wp2
          have hsl : n ≤ T := by omega
          go_region_with (first | (go_at_call 12; refine (flat _ _ _ _ _ _ P n g (g i0) F _ hTr.out (by omega) (by omega) (by omega) (pcs_drew HPcs.out) (reads_drew HRd.out) (fun s hs => HF1.out s (by omega)) (fun i hi => HF1.out i0 hi0 i (by omega))).mono ?_; rintro e w10 ⟨rfl, hd10, hb10, hs10⟩) | (go_at_call 14; refine (eq_bigS _ _ _ _ _ _ _ F _ (by omega) (reads_row hd10 (Nat.le_refl _)) (reads_row (H8.out.bef.of_block (hb10.block B3 H8.out.bef.lt)) hsl)).mono ?_; rintro e w11 ⟨rfl, q11, rfl⟩))
          have H10 : Hid (HasDeep w10 fa w0.heap.size j P g) := H8.out.full.keep hb10.block
          have HR10 : Hid (w10.rowIs B4 23 j (fun s => if i0 ≤ s ∧ s < j then .slice none 0 0 else .slice (some ⟨B4 + 1 + s, 0, none⟩) P P)) := HR8.out.of_block (hb10.block B4 HR8.out.lt)
          have HPC10 : Hid (∀ s, s < j → Reads w10 (some ⟨B4 + 1 + s, 0, none⟩) P (g s)) := fun s hs => reads_below (show Below w9.heap.size w9 w10 from ⟨hb10.os, hb10.tape, hb10.output, hb10.size, hb10.block⟩) (H8.out.pcs s hs)
          have HB10 : Hid (Below w0.heap.size w0 w10) := H8.out.below.trans ((show Below w9.heap.size w9 w10 from ⟨hb10.os, hb10.tape, hb10.output, hb10.size, hb10.block⟩).mono H8.out.below.size)
          clear hd10 hb10 hs10 H8 HR8 HOut HPcs HRd
          go_wp2
          go_loopw [16] (fun i wr => ∃ s : Nat, s ≤ j ∧ i = .int .i64 s ∧ Hid (∃ q, wr = w10.drewN q)) (fun i _ => j - (intOf i).toNat)
          case atStart => exact ⟨0, Nat.zero_le _, rfl, ⟨_, rfl⟩⟩
          case round =>
            obtain ⟨s, hs, rfl, hw2⟩ := hrel
            by_cases hlt : s < j
            · have hi : (s : Int) < (j : Int) := by omega
              by_cases hsi : s < i0
              · obtain ⟨rfl, hcf⟩ := H10.out.cell hlt
                have hcc : w10.cell? ⟨B4, s, none⟩ = some (.slice (some ⟨B4 + 1 + s, 0, none⟩) P P) := by rw [HR10.out.cell hlt, if_neg (by omega)]
                have hcf' := drewN_cell hw2.out hcf
                have hcc' := drewN_cell hw2.out hcc
                have R1 : Hid (Reads wr (some ⟨B4 + 1 + s, 0, none⟩) P (g s)) := reads_of hw2.out (HPC10.out s hlt)
                have R2 : Hid (Reads wr (some ⟨w0.heap.size + 1 + s, 0, none⟩) P (g s)) := reads_of hw2.out (H10.out.piece hlt)
                have hsi' : (s : Int) < (i0 : Int) := by omega
                clear hcf hcc
                go_wp2
                go_quiet ((go_at_call 14; exact Calls.quiet_of (eq_yes _ _ _ _ _ (g s) _ (by omega) (reads_drewN R1.out _) (reads_drewN R2.out _))))
                go_wp2
                go_roundw
                case rel => exact ⟨s + 1, hlt, by go_num, drewN_more hw2.out _⟩
                case measure => simp [intOf]; omega
              · have hcc : w10.cell? ⟨B4, s, none⟩ = some (.slice none 0 0) := by rw [HR10.out.cell hlt, if_pos (by omega)]
                have hcc' := drewN_cell hw2.out hcc
                clear hcc
                go_wp2
                go_roundw
                case rel => exact ⟨s + 1, hlt, by go_num, hw2⟩
                case measure => simp [intOf]; omega
            · obtain rfl : s = j := by omega
              go_wp2
              go_ret
              exact ⟨rfl, below_of HB10.out hw2.out⟩
end Go.Proofs.Qxb6604239a.trunc
