import Derived.Test.Qxb6604239aTruncG
import Derived.Deep.RegionWith
namespace Go.Proofs.Qxb6604239a.trunc
open Go.ChangeShapes Go.WideShapes Go.ChangeAt Go.RowKit
open Go.Proofs.Qxb6604239a.esc Go.Proofs.Qxb6604239a.copy
set_option linter.unusedVariables false

theorem _root_.Go.Proofs.Qxb6604239a.copy.Reads.short {w : World} {a : Option Addr} {n r : Nat} {f : Nat → Int} (h : Reads w a n f) (hr : r ≤ n) : Reads w a r f := by
  rcases h with h | ⟨b, off, e, hc⟩
  · exact .inl (by omega)
  · exact .inr ⟨b, off, e, fun i hi => hc i (by omega)⟩
/-- What the law still holds behind ZZTruncate. -/
structure Held (w0 w7 : World) (fa la lca : Option Addr) (B1 B2 B3 B4 B5 B6 N P m T : Nat) (g : Nat → Nat → Int) (l F : Nat → Int) : Prop where
  full : HasDeep w7 fa B1 N P g
  last : HasRow w7 la B2 m l
  bef : w7.rowIs B3 5 T (fun k => .int .u8 (F k))
  lc : HasRow w7 lca B5 m l
  hold : w7.rowIs B6 23 N (fun j => .slice (some ⟨B4 + 1 + j, 0, none⟩) P P)
  below : Below w0.heap.size w0 w7
  pcs : ∀ j, j < N → Reads w7 (some ⟨B4 + 1 + j, 0, none⟩) P (g j)

theorem eq_bigS (b off b' off' n c c' : Nat) (f : Nat → Int) (w : World) (hx : n ≤ 4294967296) (hc : ∀ i, i < n → w.cell? ⟨b, off + i, none⟩ = some (.int .u8 (f i))) (hc' : ∀ i, i < n → w.cell? ⟨b', off' + i, none⟩ = some (.int .u8 (f i))) :
    Calls Try.prog 14 #[.slice (some ⟨b, off, none⟩) n c, .slice (some ⟨b', off', none⟩) n c'] w fun e w' => e = .returned (.bool true) ∧ ∃ q, w' = w.drewN q := by
  go_enter Try.func14, Try.ntmps14
  go_wp2
  go_loopw [5] (fun i wr => ∃ k : Nat, k ≤ n ∧ i = .int .i64 k ∧ Hid (∃ q, wr = w.drewN q)) (fun i _ => n - (intOf i).toNat)
  case atStart => exact ⟨0, Nat.zero_le _, rfl, ⟨0, rfl⟩⟩
  case round =>
    obtain ⟨k, hk, rfl, hw⟩ := hrel
    by_cases hlt : k < n
    · have hck := drewN_cell hw.out (hc k hlt)
      have hck' := drewN_cell hw.out (hc' k hlt)
      clear hc hc'
      have hi : (k : Int) < (n : Int) := by omega
      go_wp2
      go_quiet (fail)
      go_wp2
      go_roundw
      case rel => exact ⟨k + 1, hlt, by go_num, drewN_more hw.out _⟩
      case measure => simp [intOf]; omega
    · obtain rfl : k = n := by omega
      go_wp2
      go_ret
      exact ⟨rfl, hw.out⟩

/-- A row's first n bytes, read from its head. -/
theorem reads_row {w : World} {B T n : Nat} {F : Nat → Int} (h : w.rowIs B 5 T (fun k => .int .u8 (F k))) (hn : n ≤ T) : ∀ i, i < n → w.cell? ⟨B, 0 + i, none⟩ = some (.int .u8 (F i)) := fun i hi => by
  rw [Nat.zero_add]
  exact h.cell (by omega)

theorem pcs_drew {w : World} {a : Option Addr} {N P : Nat} {g : Nat → Nat → Int} (h : Pcs w a N P g) : Pcs w.drew a N P g := h
theorem reads_drew {w : World} {a : Option Addr} {n : Nat} {f : Nat → Int} (h : Reads w a n f) : Reads w.drew a n f := h
theorem HasDeep.of {w wr : World} {a : Option Addr} {B N P : Nat} {g : Nat → Nat → Int} (hq : ∃ q, wr = w.drewN q) (h : HasDeep w a B N P g) : HasDeep wr a B N P g := by
  obtain ⟨q, rfl⟩ := hq
  exact h.keep (fun _ _ => rfl)
theorem Held.of {w0 w7 wr : World} {fa la lca : Option Addr} {B1 B2 B3 B4 B5 B6 N P m T : Nat} {g : Nat → Nat → Int} {l F : Nat → Int} (hq : ∃ q, wr = w7.drewN q) (h : Held w0 w7 fa la lca B1 B2 B3 B4 B5 B6 N P m T g l F) : Held w0 wr fa la lca B1 B2 B3 B4 B5 B6 N P m T g l F := by
  obtain ⟨q, rfl⟩ := hq
  exact ⟨h.full.keep (fun _ _ => rfl), h.last.keep (fun _ _ => rfl), h.bef, h.lc.keep (fun _ _ => rfl), h.hold, below_more h.below q, fun j hj => h.pcs j hj⟩
theorem HasDeep.outer {w : World} {a : Option Addr} {B N P : Nat} {g : Nat → Nat → Int} (h : HasDeep w a B N P g) : Outer w a N (fun j => some ⟨B + 1 + j, 0, none⟩) (fun _ => P) (fun _ => P) := by
  rcases h with ⟨_, h⟩ | ⟨e, h1, _⟩
  · exact .inl h
  · exact .inr ⟨B, 0, e, fun j hj => by rw [Nat.zero_add]; exact h1.cell hj⟩

set_option maxHeartbeats 4000000 in
set_option maxRecDepth 20000 in
theorem law_last (a la : Option Addr) (N c m cl P T : Nat) (A : Nat → Option Addr) (L C : Nat → Nat) (g : Nat → Nat → Int) (l F : Nat → Int) (n : Nat) (w : World) (hN : N ≤ maxLen) (hm : m ≤ maxLen) (hnb : (n : Int) ≤ 9223372036854775807) (hL : ∀ j, j < N → L j ≤ maxLen) (hO : Outer w a N A L C)
    (hW1 : ∀ j, j < N → L j = 65536) (hm2 : m ≤ 65536) (hP : P = 65536) (hp : Pcs w a N P g) (hnl : (a = none ∧ N = 0 ∧ c = 0) ∨ ∃ x, a = some x) (hs : Src w la m cl l) (hT : N * P + m = T)
    (hF1 : ∀ j, j < N → ∀ i, i < P → F (j * P + i) = g j i) (hF2 : ∀ i, i < m → F (N * P + i) = l i)
    (r : Nat) (hn : n = N * 65536 + r) (hr : r < m) :
    Calls Try.prog 3 #[.slice a N c, .slice la m cl, .int .i64 (n : Int)] w fun e w' => e = .returned (.bool true) ∧ Below w.heap.size w w' := by
  have HNR : Hid (n = N * 65536 + r) := hn
  have hnT : n < T := by subst hP; omega
  clear hn
  have HO : Hid (Outer w a N A L C) := hO
  have HL : Hid (∀ j, j < N → L j ≤ maxLen) := hL
  have HW1 : Hid (∀ j, j < N → L j = 65536) := hW1
  have HPP : Hid (P = 65536) := hP
  have HP : Hid (Pcs w a N P g) := hp
  have HNL : Hid ((a = none ∧ N = 0 ∧ c = 0) ∨ ∃ x, a = some x) := hnl
  have HS : Hid (Src w la m cl l) := hs
  have HT : Hid (N * P + m = T) := hT
  have HF1 : Hid (∀ j, j < N → ∀ i, i < P → F (j * P + i) = g j i) := hF1
  have HF2 : Hid (∀ i, i < m → F (N * P + i) = l i) := hF2
  have HNM : Hid (N ≤ maxLen ∧ m ≤ maxLen) := ⟨hN, hm⟩
  have hPb : P ≤ 65536 := by omega
  have d0 : decide ((n : Int) < 0) = false := decide_eq_false (by omega)
  clear hO hL hW1 hP hp hnl hs hT hF1 hF2
  unfold maxLen at hN hm
  go_enter Try.func3, Try.ntmps3
  go_wp2_with fail
  refine (bytesT _ _ _ _ _ _ _ A L C _ HNM.out.1 HNM.out.2 HL.out HO.out).mono ?_
  rintro e w0 ⟨⟨t, rfl⟩, rfl⟩
  cases t
  · go_wp2
    go_ret
    exact ⟨rfl, Below.refl _ _⟩
  go_wp2_with fail
  refine (piecesB _ _ _ _ _ _ A L C _ HNM.out.1 HNM.out.2 HL.out HO.out).mono ?_
  rintro e w0 ⟨⟨z, rfl, hz⟩, rfl⟩
  by_cases hz1 : 1048576 < z
  · clear hz
    go_wp2
    go_ret
    exact ⟨rfl, Below.refl _ _⟩
  have hN2 : N ≤ 43690 := by omega
  clear hz
  go_wp2_with fail
  refine (wellF _ _ _ _ _ _ A L C _ HNM.out.1 HNM.out.2 HL.out HO.out).mono ?_
  rintro e w0 ⟨⟨t, rfl, ht⟩, rfl⟩
  obtain rfl : t = true := ht.2 ⟨HW1.out, hm2⟩
  clear ht
  go_wp2_with fail
  refine (deepU _ _ _ P g _ hN2 (by omega) HP.out HNL.out).mono ?_
  rintro e w1 ⟨fa, rfl, hd1, hb1, hi1⟩
  have HD1 : Hid (HasDeep w1 fa w0.heap.size N P g) := hd1
  have HB1 : Hid (Below w0.heap.size w0 w1) := hb1
  have HS1 : Hid (Src w1 la m cl l) := by
    rcases HS.out with h | ⟨x, e, h⟩
    · exact .inl h
    · exact .inr ⟨x, e, fun i hi => cell_later hb1 (h i hi)⟩
  clear hd1 hb1 hi1
  go_wp2_with fail
  refine (copyU _ _ _ l _ (by omega) HS1.out).mono ?_
  rintro e w2 ⟨lb, rfl, hd2, hb2, hi2⟩
  have HD2 : Hid (HasRow w2 lb w1.heap.size m l) := hd2
  have HB2 : Hid (Below w1.heap.size w1 w2) := hb2
  clear hd2 hb2 hi2
  have hTb : T ≤ 4294967296 := by
    have h1 := HT.out
    have h2 := Nat.mul_le_mul_right P hN2
    have h3 := Nat.mul_le_mul_left 43690 hPb
    omega
  go_wp2_with fail
  refine (flat _ _ _ _ _ _ P T g l F _ HT.out hTb hN2 (by omega) (HD1.out.keep HB2.out.block).pcs HD2.out.reads HF1.out HF2.out).mono ?_
  rintro e w3 ⟨rfl, hd3, hb3, hs3⟩
  have HD3 : Hid (w3.rowIs w2.heap.size 5 T (fun k => .int .u8 (F k))) := hd3
  have HB3 : Hid (Below w2.heap.size w2 w3) := hb3
  clear hd3 hb3 hs3
  go_wp2_with fail
  refine (deepU _ _ _ P g _ hN2 (by omega) ((HD1.out.keep HB2.out.block).keep HB3.out.block).pcs HD1.out.nilOr).mono ?_
  rintro e w4 ⟨fc, rfl, hd4, hb4, hi4⟩
  have HD4 : Hid (HasDeep w4 fc w3.heap.size N P g) := hd4
  have HB4 : Hid (Below w3.heap.size w3 w4) := hb4
  have HI4 : Hid (fc.isNone = fa.isNone) := hi4
  clear hd4 hb4 hi4
  go_wp2_with fail
  refine (copyU _ _ _ l _ (by omega) ((HD2.out.keep HB3.out.block).keep HB4.out.block).src).mono ?_
  rintro e w5 ⟨lc, rfl, hd5, hb5, hi5⟩
  have HD5 : Hid (HasRow w5 lc w4.heap.size m l) := hd5
  have HB5 : Hid (Below w4.heap.size w4 w5) := hb5
  have HI5 : Hid (lc.isNone = lb.isNone) := hi5
  clear hd5 hb5 hi5
  have hmk := hmk22 N (by omega)
  have HD45 : Hid (HasDeep w5 fc w3.heap.size N P g) := HD4.out.keep HB5.out.block
  go_wp2
  go_loopw [11] (fun i wr => ∃ k : Nat, k ≤ N ∧ i = .int .i64 k ∧ Hid (HoldAt w5 w3.heap.size N P k wr)) (fun i _ => N - (intOf i).toNat)
  case atStart =>
    refine ⟨0, Nat.zero_le _, rfl, ?_, (Below.refl _ _).alloc (Nat.le_refl _) _⟩
    exact (World.rowIs_made w5 (.slice none 0 0) N 23).congr (fun i _ => by simp)
  case round =>
    obtain ⟨k, hk, rfl, hat⟩ := hrel
    by_cases hlt : k < N
    · obtain ⟨rfl, hc⟩ := HD45.out.cell hlt
      have hck := cell_later hat.out.2 hc
      have hi : (k : Int) < (N : Int) := by omega
      have hcB : wr.cell? ⟨w5.heap.size, k, none⟩ = some (.slice none 0 0) := by have := hat.out.1.cell hlt; simpa using this
      have hfB : wr.frozen? ⟨w5.heap.size, k, none⟩ = false := hat.out.1.frozen k
      have HN : Hid (HoldAt w5 w3.heap.size N P (k + 1) (wr.setCell ⟨w5.heap.size, k, none⟩ (.slice (some ⟨w3.heap.size + 1 + k, 0, none⟩) P P))) := holdAt_next hat.out
      clear hc hmk
      go_wp2
      go_roundw
      case rel => exact ⟨k + 1, hlt, by go_num, HN⟩
      case measure => simp [intOf]; omega
    · obtain rfl : k = N := by omega
      have HH : Hid (Hands w0 wr fa lb fc lc w0.heap.size w1.heap.size w2.heap.size w3.heap.size w4.heap.size w5.heap.size k P m T g l F) := hands HD1.out HB1.out HD2.out HB2.out HD3.out HB3.out HD4.out HB4.out HD5.out HB5.out hat.out
      obtain ⟨B2, hB2⟩ : ∃ B2, w1.heap.size = B2 := ⟨_, rfl⟩
      obtain ⟨B3, hB3⟩ : ∃ B3, w2.heap.size = B3 := ⟨_, rfl⟩
      obtain ⟨B4, hB4⟩ : ∃ B4, w3.heap.size = B4 := ⟨_, rfl⟩
      obtain ⟨B5, hB5⟩ : ∃ B5, w4.heap.size = B5 := ⟨_, rfl⟩
      obtain ⟨B6, hB6⟩ : ∃ B6, w5.heap.size = B6 := ⟨_, rfl⟩
      rw [hB2, hB3, hB4, hB5, hB6] at HH
      rw [hB3, hB6]
      clear hB2 hB3 hB4 hB5 hB6 hat HD1 HB1 HD2 HB2 HD3 HB3 HD4 HB4 HD5 HB5 HD45 HS HS1 HP HO HL HW1 HNL hmk HNM hN hm hlt
      have q22 := hnil22
      have q23 := hnil
      have hI4 : fc.isNone = fa.isNone := HI4.out
      obtain ⟨rfl, hlcr⟩ : lc = some ⟨B5, 0, none⟩ ∧ 0 < m := by
        rcases HH.out.lc with ⟨_, h⟩ | ⟨h, _⟩
        · omega
        · exact ⟨h, by omega⟩
      go_wp2_with fail
      refine (zt_last _ _ _ _ B5 0 _ n r _ hN2 hm2 (Nat.le_refl _) HNR.out hr).mono ?_
      rintro e w7 ⟨rfl, hb7⟩
      have H6 : Hid (Hands w0 w7 fa lb fc (some ⟨B5, 0, none⟩) w0.heap.size B2 B3 B4 B5 B6 k P m T g l F) := HH.out.later hb7
      have HPC : Hid (∀ j, j < k → Reads w7 (some ⟨B4 + 1 + j, 0, none⟩) P (g j)) := fun j hj => H6.out.fc.piece hj
      have H7 : Hid (Held w0 w7 fa lb (some ⟨B5, 0, none⟩) w0.heap.size B2 B3 B4 B5 B6 k P m T g l F) := ⟨H6.out.full, H6.out.last, H6.out.bef, H6.out.lc, H6.out.hold, H6.out.below, HPC.out⟩
      clear hb7 HH
      have hTn : decide ((T : Int) ≤ (n : Int)) = false := decide_eq_false (by omega)
      go_wp2_with fail
      refine (eq_yes _ _ _ _ _ l _ (by omega) H7.out.lc.reads H7.out.last.reads).mono ?_
      rintro e w8 ⟨rfl, q8, rfl⟩
      go_wp2
      go_loopw [14] (fun i wr => ∃ j : Nat, j ≤ k ∧ i = .int .i64 j ∧ Hid (∃ q, wr = w7.drewN q)) (fun i _ => k - (intOf i).toNat)
      case atStart => exact ⟨0, Nat.zero_le _, rfl, ⟨q8, rfl⟩⟩
      case round =>
        obtain ⟨j, hj, rfl, hw⟩ := hrel
        by_cases hlt : j < k
        · have hi : (j : Int) < (k : Int) := by omega
          obtain ⟨rfl, hcf⟩ := H7.out.full.cell hlt
          have hcf' := drewN_cell hw.out hcf
          have hch' := drewN_cell hw.out (H7.out.hold.cell hlt)
          have R1 : Hid (Reads wr (some ⟨B4 + 1 + j, 0, none⟩) P (g j)) := reads_of hw.out (HPC.out j hlt)
          have R2 : Hid (Reads wr (some ⟨w0.heap.size + 1 + j, 0, none⟩) P (g j)) := reads_of hw.out (H7.out.full.piece hlt)
          clear hcf
          go_wp2
          go_quiet ((go_at_call 14; exact Calls.quiet_of (eq_yes _ _ _ _ _ (g j) _ (by omega) (reads_drewN R1.out _) (reads_drewN R2.out _))))
          go_wp2
          go_roundw
          case rel => exact ⟨j + 1, hlt, by go_num, drewN_more hw.out _⟩
          case measure => simp [intOf]; omega
        · obtain rfl : j = k := by omega
          have H8 : Hid (Held w0 wr fa lb (some ⟨B5, 0, none⟩) w0.heap.size B2 B3 B4 B5 B6 j P m T g l F) := H7.out.of hw.out
          have HFC : Hid (HasDeep wr fc B4 j P g) := H6.out.fc.of hw.out
          clear hw H6 H7 HPC
          have e65 : ((r : Int) == 65536) = false := by simp; omega
          have hTr : Hid (j * P + r = n) := (show j * P + r = n by have h1 := HNR.out; have h2 := HPP.out; subst h2; omega)
          go_wp2_with fail
          refine (wellF _ _ _ _ _ _ (fun s => some ⟨B4 + 1 + s, 0, none⟩) (fun _ => P) (fun _ => P) _ (by unfold maxLen; omega) (by unfold maxLen; omega) (fun _ _ => by unfold maxLen; omega) HFC.out.outer).mono ?_
          rintro e w9 ⟨⟨t, rfl, ht⟩, rfl⟩
          obtain rfl : t = true := ht.2 ⟨fun _ _ => HPP.out, by omega⟩
          clear ht
          go_wp2
          have hsl : n ≤ T := by omega
          go_region_with (first | (go_at_call 12; refine (flat _ _ _ _ _ _ P n g l F _ hTr.out (by omega) hN2 (by omega) (pcs_drew HFC.out.pcs) (reads_drew (Reads.short H8.out.lc.reads (show r ≤ m by omega))) HF1.out (fun i hi => HF2.out i (by omega))).mono ?_; rintro e w10 ⟨rfl, hd10, hb10, hs10⟩) | (go_at_call 14; refine (eq_bigS _ _ _ _ _ _ _ F _ (by omega) (reads_row hd10 (Nat.le_refl _)) (reads_row (H8.out.bef.of_block (hb10.block B3 H8.out.bef.lt)) hsl)).mono ?_; rintro e w11 ⟨rfl, q11, rfl⟩))
          have H10 : Hid (HasDeep w10 fa w0.heap.size j P g) := H8.out.full.keep hb10.block
          have HFC10 : Hid (HasDeep w10 fc B4 j P g) := HFC.out.keep hb10.block
          have HB10 : Hid (Below w0.heap.size w0 w10) := H8.out.below.trans ((show Below w9.heap.size w9 w10 from ⟨hb10.os, hb10.tape, hb10.output, hb10.size, hb10.block⟩).mono H8.out.below.size)
          clear hd10 hb10 hs10 H8 HFC
          go_wp2
          go_loopw [16] (fun i wr => ∃ s : Nat, s ≤ j ∧ i = .int .i64 s ∧ Hid (∃ q, wr = w10.drewN q)) (fun i _ => j - (intOf i).toNat)
          case atStart => exact ⟨0, Nat.zero_le _, rfl, ⟨_, rfl⟩⟩
          case round =>
            obtain ⟨s, hs, rfl, hw2⟩ := hrel
            by_cases hlt : s < j
            · have hi : (s : Int) < (j : Int) := by omega
              obtain ⟨rfl, hcf⟩ := H10.out.cell hlt
              obtain ⟨rfl, hcc⟩ := HFC10.out.cell hlt
              have hcf' := drewN_cell hw2.out hcf
              have hcc' := drewN_cell hw2.out hcc
              have R1 : Hid (Reads wr (some ⟨B4 + 1 + s, 0, none⟩) P (g s)) := reads_of hw2.out (HFC10.out.piece hlt)
              have R2 : Hid (Reads wr (some ⟨w0.heap.size + 1 + s, 0, none⟩) P (g s)) := reads_of hw2.out (H10.out.piece hlt)
              clear hcf hcc
              go_wp2
              go_quiet ((go_at_call 14; exact Calls.quiet_of (eq_yes _ _ _ _ _ (g s) _ (by omega) (reads_drewN R1.out _) (reads_drewN R2.out _))))
              go_wp2
              go_roundw
              case rel => exact ⟨s + 1, hlt, by go_num, drewN_more hw2.out _⟩
              case measure => simp [intOf]; omega
            · obtain rfl : s = j := by omega
              go_wp2
              go_ret
              exact ⟨rfl, below_of HB10.out hw2.out⟩
end Go.Proofs.Qxb6604239a.trunc
