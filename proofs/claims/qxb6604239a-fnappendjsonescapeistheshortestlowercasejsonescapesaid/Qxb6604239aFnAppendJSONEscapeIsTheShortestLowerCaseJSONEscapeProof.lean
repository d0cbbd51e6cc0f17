/- The proof of Rows.FnAppendJSONEscapeIsTheShortestLowerCaseJSONEscapeSaid; its frame is the given shell. -/
import Derived.Test.Qxb6604239aRows
import Derived.WalkKit
import Derived.ProofKit
import Derived.OpenShut
import Derived.ShutString
import Derived.ChangeOld
import Derived.Below
import Derived.Test.Qxb6604239aShortE
namespace Go.Proofs.Qxb6604239a.fnAppendJSONEscapeIsTheShortestLowerCaseJSONEscape
open Go.ChangeShapes Go.WideShapes Go.ChangeAt Go.RowKit
open Go.ChangeMaps (open_string shut_string)
set_option linter.unusedVariables false

theorem own : ownKnob Try.prog.godebug = none := by kernel_rfl
theorem laidOut : laidOutB Try.prog = true := by kernel_rfl

/-- WHAT THE WALK IS TOLD OF A SLICE OF INTEGERS THAT CAME IN: it is nil; or it leads to a row of 'cap' cells, the numbers 'zs' (the first 'len' are its elements, the rest its spare room), each fitting its kind. -/
def IsRow (k : IntKind) (w : World) (a : Option Addr) (len cap : Nat) (zs : List Int) : Prop :=
  (a = none ∧ len = 0 ∧ cap = 0 ∧ zs = []) ∨
  ∃ x, a = some x ∧ len ≤ cap ∧ cap ≤ maxLen ∧ zs.length = cap ∧ (∀ i, i < zs.length → w.cell? (x.add i) = some (.int k (zs.getD i 0))) ∧ ∀ n ∈ zs, (Lit.int k n).wf = true

open Go.Proofs.Qxb6604239a.esc Go.Proofs.Qxb6604239a.dec Go.Proofs.Qxb6604239a.copy Go.Proofs.Qxb6604239a.shortE

/-- The n bytes f, as cells. -/
def vals (n : Nat) (f : Nat → Int) : List Value := (List.range n).map fun i => Value.int .u8 (f i)
theorem vals_at {n : Nat} {f : Nat → Int} {i : Nat} (h : i < n) : (vals n f)[i]? = some (.int .u8 (f i)) := by simp [vals, h]
theorem vals_len (n : Nat) (f : Nat → Int) : (vals n f).length = n := by simp [vals]
theorem own_of_row {w : World} {b n : Nat} {f : Nat → Int} (hn : n ≤ 1048576) (h : w.rowIs b 5 n (fun i => .int .u8 (f i))) : w.ownsRow b 5 1 (.slice (some ⟨b, 0, none⟩) n n) n (vals n f) := by
  obtain ⟨c, hb, hs, hc⟩ := h
  refine ⟨by simp [vals], .inr ⟨b, n, c, rfl, Nat.le_refl _, hb, Nat.le_refl _, by unfold maxLen; omega, by omega, ?_⟩⟩
  refine List.ext_getElem? fun i => ?_
  by_cases hi : i < n
  · rw [vals_at hi, List.getElem?_take, if_pos (by omega)]
    simpa using hc i hi
  · rw [List.getElem?_eq_none (by simp; omega), List.getElem?_eq_none (by rw [vals_len]; omega)]

/-- A slice of bytes as it comes in: nil, or cells that are known. -/
def Src (w : World) (a : Option Addr) (n c : Nat) (f : Nat → Int) : Prop := (a = none ∧ n = 0 ∧ c = 0) ∨ ∃ x, a = some x ∧ ∀ i, i < n → w.cell? (x.add i) = some (.int .u8 (f i))

theorem copyU (a : Option Addr) (n c : Nat) (f : Nat → Int) (w : World) (hn : n ≤ 1048576) (h : Src w a n c f) :
    Calls Try.prog 11 #[.slice a n c] w fun e w' => ∃ a', e = .returned (.slice a' n n) ∧ w'.ownsRow w.heap.size 5 1 (.slice a' n n) n (vals n f) ∧ Below w.heap.size w w' := by
  rcases h with ⟨rfl, rfl, rfl⟩ | ⟨x, rfl, hc⟩
  · exact (copy_nil w).mono fun e w' ⟨h1, h2⟩ => ⟨none, h1, World.ownsRow_nil _ _ _ _, by rw [h2]; exact Below.refl _ _⟩
  · exact (copy_at x n c f w hn hc).mono fun e w' ⟨h1, h2, h3, _⟩ => ⟨_, h1, own_of_row hn h2, h3⟩

theorem own_src {w : World} {base n c : Nat} {a : Option Addr} {f : Nat → Int} (h : w.ownsRow base 5 1 (.slice a n c) n (vals n f)) : Src w a n c f := by
  rcases h.2 with ⟨e, hn⟩ | ⟨g, cap, cur, e, _⟩
  · injection e with e1 e2 e3
    exact .inl ⟨e1, hn, e3⟩
  · have hg : (Value.slice a n c).ownBlock = some g := by rw [e]; rfl
    injection e with e1 e2 e3
    exact .inr ⟨_, e1, fun i hi => h.cells hg i _ (vals_at hi)⟩
theorem own_reads {w : World} {base n c : Nat} {a : Option Addr} {f : Nat → Int} (h : w.ownsRow base 5 1 (.slice a n c) n (vals n f)) : Reads w a n f := by
  rcases h.2 with ⟨e, hn⟩ | ⟨g, cap, cur, e, _⟩
  · exact .inl hn
  · have hg : (Value.slice a n c).ownBlock = some g := by rw [e]; rfl
    injection e with e1 e2 e3
    refine .inr ⟨g, 0, e1, fun i hi => ?_⟩
    have := h.cells hg i _ (vals_at hi)
    rwa [add_plain] at this
theorem reads_later {w w' : World} {a : Option Addr} {n : Nat} {f : Nat → Int} (h : Reads w a n f) (hk : ∀ p v, w.cell? p = some v → w'.cell? p = some v) : Reads w' a n f := by
  rcases h with h | ⟨b, off, e, hc⟩
  · exact .inl h
  · exact .inr ⟨b, off, e, fun i hi => hk _ _ (hc i hi)⟩

/-- What the appended slice is: a row whose first n bytes are f, then the escape. -/
theorem out_form {w : World} {base n : Nat} {v : Value} {f : Nat → Int} {c : Int} (h : w.ownsRow base 5 1 v (n + (esc c).length) (vals n f ++ (esc c).map (Value.int .u8))) :
    ∃ g cap L, v = .slice (some ⟨g, 0, none⟩) (n + L) cap ∧ (esc c).length = L ∧ n + L ≤ cap ∧ (∀ i, i < n → w.cell? ⟨g, 0 + i, none⟩ = some (.int .u8 (f i))) ∧
      ∀ j, j < L → w.cell? ⟨g, n + j, none⟩ = some (.int .u8 ((esc c).getD j 0)) := by
  have hl := esc_len c
  rcases h.2 with ⟨e, hn⟩ | ⟨g, cap, cur, e, _, _, hcap, _⟩
  · omega
  · refine ⟨g, cap, _, e, rfl, hcap, fun i hi => ?_, fun j hj => ?_⟩
    · have := h.cells (g := g) (by rw [e]; rfl) i (.int .u8 (f i)) (by rw [List.getElem?_append_left (by rw [vals_len]; exact hi)]; exact vals_at hi)
      rwa [add_plain] at this
    · have := h.cells (g := g) (by rw [e]; rfl) (n + j) (.int .u8 ((esc c).getD j 0)) (by rw [List.getElem?_append_right (by rw [vals_len]; omega), vals_len]; simp [List.getD_eq_getElem?_getD, hj])
      rw [add_plain] at this
      rwa [Nat.zero_add] at this
theorem cell_kept {w1 w2 w3 : World} {row : Option Nat} (hb : Below w1.heap.size w1 w2) (hg : w2.grownBy w3 row) (hr : ∀ k, row = some k → w1.heap.size ≤ k) : ∀ p v, w1.cell? p = some v → w3.cell? p = some v := by
  intro p v h
  have hlt := World.block_lt_of_cell? w1 p h
  refine hg.cell (cell_later hb h) (fun e => ?_)
  have := hr p.block e.symm
  omega

theorem dec0 (b off L cp : Nat) (c : Int) (w : World) (hL : L ≤ 2000000) (c0 : 0 ≤ c) (c255 : c ≤ 255) (hl : (esc c).length = L) (hc : ∀ j, j < L → w.cell? ⟨b, off + j, none⟩ = some (.int .u8 ((esc c).getD j 0))) :
    Calls Try.prog 17 #[.slice (some ⟨b, off, none⟩) L cp, .int .i64 0] w fun e w' => e = .returned (.tuple #[.int .i64 c, .int .i64 (L : Int), .bool true]) ∧ w' = w := by
  have h := dec b off L cp 0 (fun j => (esc c).getD j 0) c w hL c0 c255 hc (by omega) (fun j _ => by simp)
  rw [hl] at h
  simp only [Int.natCast_zero, Int.zero_add] at h
  exact h
theorem cells_drewN {w : World} {g n L : Nat} {f : Nat → Int} (h : ∀ j, j < L → w.cell? ⟨g, n + j, none⟩ = some (.int .u8 (f j))) (q : Nat) : ∀ j, j < L → (w.drewN q).cell? ⟨g, n + j, none⟩ = some (.int .u8 (f j)) := by
  intro j hj
  simpa using h j hj

theorem walk_long (a : Option Addr) (n c : Nat) (v : Int) (w : World) (hn : 1048576 < n) :
    Calls Try.prog 4 #[.slice a n c, .int .u8 v] w fun e w' => e = .returned (.bool true) ∧ Below w.heap.size w w' := by
  go_enter Try.func4, Try.ntmps4
  go_wp2_with fail
  refine (shortE.bytes_no _ _ _ _ _ hn).mono ?_
  rintro e w' ⟨rfl, rfl⟩
  go_wp2
  go_ret
  exact ⟨rfl, Below.refl _ _⟩

theorem below_more {w w1 : World} (h : Below w.heap.size w w1) (q : Nat) : Below w.heap.size w (w1.drewN q) := ⟨h.os, h.tape, h.output, h.size, h.block⟩

set_option maxHeartbeats 1000000 in
theorem walk_go (a : Option Addr) (n cp : Nat) (f : Nat → Int) (c : Int) (w : World) (hn : n ≤ 1048576) (c0 : 0 ≤ c) (c255 : c ≤ 255) (hs : Src w a n cp f) :
    Calls Try.prog 4 #[.slice a n cp, .int .u8 c] w fun e w' => e = .returned (.bool true) ∧ Below w.heap.size w w' := by
  have HS : Hid (Src w a n cp f) := hs
  clear hs
  go_enter Try.func4, Try.ntmps4
  go_wp2_with fail
  refine (shortE.bytes_yes _ _ _ _ _ hn).mono ?_
  rintro e w0 ⟨rfl, rfl⟩
  go_wp2_with fail
  refine (copyU _ _ _ f _ hn HS.out).mono ?_
  rintro e w1 ⟨a1, rfl, ho1, hb1⟩
  have HO1 : Hid (w1.ownsRow w0.heap.size 5 1 (.slice a1 n n) n (vals n f)) := ho1
  have HB1 : Hid (Below w0.heap.size w0 w1) := hb1
  clear ho1 hb1
  go_wp2_with fail
  refine (copyU _ _ _ f _ hn (own_src HO1.out)).mono ?_
  rintro e w2 ⟨a2, rfl, ho2, hb2⟩
  have HO2 : Hid (w2.ownsRow w1.heap.size 5 1 (.slice a2 n n) n (vals n f)) := ho2
  have HB2 : Hid (Below w1.heap.size w1 w2) := hb2
  clear ho2 hb2
  go_wp2_with fail
  refine (zzapp w1.heap.size n _ _ c _ HO2.out (by omega) HB2.out.size c0 c255).mono ?_
  rintro e w3 ⟨v', rfl, ho3, hg3⟩
  have HG3 : Hid (w2.grownBy w3 (Value.slice a2 n n).ownBlock) := hg3
  obtain ⟨g, cap, L, rfl, hL, hcap, hc1, hc2⟩ := out_form ho3
  have hLL := esc_len c
  rw [hL] at hLL
  have hL2 : 2 ≤ L := by omega
  have hL6 : L ≤ 6 := by omega
  have hrow : ∀ k, (Value.slice a2 n n).ownBlock = some k → w1.heap.size ≤ k := fun k hk => (HO2.out.lt k hk).1
  have HB3 : Hid (Below w0.heap.size w0 w3) := (HB1.out.trans (HB2.out.mono HB1.out.size)).grown HG3.out (Nat.le_trans HB1.out.size HB2.out.size) (fun k hk => Nat.le_trans HB1.out.size (hrow k hk))
  have HR1 : Hid (Reads w3 a1 n f) := reads_later (own_reads HO1.out) (cell_kept HB2.out HG3.out hrow)
  have HC1 : Hid (∀ i, i < n → w3.cell? ⟨g, 0 + i, none⟩ = some (.int .u8 (f i))) := hc1
  have HC2 : Hid (∀ j, j < L → w3.cell? ⟨g, n + j, none⟩ = some (.int .u8 ((esc c).getD j 0))) := hc2
  have HL : Hid ((esc c).length = L) := hL
  clear ho3 hg3 hc1 hc2 hL hLL hrow
  have t1 : decide ((n : Int) + (L : Int) < (n : Int)) = false := decide_eq_false (by omega)
  have t2 : ¬ n = cap := by omega
  go_wp2_with fail
  refine (eq_yes _ _ _ _ _ f _ hn (.inr ⟨g, 0, rfl, HC1.out⟩) HR1.out).mono ?_
  rintro e w4 ⟨rfl, q, rfl⟩
  go_wp2_with fail
  have hz := dec0 g n L (cap - n) c (w3.drewN q) (by omega) c0 c255 HL.out (cells_drewN HC2.out q)
  refine hz.mono ?_
  clear hz
  rintro e w5 ⟨rfl, rfl⟩
  cases hsh : shB c
  · have HE : Hid (esc c = [92, 117, 48, 48, hx (c / 16), hx (c % 16)]) := esc_long hsh
    obtain rfl : L = 6 := by rw [← HL.out, HE.out]; rfl
    have g4 : w3.cell? ⟨g, n + 4, none⟩ = some (.int .u8 (hx (c / 16))) := by rw [HC2.out 4 (by omega), HE.out]; rfl
    have g5 : w3.cell? ⟨g, n + 5, none⟩ = some (.int .u8 (hx (c % 16))) := by rw [HC2.out 5 (by omega), HE.out]; rfl
    go_wp2_with fail
    refine (hasShort _ _).mono ?_
    rintro e w6 ⟨rfl, rfl⟩
    go_wp2_with fail
    refine (isLower (c / 16) (by omega) (by omega) _).mono ?_
    rintro e w6 ⟨rfl, rfl⟩
    go_wp2_with fail
    refine (isLower (c % 16) (by omega) (by omega) _).mono ?_
    rintro e w6 ⟨rfl, rfl⟩
    go_wp2
    go_ret
    exact ⟨rfl, below_more HB3.out _⟩
  · have hs2 := esc_short hsh
    obtain rfl : L = 2 := by rw [← HL.out]; exact hs2
    clear hs2
    go_wp2_with fail
    refine (hasShort _ _).mono ?_
    rintro e w6 ⟨rfl, rfl⟩
    go_wp2
    go_ret
    exact ⟨rfl, below_more HB3.out _⟩

theorem walk (a0 : Option Addr) (len0 cap0 : Nat) (z0 : List Int) (a1 : Int) (w : World) (w0 : IsRow .u8 w a0 len0 cap0 z0) (w1 : (Lit.int .u8 a1).wf = true) :
    Calls Try.prog 4 #[.slice a0 len0 cap0, .int .u8 a1] w fun e w' => e = .returned (.bool true) ∧ Below w.heap.size w w' := by
  by_cases hl : 1048576 < len0
  · exact walk_long _ _ _ _ _ hl
  have hb := bounds_u8 w1
  rcases w0 with ⟨rfl, rfl, rfl, rfl⟩ | ⟨x, rfl, hlc, hm, hzl, hcell, hwf⟩
  · exact walk_go none 0 0 (fun _ => 0) a1 w (by omega) hb.1 hb.2 (.inl ⟨rfl, rfl, rfl⟩)
  · exact walk_go (some x) len0 cap0 (fun i => z0.getD i 0) a1 w (by omega) hb.1 hb.2 (.inr ⟨x, rfl, fun i hi => hcell i (by omega)⟩)

/-! ### THE ROW's STEP: WRITTEN OUT: LEAVE IT -/
set_option maxRecDepth 100000 in
theorem lifted (os : Os) (started : os.Started) (H : Type) (enc : TypeId × Value → H) :
    ReturnsInHanded {} Try.checked os 4 .any (Rows.fnAppendJSONEscapeIsTheShortestLowerCaseJSONEscapeSpec.pre6 enc Try.prog Try.f4 Rows.fnAppendJSONEscapeIsTheShortestLowerCaseJSONEscapeRow.domain false) (Rows.fnAppendJSONEscapeIsTheShortestLowerCaseJSONEscapeSpec.post enc Try.prog Try.f4 false true false false) := by
  refine returnsInHanded_of_change (C := Try.checked) own started (by kernel_rfl) Try.func4
    (ChangeSpec.witness6 (enc := enc) (C := Try.checked) false ⟨#[], #[.slice none 0 0, .int .u8 0], []⟩ 8 (by kernel_rfl) (by kernel_rfl) (by kernel_rfl) (by kernel_rfl)) ?_
  intro W base args ds gs before hval0 hW hcnd _
  have hval : ∀ (j : Nat) t v, Try.f4.params[j]? = some t → args[j]? = some v → Value.okWide Try.prog W .any base t v := hval0
  have hW' := hW
  obtain ⟨p, q, hA0, hV, rfl, hfz, hnd⟩ := hW
  have hA : DataW.TrodAll enc Try.prog W 0 (fun _ => true) true Try.f4.params.toList args.toList ds p := hA0
  rw [Try.params4] at hA hval
  obtain ⟨v0, vs0, d0, ds0, p0, q0, hargs, rfl, rfl, h0, r0⟩ := trodAll_cons hA
  obtain ⟨v1, vs1, d1, ds1, p1, q1, rfl, rfl, rfl, h1, r1⟩ := trodAll_cons r0
  obtain ⟨rfl, rfl, rfl⟩ := trodAll_nil r1
  obtain rfl : args = #[v0, v1] := by cases args; simp_all
  obtain ⟨rfl, rfl⟩ := trodVars_none hV
  obtain ⟨a0, len0, cap0, rfl⟩ := okWide_slice Try.underlying23 (hval 0 23 v0 rfl rfl)
  have k0 := h0
  have lt0 : ∀ x ∈ p0, x.block < W.heap.size := by obtain ⟨m, hm⟩ := k0; exact DataW.trod_lt m _ _ _ hm
  obtain ⟨z0, w0⟩ : ∃ zs, IsRow .u8 W a0 len0 cap0 zs := by
    obtain ⟨fuel, hf⟩ := h0
    rcases open_ints Try.underlying23 Try.underlying5 (by kernel_rfl) hf with ⟨hcs, _⟩ | ⟨x, l, c, zs, hcs, _, hl, hm, hz, _, hcell, hwz⟩
    · simp [Value.cells] at hcs
      obtain ⟨rfl, rfl, rfl⟩ := hcs
      exact ⟨[], .inl ⟨rfl, rfl, rfl, rfl⟩⟩
    · simp [Value.cells] at hcs
      obtain ⟨rfl, rfl, rfl⟩ := hcs
      exact ⟨zs, .inr ⟨_, rfl, hl, hm, by simpa using hz, hcell, hwz⟩⟩
  obtain ⟨a1, rfl, rfl, rfl, w1⟩ := open_int Try.underlying5 (hval 1 5 v1 rfl rfl) h1
  clear hA0 hval0
  refine (walk a0 len0 cap0 z0 a1 W w0 w1).mono fun e W' ⟨he, bel⟩ => ?_
  subst he
  exact ⟨_, rfl, _, _, _, [], _, [], hW', trodAll_mk1 (shut_bool Try.underlying4 _), (trodAll_cons_mk (Below.trod laidOut (by kernel_rfl) (of_decide_eq_true (by kernel_rfl)) k0 bel lt0) (trodAll_cons_mk (shut_int Try.underlying5 w1) trodAll_mk0)), rfl, bel.frame _, fun h => by cases h⟩

theorem over : Rows.fnAppendJSONEscapeIsTheShortestLowerCaseJSONEscapeRow.holds Try.pinned (OpenSpec.ofChange Rows.fnAppendJSONEscapeIsTheShortestLowerCaseJSONEscapeSpec) :=
  OpenClaim.holds_of_wide 4 Try.f4 rfl rfl rfl rfl rfl rfl rfl ⟨rfl, rfl, rfl, rfl, rfl⟩ rfl rfl rfl rfl rfl (by kernel_rfl) Try.func4 (by kernel_rfl)
    (of_decide_eq_true (by kernel_rfl)) (by unfold Func.isWrapper; first | (rw [if_pos (by decide +kernel)]; kernel_rfl) | (rw [if_neg (by decide +kernel)]; exact ⟨rfl, rfl⟩))
    (fun os started H enc _ => lifted os started H enc)

/-- ████ THE STATEMENT ████ -/
theorem proved : Rows.FnAppendJSONEscapeIsTheShortestLowerCaseJSONEscapeSaid := over
end Go.Proofs.Qxb6604239a.fnAppendJSONEscapeIsTheShortestLowerCaseJSONEscape
