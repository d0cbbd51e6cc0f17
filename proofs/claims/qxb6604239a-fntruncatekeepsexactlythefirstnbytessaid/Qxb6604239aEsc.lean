import Derived.Test.Qxb6604239aRows
import Derived.WalkKit
import Derived.ProofKit
import Derived.WalkSpells
import Derived.Deep.QuietTactic
import Derived.BigQuiet
import Derived.Deep.RegionLaw
namespace Go.Proofs.Qxb6604239a.esc
open Go.ChangeShapes Go.WideShapes Go.ChangeAt Go.RowKit
set_option linter.unusedVariables false

theorem info5 : (Try.prog.info? 5).map (fun i => (i.zero, i.size, i.bytes)) = some (some (.int .u8 0), 1, 1) := by kernel_rfl

/-- append onto a row of the call's own, as one step of a region that draws. -/
theorem step_append_own {P : Program} {w : World} {ops : Array Oper} {o : Oper} {a : Act} {K : Act → World → Prop} {Q : Exit → Act → World → Prop} {E : Prop} (hgd : o.guard = none) (s x : Operand) (t : TypeId)
    (ho : o.op = .call { callee := .builtin .append, args := #[s, x], argTypes := #[t, t] })
    (base : Nat) (e : TypeId) (i : TypeInfo) (z : Value) (size bytes : Nat) (ht : P.underlying t = some (.slice e)) (hi : P.info? e = some i) (hz : i.zero = some z)
    (hsize : i.size = size) (hby : i.bytes = bytes) (hzs : z.cells.size = size) (hsz : 0 < size)
    (v : Value) (n : Nat) (xs : List Value) (hs : a.eval s = v) (hown : w.ownsRow base e size v n xs)
    (ad : Addr) (m c : Nat) (news : List Value) (hx : a.eval x = .slice (some ad) m c) (hl : news.length = m * size) (hnews : ∀ j u, news[j]? = some u → w.cell? (ad.add j) = some u) (h1 : ∀ u ∈ news, u.oneCell' = true)
    (h63 : n + m ≤ maxLen) (hbytes : (n + m) * bytes ≤ 140737488355328) (hbase : base ≤ w.heap.size)
    (h : ∀ v' w', w'.ownsRow base e size v' (n + m) (xs ++ news) → w.grownBy w' v.ownBlock → (v' = .slice none 0 0 ↔ v = .slice none 0 0 ∧ m = 0) → K (a.put o.dst v') w') :
    if Region.wanted o (yielded ops a.tmps) = true then Oper.wp P o a w K Q else E := by
  have hw : Region.wanted o (yielded ops a.tmps) = true := by simp [Region.wanted, hgd]
  rw [if_pos hw]
  exact wp_append_own w s x t ho base e i z size bytes ht hi hz hsize hby hzs hsz v n xs hs hown ad m c news hx hl hnews h1 h63 hbytes hbase h

theorem cells_new (w : World) (l : List Value) : ∀ j u, l[j]? = some u → (w.alloc (.cells l.toArray 5)).cell? ((⟨w.heap.size, 0, none⟩ : Addr).add j) = some u := by
  intro j u hu
  have hadd : (⟨w.heap.size, 0, none⟩ : Addr).add j = ⟨w.heap.size, j, none⟩ := by unfold Addr.add; split <;> simp_all
  rw [hadd, cell_of_row _ _ _ _ _ _ (heap_alloc_new w (.cells l.toArray 5))]
  simpa using hu
theorem grown_alloc {w w' : World} {o : Obj} {row : Option Nat} (h : (w.alloc o).grownBy w' row) : w.grownBy w' row :=
  ⟨h.os, h.tape, h.output, by have := h.size; simp at this; omega, fun k hk hr => (h.block k (by simp; omega) hr).trans (Below.heap_alloc w o k hk)⟩

theorem grown_alloc2 {w w' : World} {o : Obj} {row : Option Nat} (h : ((w.alloc o).drew).grownBy w' row) : w.grownBy w' row :=
  grown_alloc (o := o) ⟨h.os, h.tape, h.output, h.size, h.block⟩
def lh : ByteArray := ⟨#[48, 49, 50, 51, 52, 53, 54, 55, 56, 57, 97, 98, 99, 100, 101, 102]⟩
/-- The lower-case hexadecimal digit of d. -/
def hx (d : Int) : Int := if d < 10 then 48 + d else 87 + d

theorem and15 (c : Int) (c0 : 0 ≤ c) (c255 : c ≤ 255) : bits .and .u8 c 15 = c % 16 := by
  obtain ⟨n, rfl⟩ : ∃ n : Nat, c = n := ⟨c.toNat, by omega⟩
  have hn : n < 256 := by omega
  have h : ∀ n : Fin 256, bits .and .u8 ((n.val : Nat) : Int) 15 = ((n.val : Nat) : Int) % 16 := by decide +kernel
  exact h ⟨n, hn⟩
theorem lh_at (d : Int) (d0 : 0 ≤ d) (d16 : d < 16) (W : World) : (Instr.index 9 (.string lh) (.int .u8 d)).run Try.prog W = .ok (.int .u8 (hx d)) W := by
  rcases (by omega : d = 0 ∨ d = 1 ∨ d = 2 ∨ d = 3 ∨ d = 4 ∨ d = 5 ∨ d = 6 ∨ d = 7 ∨ d = 8 ∨ d = 9 ∨ d = 10 ∨ d = 11 ∨ d = 12 ∨ d = 13 ∨ d = 14 ∨ d = 15) with
    rfl | rfl | rfl | rfl | rfl | rfl | rfl | rfl | rfl | rfl | rfl | rfl | rfl | rfl | rfl | rfl <;> kernel_rfl

/-- What appendJSONEscape lays behind a row of the call's own. -/
def Laid (base n : Nat) (v : Value) (xs : List Value) (l : List Int) (w : World) (e : Ending) (w' : World) : Prop :=
  ∃ v', e = .returned v' ∧ w'.ownsRow base 5 1 v' (n + l.length) (xs ++ l.map (Value.int .u8)) ∧ w.grownBy w' v.ownBlock

set_option maxHeartbeats 400000 in
theorem app_34 (base n : Nat) (v : Value) (xs : List Value) (w : World) (hown : w.ownsRow base 5 1 v n xs) (hn : n ≤ 2000000) (hb : base ≤ w.heap.size) :
    Calls Try.prog 25 #[v, .int .u8 34] w (Laid base n v xs [92, 34] w) := by
  obtain ⟨i, hi, hz0, hz1, hz2⟩ := info_parts info5
  have HO : Hid (w.ownsRow base 5 1 v n xs) := hown
  clear hown
  go_enter Try.func25, Try.ntmps25
  go_wp2_with (first | (at_builtin; refine wpList_append_own _ rfl _ _ 23 rfl base 5 i (.int .u8 0) 1 1 Try.underlying23 hi hz0 hz1 hz2 rfl (by decide) _ _ _ rfl (HO.out.alloc _) ⟨w.heap.size, 0, none⟩ 2 2 [.int .u8 92, .int .u8 34] rfl rfl ?c1 ?c2 ?c3 ?c4 ?c5 ?c6))
  case c1 => exact cells_new w [.int .u8 92, .int .u8 34]
  case c2 => exact ints_oneCell .u8 [92, 34]
  case c3 => unfold maxLen; omega
  case c4 => omega
  case c5 => simp; omega
  case c6 =>
    intro v' w' ho hg _
    have HO2 : Hid (w'.ownsRow base 5 1 v' (n + 2) (xs ++ [.int .u8 92, .int .u8 34])) := ho
    have HG : Hid (w.grownBy w' v.ownBlock) := grown_alloc hg
    clear ho hg
    go_wp2
    go_ret
    exact ⟨v', rfl, HO2.out, HG.out⟩
set_option maxHeartbeats 400000 in
theorem app_92 (base n : Nat) (v : Value) (xs : List Value) (w : World) (hown : w.ownsRow base 5 1 v n xs) (hn : n ≤ 2000000) (hb : base ≤ w.heap.size) :
    Calls Try.prog 25 #[v, .int .u8 92] w (Laid base n v xs [92, 92] w) := by
  obtain ⟨i, hi, hz0, hz1, hz2⟩ := info_parts info5
  have HO : Hid (w.ownsRow base 5 1 v n xs) := hown
  clear hown
  go_enter Try.func25, Try.ntmps25
  go_wp2_with (first | (at_builtin; refine wpList_append_own _ rfl _ _ 23 rfl base 5 i (.int .u8 0) 1 1 Try.underlying23 hi hz0 hz1 hz2 rfl (by decide) _ _ _ rfl (HO.out.alloc _) ⟨w.heap.size, 0, none⟩ 2 2 [.int .u8 92, .int .u8 92] rfl rfl ?c1 ?c2 ?c3 ?c4 ?c5 ?c6))
  case c1 => exact cells_new w [.int .u8 92, .int .u8 92]
  case c2 => exact ints_oneCell .u8 [92, 92]
  case c3 => unfold maxLen; omega
  case c4 => omega
  case c5 => simp; omega
  case c6 =>
    intro v' w' ho hg _
    have HO2 : Hid (w'.ownsRow base 5 1 v' (n + 2) (xs ++ [.int .u8 92, .int .u8 92])) := ho
    have HG : Hid (w.grownBy w' v.ownBlock) := grown_alloc hg
    clear ho hg
    go_wp2
    go_ret
    exact ⟨v', rfl, HO2.out, HG.out⟩
set_option maxHeartbeats 400000 in
theorem app_8 (base n : Nat) (v : Value) (xs : List Value) (w : World) (hown : w.ownsRow base 5 1 v n xs) (hn : n ≤ 2000000) (hb : base ≤ w.heap.size) :
    Calls Try.prog 25 #[v, .int .u8 8] w (Laid base n v xs [92, 98] w) := by
  obtain ⟨i, hi, hz0, hz1, hz2⟩ := info_parts info5
  have HO : Hid (w.ownsRow base 5 1 v n xs) := hown
  clear hown
  go_enter Try.func25, Try.ntmps25
  go_wp2_with (first | (at_builtin; refine wpList_append_own _ rfl _ _ 23 rfl base 5 i (.int .u8 0) 1 1 Try.underlying23 hi hz0 hz1 hz2 rfl (by decide) _ _ _ rfl (HO.out.alloc _) ⟨w.heap.size, 0, none⟩ 2 2 [.int .u8 92, .int .u8 98] rfl rfl ?c1 ?c2 ?c3 ?c4 ?c5 ?c6))
  case c1 => exact cells_new w [.int .u8 92, .int .u8 98]
  case c2 => exact ints_oneCell .u8 [92, 98]
  case c3 => unfold maxLen; omega
  case c4 => omega
  case c5 => simp; omega
  case c6 =>
    intro v' w' ho hg _
    have HO2 : Hid (w'.ownsRow base 5 1 v' (n + 2) (xs ++ [.int .u8 92, .int .u8 98])) := ho
    have HG : Hid (w.grownBy w' v.ownBlock) := grown_alloc hg
    clear ho hg
    go_wp2
    go_ret
    exact ⟨v', rfl, HO2.out, HG.out⟩
set_option maxHeartbeats 400000 in
theorem app_9 (base n : Nat) (v : Value) (xs : List Value) (w : World) (hown : w.ownsRow base 5 1 v n xs) (hn : n ≤ 2000000) (hb : base ≤ w.heap.size) :
    Calls Try.prog 25 #[v, .int .u8 9] w (Laid base n v xs [92, 116] w) := by
  obtain ⟨i, hi, hz0, hz1, hz2⟩ := info_parts info5
  have HO : Hid (w.ownsRow base 5 1 v n xs) := hown
  clear hown
  go_enter Try.func25, Try.ntmps25
  go_wp2_with (first | (at_builtin; refine wpList_append_own _ rfl _ _ 23 rfl base 5 i (.int .u8 0) 1 1 Try.underlying23 hi hz0 hz1 hz2 rfl (by decide) _ _ _ rfl (HO.out.alloc _) ⟨w.heap.size, 0, none⟩ 2 2 [.int .u8 92, .int .u8 116] rfl rfl ?c1 ?c2 ?c3 ?c4 ?c5 ?c6))
  case c1 => exact cells_new w [.int .u8 92, .int .u8 116]
  case c2 => exact ints_oneCell .u8 [92, 116]
  case c3 => unfold maxLen; omega
  case c4 => omega
  case c5 => simp; omega
  case c6 =>
    intro v' w' ho hg _
    have HO2 : Hid (w'.ownsRow base 5 1 v' (n + 2) (xs ++ [.int .u8 92, .int .u8 116])) := ho
    have HG : Hid (w.grownBy w' v.ownBlock) := grown_alloc hg
    clear ho hg
    go_wp2
    go_ret
    exact ⟨v', rfl, HO2.out, HG.out⟩
set_option maxHeartbeats 400000 in
theorem app_10 (base n : Nat) (v : Value) (xs : List Value) (w : World) (hown : w.ownsRow base 5 1 v n xs) (hn : n ≤ 2000000) (hb : base ≤ w.heap.size) :
    Calls Try.prog 25 #[v, .int .u8 10] w (Laid base n v xs [92, 110] w) := by
  obtain ⟨i, hi, hz0, hz1, hz2⟩ := info_parts info5
  have HO : Hid (w.ownsRow base 5 1 v n xs) := hown
  clear hown
  go_enter Try.func25, Try.ntmps25
  go_wp2_with (first | (at_builtin; refine wpList_append_own _ rfl _ _ 23 rfl base 5 i (.int .u8 0) 1 1 Try.underlying23 hi hz0 hz1 hz2 rfl (by decide) _ _ _ rfl (HO.out.alloc _) ⟨w.heap.size, 0, none⟩ 2 2 [.int .u8 92, .int .u8 110] rfl rfl ?c1 ?c2 ?c3 ?c4 ?c5 ?c6))
  case c1 => exact cells_new w [.int .u8 92, .int .u8 110]
  case c2 => exact ints_oneCell .u8 [92, 110]
  case c3 => unfold maxLen; omega
  case c4 => omega
  case c5 => simp; omega
  case c6 =>
    intro v' w' ho hg _
    have HO2 : Hid (w'.ownsRow base 5 1 v' (n + 2) (xs ++ [.int .u8 92, .int .u8 110])) := ho
    have HG : Hid (w.grownBy w' v.ownBlock) := grown_alloc hg
    clear ho hg
    go_wp2
    go_ret
    exact ⟨v', rfl, HO2.out, HG.out⟩
set_option maxHeartbeats 400000 in
theorem app_12 (base n : Nat) (v : Value) (xs : List Value) (w : World) (hown : w.ownsRow base 5 1 v n xs) (hn : n ≤ 2000000) (hb : base ≤ w.heap.size) :
    Calls Try.prog 25 #[v, .int .u8 12] w (Laid base n v xs [92, 102] w) := by
  obtain ⟨i, hi, hz0, hz1, hz2⟩ := info_parts info5
  have HO : Hid (w.ownsRow base 5 1 v n xs) := hown
  clear hown
  go_enter Try.func25, Try.ntmps25
  go_wp2_with (first | (at_builtin; refine wpList_append_own _ rfl _ _ 23 rfl base 5 i (.int .u8 0) 1 1 Try.underlying23 hi hz0 hz1 hz2 rfl (by decide) _ _ _ rfl (HO.out.alloc _) ⟨w.heap.size, 0, none⟩ 2 2 [.int .u8 92, .int .u8 102] rfl rfl ?c1 ?c2 ?c3 ?c4 ?c5 ?c6))
  case c1 => exact cells_new w [.int .u8 92, .int .u8 102]
  case c2 => exact ints_oneCell .u8 [92, 102]
  case c3 => unfold maxLen; omega
  case c4 => omega
  case c5 => simp; omega
  case c6 =>
    intro v' w' ho hg _
    have HO2 : Hid (w'.ownsRow base 5 1 v' (n + 2) (xs ++ [.int .u8 92, .int .u8 102])) := ho
    have HG : Hid (w.grownBy w' v.ownBlock) := grown_alloc hg
    clear ho hg
    go_wp2
    go_ret
    exact ⟨v', rfl, HO2.out, HG.out⟩
set_option maxHeartbeats 400000 in
theorem app_13 (base n : Nat) (v : Value) (xs : List Value) (w : World) (hown : w.ownsRow base 5 1 v n xs) (hn : n ≤ 2000000) (hb : base ≤ w.heap.size) :
    Calls Try.prog 25 #[v, .int .u8 13] w (Laid base n v xs [92, 114] w) := by
  obtain ⟨i, hi, hz0, hz1, hz2⟩ := info_parts info5
  have HO : Hid (w.ownsRow base 5 1 v n xs) := hown
  clear hown
  go_enter Try.func25, Try.ntmps25
  go_wp2_with (first | (at_builtin; refine wpList_append_own _ rfl _ _ 23 rfl base 5 i (.int .u8 0) 1 1 Try.underlying23 hi hz0 hz1 hz2 rfl (by decide) _ _ _ rfl (HO.out.alloc _) ⟨w.heap.size, 0, none⟩ 2 2 [.int .u8 92, .int .u8 114] rfl rfl ?c1 ?c2 ?c3 ?c4 ?c5 ?c6))
  case c1 => exact cells_new w [.int .u8 92, .int .u8 114]
  case c2 => exact ints_oneCell .u8 [92, 114]
  case c3 => unfold maxLen; omega
  case c4 => omega
  case c5 => simp; omega
  case c6 =>
    intro v' w' ho hg _
    have HO2 : Hid (w'.ownsRow base 5 1 v' (n + 2) (xs ++ [.int .u8 92, .int .u8 114])) := ho
    have HG : Hid (w.grownBy w' v.ownBlock) := grown_alloc hg
    clear ho hg
    go_wp2
    go_ret
    exact ⟨v', rfl, HO2.out, HG.out⟩

set_option maxHeartbeats 400000 in
theorem app_u (base n : Nat) (v : Value) (xs : List Value) (c : Int) (w : World) (hown : w.ownsRow base 5 1 v n xs) (hn : n ≤ 2000000) (hb : base ≤ w.heap.size)
    (c0 : 0 ≤ c) (c255 : c ≤ 255) (h34 : (c == 34) = false) (h92 : (c == 92) = false) (h8 : (c == 8) = false) (h9 : (c == 9) = false) (h10 : (c == 10) = false) (h12 : (c == 12) = false) (h13 : (c == 13) = false) :
    Calls Try.prog 25 #[v, .int .u8 c] w (Laid base n v xs [92, 117, 48, 48, hx (c / 16), hx (c % 16)] w) := by
  obtain ⟨i, hi, hz0, hz1, hz2⟩ := info_parts info5
  have HO : Hid (w.ownsRow base 5 1 v n xs) := hown
  clear hown
  have a15 := and15 c c0 c255
  have i1 : ∀ W, (Instr.index 9 (.string lh) (.int .u8 (c / 16))).run Try.prog W = .ok (.int .u8 (hx (c / 16))) W := lh_at _ (by omega) (by omega)
  have i2 : ∀ W, (Instr.index 9 (.string lh) (.int .u8 (bits .and .u8 c 15))).run Try.prog W = .ok (.int .u8 (hx (c % 16))) W := by rw [a15]; exact lh_at _ (by omega) (by omega)
  clear a15
  unfold lh at i1 i2
  go_enter Try.func25, Try.ntmps25
  go_wp2
  go_region_law (refine step_append_own rfl (.tmp 38) (.tmp 45) 23 rfl base 5 i (.int .u8 0) 1 1 Try.underlying23 hi hz0 hz1 hz2 rfl (by decide) _ _ _ rfl (HO.out.alloc _) ⟨w.heap.size, 0, none⟩ 6 6 [.int .u8 92, .int .u8 117, .int .u8 48, .int .u8 48, .int .u8 (hx (c / 16)), .int .u8 (hx (c % 16))] rfl rfl (cells_new w [.int .u8 92, .int .u8 117, .int .u8 48, .int .u8 48, .int .u8 (hx (c / 16)), .int .u8 (hx (c % 16))]) (ints_oneCell .u8 [92, 117, 48, 48, hx (c / 16), hx (c % 16)]) (by unfold maxLen; omega) (by omega) (by simp; omega) ?_; intro v' w' ho hg _)
  all_goals
    have HO2 : Hid (w'.ownsRow base 5 1 v' (n + 6) (xs ++ [.int .u8 92, .int .u8 117, .int .u8 48, .int .u8 48, .int .u8 (hx (c / 16)), .int .u8 (hx (c % 16))])) := ho
    have HG : Hid (w.grownBy w' v.ownBlock) := grown_alloc2 (o := .cells #[.int .u8 92, .int .u8 117, .int .u8 48, .int .u8 48, .int .u8 (hx (c / 16)), .int .u8 (hx (c % 16))] 5) hg
    clear ho hg
    go_wp2
    go_ret
    exact ⟨v', rfl, HO2.out, HG.out⟩

/-- The escape of c. -/
def esc (c : Int) : List Int :=
  if c = 34 then [92, 34] else if c = 92 then [92, 92] else if c = 8 then [92, 98] else if c = 9 then [92, 116] else if c = 10 then [92, 110] else if c = 12 then [92, 102] else if c = 13 then [92, 114]
  else [92, 117, 48, 48, hx (c / 16), hx (c % 16)]

theorem app (base n : Nat) (v : Value) (xs : List Value) (c : Int) (w : World) (hown : w.ownsRow base 5 1 v n xs) (hn : n ≤ 2000000) (hb : base ≤ w.heap.size) (c0 : 0 ≤ c) (c255 : c ≤ 255) :
    Calls Try.prog 25 #[v, .int .u8 c] w (Laid base n v xs (esc c) w) := by
  unfold esc
  by_cases h34 : c = 34
  · rw [if_pos h34]; subst h34; exact app_34 base n v xs w hown hn hb
  rw [if_neg h34]
  by_cases h92 : c = 92
  · rw [if_pos h92]; subst h92; exact app_92 base n v xs w hown hn hb
  rw [if_neg h92]
  by_cases h8 : c = 8
  · rw [if_pos h8]; subst h8; exact app_8 base n v xs w hown hn hb
  rw [if_neg h8]
  by_cases h9 : c = 9
  · rw [if_pos h9]; subst h9; exact app_9 base n v xs w hown hn hb
  rw [if_neg h9]
  by_cases h10 : c = 10
  · rw [if_pos h10]; subst h10; exact app_10 base n v xs w hown hn hb
  rw [if_neg h10]
  by_cases h12 : c = 12
  · rw [if_pos h12]; subst h12; exact app_12 base n v xs w hown hn hb
  rw [if_neg h12]
  by_cases h13 : c = 13
  · rw [if_pos h13]; subst h13; exact app_13 base n v xs w hown hn hb
  rw [if_neg h13]
  exact app_u base n v xs c w hown hn hb c0 c255 (by simpa using h34) (by simpa using h92) (by simpa using h8) (by simpa using h9) (by simpa using h10) (by simpa using h12) (by simpa using h13)

theorem zzapp (base n : Nat) (v : Value) (xs : List Value) (c : Int) (w : World) (hown : w.ownsRow base 5 1 v n xs) (hn : n ≤ 2000000) (hb : base ≤ w.heap.size) (c0 : 0 ≤ c) (c255 : c ≤ 255) :
    Calls Try.prog 16 #[v, .int .u8 c] w (Laid base n v xs (esc c) w) := by
  have HO : Hid (w.ownsRow base 5 1 v n xs) := hown
  clear hown
  go_enter Try.func16, Try.ntmps16
  go_wp2_with fail
  refine (app base n v xs c _ HO.out hn hb c0 c255).mono ?_
  rintro e w' ⟨v', rfl, ho, hg⟩
  have HO2 : Hid (w'.ownsRow base 5 1 v' (n + (esc c).length) (xs ++ (esc c).map (Value.int .u8))) := ho
  have HG : Hid (w.grownBy w' v.ownBlock) := hg
  clear ho hg
  go_wp2
  go_ret
  exact ⟨v', rfl, HO2.out, HG.out⟩
end Go.Proofs.Qxb6604239a.esc
