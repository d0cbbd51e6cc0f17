import Derived.Test.Qxb6604715aSerG
import Derived.OwnWalk
namespace Go.Proofs.Qxb6604715a.ser
open Go.ChangeShapes Go.WideShapes Go.ChangeAt Go.RowKit
set_option linter.unusedVariables false
set_option maxRecDepth 20000

/-! ### zzBytes -/
set_option maxHeartbeats 800000 in
theorem bytes_yes (a0 a1 a2 a3 : Option Addr) (l0 l1 l2 l3 c0 c1 c2 c3 : Nat) (w : World) (h : l0 + l1 + l2 + l3 ≤ 1048576) :
    Calls Try.prog 12 #[.slice a0 l0 c0, .slice a1 l1 c1, .slice a2 l2 c2, .slice a3 l3 c3] w fun e w' => e = .returned (.bool true) ∧ w' = w := by
  go_enter Try.func12, Try.ntmps12
  go_wp2_with fail
  go_ret
  exact ⟨rfl, rfl⟩
set_option maxHeartbeats 1600000 in
theorem bytes_no (a0 a1 a2 a3 : Option Addr) (l0 l1 l2 l3 c0 c1 c2 c3 : Nat) (w : World) (h : 1048576 < l0 + l1 + l2 + l3) :
    Calls Try.prog 12 #[.slice a0 l0 c0, .slice a1 l1 c1, .slice a2 l2 c2, .slice a3 l3 c3] w fun e w' => e = .returned (.bool false) ∧ w' = w := by
  by_cases q0 : 1048576 < l0
  · go_enter Try.func12, Try.ntmps12
    go_wp2_with fail
    go_ret
    exact ⟨rfl, rfl⟩
  by_cases q1 : 1048576 < l1
  · go_enter Try.func12, Try.ntmps12
    go_wp2_with fail
    go_ret
    exact ⟨rfl, rfl⟩
  by_cases q2 : 1048576 < l0 + l1
  · go_enter Try.func12, Try.ntmps12
    go_wp2_with fail
    go_ret
    exact ⟨rfl, rfl⟩
  by_cases q3 : 1048576 < l2
  · go_enter Try.func12, Try.ntmps12
    go_wp2_with fail
    go_ret
    exact ⟨rfl, rfl⟩
  by_cases q4 : 1048576 < l0 + l1 + l2
  · go_enter Try.func12, Try.ntmps12
    go_wp2_with fail
    go_ret
    exact ⟨rfl, rfl⟩
  by_cases q5 : 1048576 < l3
  · go_enter Try.func12, Try.ntmps12
    go_wp2_with fail
    go_ret
    exact ⟨rfl, rfl⟩
  · go_enter Try.func12, Try.ntmps12
    go_wp2_with fail
    go_ret
    exact ⟨rfl, rfl⟩

/-! ### A row of bytes of the call's own; a source of bytes -/
def Own (w : World) (base : Nat) (v : Value) (xs : List Int) : Prop := w.ownsRow base 5 1 v xs.length (xs.map (Value.int .u8))
/-- A slice that holds these bytes: nil, or an address with the bytes behind it. -/
def Src (w : World) (a : Option Addr) (n c : Nat) (zs : List Int) : Prop :=
  (a = none ∧ n = 0 ∧ c = 0 ∧ zs = []) ∨ ∃ x, a = some x ∧ zs.length = n ∧ ∀ j z, zs[j]? = some z → w.cell? (x.add j) = some (.int .u8 z)

theorem Src.len {w : World} {a : Option Addr} {n c : Nat} {zs : List Int} (h : Src w a n c zs) : zs.length = n := by
  rcases h with ⟨_, rfl, _, rfl⟩ | ⟨x, _, h, _⟩
  · rfl
  · exact h
theorem Src.kept {w w' : World} {a : Option Addr} {n c : Nat} {zs : List Int} (h : Src w a n c zs) (hb : Below w.heap.size w w') : Src w' a n c zs := by
  rcases h with h | ⟨x, e, hl, hc⟩
  · exact .inl h
  · exact .inr ⟨x, e, hl, fun j z hj => (hb.cell (World.block_lt_of_cell? w _ (hc j z hj))).trans (hc j z hj)⟩
theorem Own.ge {w : World} {base : Nat} {v : Value} {xs : List Int} (h : Own w base v xs) : ∀ k, v.ownBlock = some k → base ≤ k := fun k hk => (World.ownsRow.lt h k hk).1

theorem wpList_app {w : World} {ops : Array Oper} {rest : List Oper} {o : Oper} {a : Act} {Q : Exit → Act → World → Prop} (hgd : o.guard = none) (s x : Operand)
    (ho : o.op = .call { callee := .builtin .append, args := #[s, x], argTypes := #[31, 31] })
    (base : Nat) (v : Value) (xs : List Int) (hs : a.eval s = v) (hown : Own w base v xs) (sa : Option Addr) (m c : Nat) (zs : List Int) (hx : a.eval x = .slice sa m c) (hsrc : Src w sa m c zs)
    (hb : xs.length + m ≤ 8000000) (hbase : base ≤ w.heap.size)
    (h : ∀ v' w', Own w' base v' (xs ++ zs) → w.grownBy w' v.ownBlock → wpList Try.prog ops Q rest (a.put o.dst v') w') : wpList Try.prog ops Q (o :: rest) a w := by
  obtain ⟨i, hi, hz0, hz1, hz2⟩ := info_parts info5
  rcases hsrc with ⟨rfl, rfl, rfl, rfl⟩ | ⟨y, rfl, hl, hc⟩
  · refine wpList_append_own_none hgd s x 31 ho base 5 i 1 Try.underlying31 hi v _ _ hs hown hx ?_
    refine h v w (by rw [List.append_nil]; exact hown) ⟨rfl, rfl, rfl, Nat.le_refl _, fun _ _ _ => rfl⟩
  · refine wpList_append_own w hgd s x 31 ho base 5 i (.int .u8 0) 1 1 Try.underlying31 hi hz0 hz1 hz2 rfl (by decide) v _ _ hs hown y m c (zs.map (Value.int .u8)) hx (by simp [hl]) ?_ (ints_oneCell .u8 zs) (by unfold maxLen; omega) (by omega) hbase ?_
    · intro j u hu
      rw [List.getElem?_map] at hu
      obtain ⟨z, hz, rfl⟩ := Option.map_eq_some_iff.1 hu
      exact hc j z hz
    · intro v' w' h1 h2 _
      refine h v' w' ?_ h2
      unfold Own
      rw [List.map_append, List.length_append, hl]
      exact h1

/-- What the writer of a length leaves. -/
def Wrote (base : Nat) (v : Value) (xs : List Int) (q : Nat) (w : World) (e : Ending) (w' : World) : Prop :=
  ∃ v', e = .returned v' ∧ Own w' base v' (xs ++ der q) ∧ w.grownBy w' v.ownBlock

theorem laid_wrote {base : Nat} {v : Value} {xs l : List Int} {q : Nat} {w : World} (hl : der q = l) (e : Ending) (w' : World) (h : Laid base xs.length v (xs.map (Value.int .u8)) l w e w') : Wrote base v xs q w e w' := by
  obtain ⟨v', e1, e2, e3⟩ := h
  refine ⟨v', e1, ?_, e3⟩
  unfold Own
  rw [hl, List.map_append, List.length_append]
  exact e2

theorem derAll (base : Nat) (v : Value) (xs : List Int) (q : Nat) (w : World) (hown : Own w base v xs) (hn : xs.length ≤ 4000000) (hb : base ≤ w.heap.size) (hq : q < 16777216) :
    Calls Try.prog 13 #[v, .int .i64 (q : Int)] w (Wrote base v xs q w) := by
  by_cases q1 : q < 128
  · exact (der1 base _ v _ q w hown hn hb (by omega) (by omega)).mono (laid_wrote (if_pos q1))
  by_cases q2 : q < 256
  · exact (der2 base _ v _ q w hown hn hb (by omega) (by omega)).mono (laid_wrote ((if_neg q1).trans (if_pos q2)))
  by_cases q3 : q < 65536
  · exact (der3 base _ v _ q w hown hn hb (by omega) (by omega)).mono (laid_wrote ((if_neg q1).trans ((if_neg q2).trans (if_pos q3))))
  · exact (der4 base _ v _ q w hown hn hb (by omega) (by omega)).mono (laid_wrote ((if_neg q1).trans ((if_neg q2).trans (if_neg q3))))

/-- A row of the call's own that holds something: where it lies. -/
theorem own_form {w : World} {base : Nat} {v : Value} {xs : List Int} (h : Own w base v xs) (hne : 0 < xs.length) :
    ∃ g cap, v = .slice (some ⟨g, 0, none⟩) xs.length cap ∧ xs.length ≤ cap ∧ base ≤ g ∧ g < w.heap.size ∧ Lies w g 0 xs := by
  unfold Own at h
  rcases h.2 with ⟨e, hn⟩ | ⟨g, cap, cur, e, _, _, hcap, _⟩
  · omega
  · have hl := World.ownsRow.lt h g (by rw [e]; rfl)
    refine ⟨g, cap, e, hcap, hl.1, hl.2, fun j z hz => ?_⟩
    have := h.cells (g := g) (by rw [e]; rfl) j (.int .u8 z) (by rw [List.getElem?_map, hz]; rfl)
    have hadd : (⟨g, 0, none⟩ : Addr).add j = ⟨g, 0 + j, none⟩ := by unfold Addr.add; split <;> simp_all
    rwa [hadd] at this
theorem Lies.src {w : World} {g c : Nat} {zs : List Int} (h : Lies w g 0 zs) : Src w (some ⟨g, 0, none⟩) zs.length c zs := by
  refine .inr ⟨_, rfl, rfl, fun j z hz => ?_⟩
  have hadd : (⟨g, 0, none⟩ : Addr).add j = ⟨g, 0 + j, none⟩ := by unfold Addr.add; split <;> simp_all
  rw [hadd]
  exact h j z hz
theorem Lies.kept' {w w' : World} {E o : Nat} {l : List Int} (h : Lies w E o l) (hb : Below w.heap.size w w') : Lies w' E o l :=
  fun j x hj => (hb.cell (World.block_lt_of_cell? w _ (h j x hj))).trans (h j x hj)
end Go.Proofs.Qxb6604715a.ser
