import Derived.Test.Qxb6604715aSerE
namespace Go.Proofs.Qxb6604715a.ser
open Go.ChangeShapes Go.WideShapes Go.ChangeAt Go.RowKit
set_option linter.unusedVariables false
set_option maxRecDepth 20000

/-- The bytes of a length. -/
def der (q : Nat) : List Int :=
  if q < 128 then [(q : Int)] else if q < 256 then [129, (q : Int)] else if q < 65536 then [130, (q : Int) / 256, (q : Int) % 256] else [131, (q : Int) / 65536, (q : Int) / 256 % 256, (q : Int) % 256]
/-- How long tag and length are together. -/
def hlen (q : Nat) : Nat := (der q).length + 1
theorem hlen_le (q : Nat) : hlen q ≤ 5 := by
  unfold hlen der
  repeat' split
  all_goals simp
theorem hlen_ge (q : Nat) : 2 ≤ hlen q := by
  unfold hlen der
  repeat' split
  all_goals simp

/-- From cell 'o' of block E on these bytes lie. -/
def Lies (w : World) (E o : Nat) (l : List Int) : Prop := ∀ j x, l[j]? = some x → w.cell? ⟨E, o + j, none⟩ = some (.int .u8 x)
theorem Lies.kept {w w' : World} {E o : Nat} {l : List Int} {bs : List Nat} (h : Lies w E o l) (t : Turns bs w w') (hE : E < w.heap.size) (hn : E ∉ bs) : Lies w' E o l :=
  fun j x hj => (World.cell?_of_block (w := w) (t.block E hE hn)).trans (h j x hj)
theorem Lies.left {w : World} {E o : Nat} {a b : List Int} (h : Lies w E o (a ++ b)) : Lies w E o a := by
  intro j x hj
  refine h j x ?_
  rw [List.getElem?_append_left]
  · exact hj
  · rcases Nat.lt_or_ge j a.length with h' | h'
    · exact h'
    · rw [List.getElem?_eq_none h'] at hj; cases hj
theorem Lies.right {w : World} {E o : Nat} {a b : List Int} (h : Lies w E o (a ++ b)) : Lies w E (o + a.length) b := by
  intro j x hj
  have := h (a.length + j) x (by rw [List.getElem?_append_right (by omega)]; simpa using hj)
  rw [Nat.add_assoc]
  exact this

theorem asn (tag : Int) (ht : tag = 48 ∨ tag = 2) (S O T E o n c L : Nat) (u v : Value) (w : World) (hS : Boxed w S 107 (.slice (some ⟨E, o, none⟩) n c)) (hO : Boxed w O 107 u) (hT : Boxed w T 110 v) (hSO : O ≠ S) (hTS : T ≠ S) (hTO : T ≠ O) (hES : E ≠ S) (hEO : E ≠ O) (hET : E ≠ T) (hE : E < w.heap.size)
    (hL : L < 16777216) (hk : hlen L + L ≤ n) (hn : n ≤ c) (hl : Lies w E o (tag :: der L)) :
    Calls Try.prog 38 #[.pointer (some ⟨S, 0, none⟩), .pointer (some ⟨O, 0, none⟩), .pointer (some ⟨T, 0, none⟩), .bool true] w (Took S O T E o (hlen L) L c tag w) := by
  by_cases q1 : L < 128
  · have e : der L = [(L : Int)] := if_pos q1
    have eh : hlen L = 2 := by simp [hlen, e]
    rw [e] at hl
    rw [eh] at hk ⊢
    have h0 := hl 0 _ rfl
    have h1 := hl 1 _ rfl
    rcases ht with rfl | rfl
    · exact short48 S O T E o n c L u v w hS hO hT hSO hTS hTO hES hEO hET q1 hk hn h0 h1
    · exact short2 S O T E o n c L u v w hS hO hT hSO hTS hTO hES hEO hET q1 hk hn h0 h1
  by_cases q2 : L < 256
  · have e : der L = [129, (L : Int)] := (if_neg q1).trans (if_pos q2)
    have eh : hlen L = 3 := by simp [hlen, e]
    rw [e] at hl
    rw [eh] at hk ⊢
    have h0 := hl 0 _ rfl
    have h1 := hl 1 _ rfl
    have h2 := hl 2 _ rfl
    rcases ht with rfl | rfl
    · exact long48_1 S O T E o n c L u v w hS hO hT hSO hTS hTO hES hEO hET hE (by omega) q2 hk hn h0 h1 h2
    · exact long2_1 S O T E o n c L u v w hS hO hT hSO hTS hTO hES hEO hET hE (by omega) q2 hk hn h0 h1 h2
  by_cases q3 : L < 65536
  · have e : der L = [130, (L : Int) / 256, (L : Int) % 256] := (if_neg q1).trans ((if_neg q2).trans (if_pos q3))
    have eh : hlen L = 4 := by simp [hlen, e]
    rw [e] at hl
    rw [eh] at hk ⊢
    have h0 := hl 0 _ rfl
    have h1 := hl 1 _ rfl
    have h2 := hl 2 _ rfl
    have h3 := hl 3 _ rfl
    rcases ht with rfl | rfl
    · exact long48_2 S O T E o n c L u v w hS hO hT hSO hTS hTO hES hEO hET hE (by omega) q3 hk hn h0 h1 h2 h3
    · exact long2_2 S O T E o n c L u v w hS hO hT hSO hTS hTO hES hEO hET hE (by omega) q3 hk hn h0 h1 h2 h3
  · have e : der L = [131, (L : Int) / 65536, (L : Int) / 256 % 256, (L : Int) % 256] := (if_neg q1).trans ((if_neg q2).trans (if_neg q3))
    have eh : hlen L = 5 := by simp [hlen, e]
    rw [e] at hl
    rw [eh] at hk ⊢
    have h0 := hl 0 _ rfl
    have h1 := hl 1 _ rfl
    have h2 := hl 2 _ rfl
    have h3 := hl 3 _ rfl
    have h4 := hl 4 _ rfl
    rcases ht with rfl | rfl
    · exact long48_3 S O T E o n c L u v w hS hO hT hSO hTS hTO hES hEO hET hE (by omega) hL hk hn h0 h1 h2 h3 h4
    · exact long2_3 S O T E o n c L u v w hS hO hT hSO hTS hTO hES hEO hET hE (by omega) hL hk hn h0 h1 h2 h3 h4

set_option maxHeartbeats 800000 in
theorem any (tag : Int) (ht : tag = 48 ∨ tag = 2) (S O T E o n c L : Nat) (u v : Value) (w : World) (hS : Boxed w S 107 (.slice (some ⟨E, o, none⟩) n c)) (hO : Boxed w O 107 u) (hT : Boxed w T 110 v) (hSO : O ≠ S) (hTS : T ≠ S) (hTO : T ≠ O) (hES : E ≠ S) (hEO : E ≠ O) (hET : E ≠ T) (hE : E < w.heap.size)
    (hL : L < 16777216) (hk : hlen L + L ≤ n) (hn : n ≤ c) (hl : Lies w E o (tag :: der L)) :
    Calls Try.prog 35 #[.pointer (some ⟨S, 0, none⟩), .pointer (some ⟨O, 0, none⟩), .pointer (some ⟨T, 0, none⟩)] w (Took S O T E o (hlen L) L c tag w) := by
  go_enter Try.func35, Try.ntmps35
  go_wp2_with fail
  refine (asn tag ht S O T E o n c L u v w hS hO hT hSO hTS hTO hES hEO hET hE hL hk hn hl).mono ?_
  rintro e w' ⟨rfl, h1, h2, h3⟩
  go_wp2_with fail
  go_ret
  exact ⟨rfl, h1, h2, h3⟩

/-- What reading one element of a known tag leaves. -/
def Got (S O E o h L c : Nat) (w : World) (e : Ending) (w' : World) : Prop :=
  e = .returned (.bool true) ∧ Boxed w' O 107 (.slice (some (adv E o h c)) L (c - h)) ∧ Turns [S, O] w w'

theorem Turns.fewer {S O : Nat} {w W w' : World} {o : Obj} (hW : w.alloc o = W) (h : Turns [S, O, w.heap.size] W w') : Turns [S, O] w w' := by
  refine ((Turns.refl [S, O] w).alloc o).trans (hW ▸ h) ?_
  intro x hx
  simp at hx ⊢
  omega

set_option maxHeartbeats 800000 in
theorem readASN1 (tag : Int) (ht : tag = 48 ∨ tag = 2) (S O E o n c L : Nat) (u : Value) (w : World) (hS : Boxed w S 107 (.slice (some ⟨E, o, none⟩) n c)) (hO : Boxed w O 107 u) (hSO : O ≠ S) (hES : E ≠ S) (hEO : E ≠ O) (hE : E < w.heap.size)
    (hL : L < 16777216) (hk : hlen L + L ≤ n) (hn : n ≤ c) (hl : Lies w E o (tag :: der L)) :
    Calls Try.prog 32 #[.pointer (some ⟨S, 0, none⟩), .pointer (some ⟨O, 0, none⟩), .int .u8 tag] w (Got S O E o (hlen L) L c w) := by
  have ls := hS.lt
  have lo := hO.lt
  obtain ⟨W, hW⟩ : ∃ W, w.alloc (.cells #[.int .u8 0] 110) = W := ⟨_, rfl⟩
  have bS : Boxed W S 107 (.slice (some ⟨E, o, none⟩) n c) := hW ▸ hS.alloc _
  have bO : Boxed W O 107 u := hW ▸ hO.alloc _
  have bT : Boxed W w.heap.size 110 (.int .u8 0) := hW ▸ Boxed.new w 110 _
  have sz : w.heap.size < W.heap.size := bT.lt
  have bl : Lies W E o (tag :: der L) := hl.kept (bs := []) (hW ▸ (Turns.refl [] w).alloc _) hE (by simp)
  go_enter Try.func32, Try.ntmps32
  go_wp2_with fail
  refine (any tag ht S O w.heap.size E o n c L u _ W bS bO bT hSO (by omega) (by omega) hES hEO (by omega) (by omega) hL hk hn bl).mono ?_
  rintro e w' ⟨rfl, h1, h2, h3⟩
  have h2c := h2.cell
  have h4 : Turns [S, O] w w' := Turns.fewer hW h3
  go_wp2_with fail
  go_ret
  exact ⟨rfl, h1, h4⟩
end Go.Proofs.Qxb6604715a.ser
