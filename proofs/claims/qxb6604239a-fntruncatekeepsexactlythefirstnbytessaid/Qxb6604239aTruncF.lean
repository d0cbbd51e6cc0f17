import Derived.Test.Qxb6604239aTruncE
namespace Go.Proofs.Qxb6604239a.trunc
open Go.ChangeShapes Go.WideShapes Go.ChangeAt Go.RowKit
open Go.Proofs.Qxb6604239a.esc Go.Proofs.Qxb6604239a.copy
set_option linter.unusedVariables false

/-- A slice of bytes as it comes in: nil, or cells that are known. -/
def Src (w : World) (a : Option Addr) (n c : Nat) (f : Nat → Int) : Prop := (a = none ∧ n = 0 ∧ c = 0) ∨ ∃ x, a = some x ∧ ∀ i, i < n → w.cell? (x.add i) = some (.int .u8 (f i))
/-- A slice of bytes that the law itself has made at block B. -/
def HasRow (w : World) (a : Option Addr) (B m : Nat) (l : Nat → Int) : Prop := (a = none ∧ m = 0) ∨ (a = some ⟨B, 0, none⟩ ∧ w.rowIs B 5 m (fun i => .int .u8 (l i)))
/-- A deep copy that the law itself has made from block B on. -/
def HasDeep (w : World) (a : Option Addr) (B N P : Nat) (g : Nat → Nat → Int) : Prop := (a = none ∧ N = 0) ∨ (a = some ⟨B, 0, none⟩ ∧ DeepRow w B N P g)

theorem HasRow.keep {w w' : World} {a : Option Addr} {B m : Nat} {l : Nat → Int} (h : HasRow w a B m l) (hk : ∀ k, k < w.heap.size → w'.heap[k]? = w.heap[k]?) : HasRow w' a B m l := by
  rcases h with h | ⟨e, h⟩
  · exact .inl h
  · exact .inr ⟨e, h.of_block (hk _ h.lt)⟩
theorem HasDeep.keep {w w' : World} {a : Option Addr} {B N P : Nat} {g : Nat → Nat → Int} (h : HasDeep w a B N P g) (hk : ∀ k, k < w.heap.size → w'.heap[k]? = w.heap[k]?) : HasDeep w' a B N P g := by
  rcases h with h | ⟨e, h1, h2⟩
  · exact .inl h
  · exact .inr ⟨e, h1.of_block (hk _ h1.lt), fun j hj => (h2 j hj).of_block (hk _ (h2 j hj).lt)⟩
theorem HasRow.reads {w : World} {a : Option Addr} {B m : Nat} {l : Nat → Int} (h : HasRow w a B m l) : Reads w a m l := by
  rcases h with ⟨_, h⟩ | ⟨e, h⟩
  · exact .inl h
  · exact .inr ⟨B, 0, e, fun i hi => by rw [Nat.zero_add]; exact h.cell hi⟩
theorem HasRow.src {w : World} {a : Option Addr} {B m : Nat} {l : Nat → Int} (h : HasRow w a B m l) : Src w a m m l := by
  rcases h with ⟨h1, h2⟩ | ⟨e, h⟩
  · exact .inl ⟨h1, h2, h2⟩
  · exact .inr ⟨_, e, fun i hi => by rw [add_plain, Nat.zero_add]; exact h.cell hi⟩
theorem HasDeep.pcs {w : World} {a : Option Addr} {B N P : Nat} {g : Nat → Nat → Int} (h : HasDeep w a B N P g) : Pcs w a N P g := by
  rcases h with ⟨_, h⟩ | ⟨e, h1, h2⟩
  · exact .inl h
  · exact .inr ⟨B, 0, e, fun j hj => ⟨B + 1 + j, 0, P, by rw [Nat.zero_add]; exact h1.cell hj, fun i hi => by rw [Nat.zero_add]; exact (h2 j hj).cell hi⟩⟩
theorem HasDeep.cell {w : World} {a : Option Addr} {B N P : Nat} {g : Nat → Nat → Int} (h : HasDeep w a B N P g) {j : Nat} (hj : j < N) : a = some ⟨B, 0, none⟩ ∧ w.cell? ⟨B, j, none⟩ = some (.slice (some ⟨B + 1 + j, 0, none⟩) P P) := by
  rcases h with ⟨_, h⟩ | ⟨e, h1, h2⟩
  · omega
  · exact ⟨e, h1.cell hj⟩
theorem HasDeep.piece {w : World} {a : Option Addr} {B N P : Nat} {g : Nat → Nat → Int} (h : HasDeep w a B N P g) {j : Nat} (hj : j < N) : Reads w (some ⟨B + 1 + j, 0, none⟩) P (g j) := by
  rcases h with ⟨_, h⟩ | ⟨e, h1, h2⟩
  · omega
  · exact .inr ⟨_, 0, rfl, fun i hi => by rw [Nat.zero_add]; exact (h2 j hj).cell hi⟩

theorem copyU (a : Option Addr) (n c : Nat) (f : Nat → Int) (w : World) (hn : n ≤ 1048576) (h : Src w a n c f) :
    Calls Try.prog 11 #[.slice a n c] w fun e w' => ∃ a', e = .returned (.slice a' n n) ∧ HasRow w' a' w.heap.size n f ∧ Below w.heap.size w w' ∧ a'.isNone = a.isNone := by
  rcases h with ⟨rfl, rfl, rfl⟩ | ⟨x, rfl, hc⟩
  · exact (copy_nil w).mono fun e w' ⟨h1, h2⟩ => ⟨none, h1, .inl ⟨rfl, rfl⟩, by rw [h2]; exact Below.refl _ _, rfl⟩
  · exact (copy_at x n c f w hn hc).mono fun e w' ⟨h1, h2, h3, _⟩ => ⟨_, h1, .inr ⟨rfl, h2⟩, h3, rfl⟩
theorem deepU (a : Option Addr) (N c P : Nat) (g : Nat → Nat → Int) (w : World) (hN : N ≤ 43690) (hP : P ≤ 1048576) (h : Pcs w a N P g) (hn : (a = none ∧ N = 0 ∧ c = 0) ∨ ∃ x, a = some x) :
    Calls Try.prog 10 #[.slice a N c] w fun e w' => ∃ a', e = .returned (.slice a' N N) ∧ HasDeep w' a' w.heap.size N P g ∧ Below w.heap.size w w' ∧ a'.isNone = a.isNone := by
  rcases hn with ⟨rfl, rfl, rfl⟩ | ⟨x, rfl⟩
  · exact (deep_nil w).mono fun e w' ⟨h1, h2⟩ => ⟨none, h1, .inl ⟨rfl, rfl⟩, by rw [h2]; exact Below.refl _ _, rfl⟩
  · exact (deep_some x N c P g w hN hP h).mono fun e w' ⟨h1, h2, h3, _⟩ => ⟨_, h1, .inr ⟨rfl, h2⟩, h3, rfl⟩
theorem HasDeep.nilOr {w : World} {a : Option Addr} {B N P : Nat} {g : Nat → Nat → Int} (h : HasDeep w a B N P g) : (a = none ∧ N = 0 ∧ N = 0) ∨ ∃ x, a = some x := by
  rcases h with ⟨h1, h2⟩ | ⟨e, _⟩
  · exact .inl ⟨h1, h2, h2⟩
  · exact .inr ⟨_, e⟩

/-- The row of held pieces behind k rounds. -/
def HoldAt (w5 : World) (B4 N P k : Nat) (wr : World) : Prop :=
  wr.rowIs w5.heap.size 23 N (fun j => if j < k then .slice (some ⟨B4 + 1 + j, 0, none⟩) P P else .slice none 0 0) ∧ Below w5.heap.size w5 wr
theorem holdAt_next {w5 wr : World} {B4 N P k : Nat} (h : HoldAt w5 B4 N P k wr) : HoldAt w5 B4 N P (k + 1) (wr.setCell ⟨w5.heap.size, k, none⟩ (.slice (some ⟨B4 + 1 + k, 0, none⟩) P P)) := by
  obtain ⟨h1, h2⟩ := h
  refine ⟨?_, h2.setCell (Nat.le_refl _) _⟩
  refine (h1.set k _).congr (fun j hj => ?_)
  by_cases e1 : j = k
  · simp [e1]
  · by_cases e2 : j < k
    · simp [e1, e2, show j < k + 1 by omega]
    · simp [e1, e2, show ¬ j < k + 1 by omega]

/-- All that the law holds in its hands when it calls ZZTruncate (w0: the world it began in; w6: the world then). -/
structure Hands (w0 w6 : World) (fa la fca lca : Option Addr) (B1 B2 B3 B4 B5 B6 N P m T : Nat) (g : Nat → Nat → Int) (l F : Nat → Int) : Prop where
  full : HasDeep w6 fa B1 N P g
  last : HasRow w6 la B2 m l
  bef : w6.rowIs B3 5 T (fun k => .int .u8 (F k))
  fc : HasDeep w6 fca B4 N P g
  lc : HasRow w6 lca B5 m l
  hold : w6.rowIs B6 23 N (fun j => .slice (some ⟨B4 + 1 + j, 0, none⟩) P P)
  below : Below w0.heap.size w0 w6
  old : w0.heap.size ≤ B4
  apart1 : fa = some ⟨B1, 0, none⟩ → B1 + 1 + N ≤ B4
  apart2 : B2 < B4 ∨ m = 0
  apart3 : B3 < B4
  apart5 : fca = some ⟨B4, 0, none⟩ → B4 < B5 ∧ B4 < B6
end Go.Proofs.Qxb6604239a.trunc
