/-
  PLAIN: the crashes of a list that fall in round r, numbered from s + 1 on: 'evsFrom r s cs'. Of Go's model only addresses and values stand here.
-/
import Derived.RowKit
namespace Go.Proofs.Qxb6613846a
open Go

/-- A crash as it lies in memory: process, round, and the header of the slice of those it reached. -/
structure Cr where
  p : Int
  r : Int
  ad : Option Addr
  len : Nat
  cap : Nat

/-- The crashes of round r, each with its process number: the first of the list has the number s + 1. -/
def evsFrom (r : Int) : Nat → List (Option Cr) → List (Int × Cr)
  | _, [] => []
  | s, none :: t => evsFrom r (s + 1) t
  | s, some c :: t => if c.r = r then (((s + 1 : Nat) : Int), c) :: evsFrom r (s + 1) t else evsFrom r (s + 1) t

theorem evsFrom_append (r : Int) (b : List (Option Cr)) : ∀ (a : List (Option Cr)) (s : Nat), evsFrom r s (a ++ b) = evsFrom r s a ++ evsFrom r (s + a.length) b := by
  intro a
  induction a with
  | nil => intro s; simp [evsFrom]
  | cons x a ih =>
    intro s
    have e : s + (x :: a).length = s + 1 + a.length := by simp; omega
    rw [e]
    cases x with
    | none => simp only [List.cons_append, evsFrom]; exact ih (s + 1)
    | some c =>
      simp only [List.cons_append, evsFrom]
      split
      · rw [List.cons_append, ih (s + 1)]
      · exact ih (s + 1)

/-- Renumbering. -/
theorem evsFrom_shift (r : Int) (d : Nat) : ∀ (a : List (Option Cr)) (s : Nat), evsFrom r (s + d) a = (evsFrom r s a).map fun e => (e.1 + (d : Int), e.2) := by
  intro a
  induction a with
  | nil => intro s; simp [evsFrom]
  | cons x a ih =>
    intro s
    have e : s + d + 1 = s + 1 + d := by omega
    cases x with
    | none => simp only [evsFrom]; rw [e]; exact ih (s + 1)
    | some c =>
      simp only [evsFrom]
      split
      · rw [e, ih (s + 1), List.map_cons]
        congr 1
      · rw [e]; exact ih (s + 1)

theorem evsFrom_le (r : Int) : ∀ (a : List (Option Cr)) (s : Nat), (evsFrom r s a).length ≤ a.length := by
  intro a
  induction a with
  | nil => intro s; simp [evsFrom]
  | cons x a ih =>
    intro s
    have := ih (s + 1)
    cases x with
    | none => simp only [evsFrom, List.length_cons]; omega
    | some c =>
      simp only [evsFrom]
      split <;> simp only [List.length_cons] <;> omega

theorem evsFrom_mem (r : Int) : ∀ (a : List (Option Cr)) (s : Nat) (e : Int × Cr), e ∈ evsFrom r s a → some e.2 ∈ a ∧ (s : Int) < e.1 ∧ e.1 ≤ (s : Int) + a.length := by
  intro a
  induction a with
  | nil => intro s e h; simp [evsFrom] at h
  | cons x a ih =>
    intro s e h
    cases x with
    | none =>
      simp only [evsFrom] at h
      obtain ⟨h1, h2, h3⟩ := ih (s + 1) e h
      exact ⟨List.mem_cons_of_mem _ h1, by omega, by simp only [List.length_cons]; omega⟩
    | some c =>
      simp only [evsFrom] at h
      split at h
      · rcases List.mem_cons.1 h with h | h
        · subst h; exact ⟨List.mem_cons_self, by omega, by simp only [List.length_cons]; omega⟩
        · obtain ⟨h1, h2, h3⟩ := ih (s + 1) e h
          exact ⟨List.mem_cons_of_mem _ h1, by omega, by simp only [List.length_cons]; omega⟩
      · obtain ⟨h1, h2, h3⟩ := ih (s + 1) e h
        exact ⟨List.mem_cons_of_mem _ h1, by omega, by simp only [List.length_cons]; omega⟩

/-- The numbers rise. -/
theorem evsFrom_sorted (r : Int) : ∀ (a : List (Option Cr)) (s : Nat), (evsFrom r s a).Pairwise fun x y => x.1 < y.1 := by
  intro a
  induction a with
  | nil => intro s; simp [evsFrom]
  | cons x a ih =>
    intro s
    cases x with
    | none => simp only [evsFrom]; exact ih (s + 1)
    | some c =>
      simp only [evsFrom]
      split
      · refine List.pairwise_cons.2 ⟨fun y hy => ?_, ih (s + 1)⟩
        have := (evsFrom_mem r a (s + 1) y hy).2.1
        omega
      · exact ih (s + 1)

theorem evsFrom_take_succ (r : Int) (cs : List (Option Cr)) (j : Nat) (h : j < cs.length) :
    evsFrom r 0 (cs.take (j + 1)) = evsFrom r 0 (cs.take j) ++ evsFrom r j [cs.getD j none] := by
  rw [List.take_succ_eq_append_getElem h, evsFrom_append, List.length_take, Nat.min_eq_left (by omega), Nat.zero_add]
  simp [List.getD_eq_getElem?_getD, h]

/-- The cells of one event. -/
def evCells (r : Int) (e : Int × Cr) : List Value := [.int .i64 r, .int .i64 0, .int .i8 2, .int .i64 e.1, .int .i64 0, .string ⟨#[]⟩, .slice e.2.ad e.2.len e.2.cap]
def allCells (r : Int) (es : List (Int × Cr)) : List Value := es.flatMap (evCells r)

theorem allCells_append (r : Int) (a b : List (Int × Cr)) : allCells r (a ++ b) = allCells r a ++ allCells r b := by simp [allCells]

theorem allCells_get (r : Int) : ∀ (es : List (Int × Cr)) (i j : Nat), i < es.length → j < 7 → (allCells r es)[i * 7 + j]? = (evCells r (es.getD i (0, ⟨0, 0, none, 0, 0⟩)))[j]? := by
  intro es
  induction es with
  | nil => intro i j h; simp at h
  | cons e es ih =>
    intro i j h hj
    cases i with
    | zero =>
      simp only [allCells, List.flatMap_cons, Nat.zero_mul, Nat.zero_add, List.getD_cons_zero]
      rw [List.getElem?_append_left (by simp [evCells]; exact hj)]
    | succ i =>
      have e1 : (i + 1) * 7 + j = 7 + (i * 7 + j) := by omega
      simp only [allCells, List.flatMap_cons, List.getD_cons_succ]
      rw [e1, List.getElem?_append_right (by simp [evCells])]
      have e2 : 7 + (i * 7 + j) - (evCells r e).length = i * 7 + j := by simp [evCells]
      rw [e2]
      exact ih i j (by simpa using h) hj

theorem allCells_length (r : Int) (es : List (Int × Cr)) : (allCells r es).length = es.length * 7 := by
  induction es with
  | nil => simp [allCells]
  | cons e es ih =>
    have : allCells r (e :: es) = evCells r e ++ allCells r es := by simp [allCells]
    rw [this, List.length_append, ih]
    simp [evCells]; omega

end Go.Proofs.Qxb6613846a
