/-
  THE PLAIN LAW OF SEAT b6613797a: a written end under any list of notes knows exactly the marks that lie at or before a known start or some note. No Go in sight.
-/
import Derived.RowKit
namespace Go.Proofs.Qxb6613797a.Plain

/-- 'before': (a, b) lies strictly before (c, d). -/
def bef (a b c d : Int) : Bool := decide (a < c) || (a == c && decide (b < d))
/-- 'lawMarkLE': (a, b) lies at or before (c, d). -/
def le (a b c d : Int) : Bool := if a = c then decide (b ≤ d) else decide (a < c)

theorem le_eq (a b c d : Int) : le a b c d = !bef c d a b := by
  unfold le bef
  by_cases h : a = c
  · subst h
    by_cases h2 : b ≤ d
    · have : ¬ d < b := by omega
      simp [h2, this]
    · have : d < b := by omega
      simp [h2, this]
  · have h' : (c == a) = false := by simp; omega
    rw [if_neg h, h']
    by_cases h2 : a < c
    · have : ¬ c < a := by omega
      simp [h2, this]
    · have : c < a := by omega
      simp [h2, this]

/-- The written end: the mark (s, o), known or not. -/
structure WEnd where
  s : Int
  o : Int
  k : Bool

def note (e : WEnd) (m : Int × Int) : WEnd := if e.k && !bef e.s e.o m.1 m.2 then e else ⟨m.1, m.2, true⟩
def knows (e : WEnd) (m : Int × Int) : Bool := e.k && !bef e.s e.o m.1 m.2
def anyLe (ns : List (Int × Int)) (q : Int × Int) : Bool := ns.any fun n => le q.1 q.2 n.1 n.2
def want (known : Bool) (s o : Int) (ns : List (Int × Int)) (q : Int × Int) : Bool := (known && le q.1 q.2 s o) || anyLe ns q

theorem bef_false (a b c d : Int) : bef a b c d = false ↔ (c < a ∨ (c = a ∧ d ≤ b)) := by
  unfold bef
  simp only [Bool.or_eq_false_iff, decide_eq_false_iff_not, Bool.and_eq_false_iff, beq_eq_false_iff_ne]
  omega
theorem bef_true (a b c d : Int) : bef a b c d = true ↔ (a < c ∨ (a = c ∧ b < d)) := by
  unfold bef
  simp only [Bool.or_eq_true, decide_eq_true_eq, Bool.and_eq_true, beq_iff_eq]

theorem knows_note (e : WEnd) (n q : Int × Int) : knows (note e n) q = (knows e q || le q.1 q.2 n.1 n.2) := by
  obtain ⟨s, o, k⟩ := e
  rw [le_eq]
  unfold note knows
  cases k
  · simp
  · cases h : bef s o n.1 n.2
    · simp only [Bool.not_false, Bool.and_true, if_true, Bool.true_and]
      cases h1 : bef s o q.1 q.2
      · simp
      · have a1 := (bef_false _ _ _ _).1 h
        have a2 := (bef_true _ _ _ _).1 h1
        have : bef n.1 n.2 q.1 q.2 = true := (bef_true _ _ _ _).2 (by omega)
        simp [this]
    · simp only [Bool.not_true, Bool.and_false, Bool.false_eq_true, if_false, Bool.true_and]
      cases h1 : bef s o q.1 q.2
      · have a1 := (bef_true _ _ _ _).1 h
        have a2 := (bef_false _ _ _ _).1 h1
        have : bef n.1 n.2 q.1 q.2 = false := (bef_false _ _ _ _).2 (by omega)
        simp [this]
      · simp

theorem knows_notes (ns : List (Int × Int)) : ∀ (e : WEnd) (q : Int × Int), knows (ns.foldl note e) q = (knows e q || anyLe ns q) := by
  induction ns with
  | nil => intro e q; simp [anyLe]
  | cons n ns ih =>
    intro e q
    rw [List.foldl_cons, ih, knows_note]
    simp [anyLe, Bool.or_assoc]

theorem knows_start (s o : Int) (k : Bool) (q : Int × Int) : knows ⟨s, o, k⟩ q = (k && le q.1 q.2 s o) := by
  rw [le_eq]; rfl

/-- THE LAW: what is known behind the notes is what 'lawAnyAtOrAfter' says. -/
theorem knows_want (s o : Int) (k : Bool) (ns : List (Int × Int)) (q : Int × Int) : knows (ns.foldl note ⟨s, o, k⟩) q = want k s o ns q := by
  rw [knows_notes, knows_start]; rfl

theorem anyLe_mem (ns : List (Int × Int)) (n : Int × Int) (h : n ∈ ns) : anyLe ns n = true := by
  unfold anyLe
  rw [List.any_eq_true]
  exact ⟨n, h, by simp [le]⟩

/-- Every note is known behind the notes. -/
theorem knows_each (e : WEnd) (ns : List (Int × Int)) (n : Int × Int) (h : n ∈ ns) : knows (ns.foldl note e) n = true := by
  rw [knows_notes, anyLe_mem ns n h]; simp

/-- A known start stays known. -/
theorem knows_known (s o : Int) (ns : List (Int × Int)) : knows (ns.foldl note ⟨s, o, true⟩) (s, o) = true := by
  rw [knows_want]; simp [want, le]

/-- Rotated at any cut: the same answers. -/
theorem knows_rot (s o : Int) (k : Bool) (ns : List (Int × Int)) (c : Nat) (q : Int × Int) : knows ((ns.drop c ++ ns.take c).foldl note ⟨s, o, k⟩) q = want k s o ns q := by
  rw [knows_want]
  unfold want anyLe
  rw [List.any_append, Bool.or_comm (List.any (List.drop c ns) _), ← List.any_append, List.take_append_drop]

theorem mem_rot (ns : List (Int × Int)) (c : Nat) (n : Int × Int) (h : n ∈ ns) : n ∈ ns.drop c ++ ns.take c := by
  rw [← List.take_append_drop c ns] at h
  rw [List.mem_append] at h ⊢
  exact h.symm

end Go.Proofs.Qxb6613797a.Plain
