import Derived.Test.Qxb6613797aProg
import Derived.WalkKit
import Derived.WalkSpells
import Derived.Below
import Derived.Outline
import Derived.Test.Qxb6613797aPlain
namespace Go.Proofs.Qxb6613797a
open Go.RowKit
open Plain
set_option linter.unusedSimpArgs false

set_option maxHeartbeats 400000 in
theorem before_any (a b c d : Int) (w : World) :
    Calls Try.prog 12 #[.agg #[.int .u32 a, .int .i64 b], .agg #[.int .u32 c, .int .i64 d]] w fun e w' => e = .returned (.bool (bef a b c d)) ∧ w' = (w.alloc (.cells #[.int .u32 a, .int .i64 b] 29)).alloc (.cells #[.int .u32 c, .int .i64 d] 29) := by
  by_cases h1 : a < c
  · go_enter Try.func12, Try.ntmps12
    go_wp2
    go_ret
    exact ⟨by simp [bef, h1], rfl⟩
  · by_cases h2 : a = c
    · by_cases h3 : b < d
      · go_enter Try.func12, Try.ntmps12
        go_wp2
        go_ret
        exact ⟨by simp [bef, h1, h2, h3], rfl⟩
      · go_enter Try.func12, Try.ntmps12
        go_wp2
        go_ret
        exact ⟨by simp [bef, h1, h2, h3], rfl⟩
    · go_enter Try.func12, Try.ntmps12
      go_wp2
      go_ret
      exact ⟨by simp [bef, h1, h2], rfl⟩

theorem toMark_any (a b : Int) (w : World) :
    Calls Try.prog 7 #[.agg #[.int .u32 a, .int .i64 b]] w fun e w' => e = .returned (.agg #[.int .u32 a, .int .i64 b]) ∧ Below w.heap.size w w' := by
  go_enter Try.func7, Try.ntmps7
  go_wp2
  exact bodyPost_ret (v := .agg #[.int .u32 a, .int .i64 b]) (by simp [results, Try.results7, go_sem]) rfl ⟨rfl, ((Below.refl _ _).alloc (Nat.le_refl _) _).alloc (by simp) _⟩

set_option maxHeartbeats 400000 in
theorem markLE_any (a b c d : Int) (w : World) :
    Calls Try.prog 14 #[.agg #[.int .u32 a, .int .i64 b], .agg #[.int .u32 c, .int .i64 d]] w fun e w' => e = .returned (.bool (le a b c d)) ∧ Below w.heap.size w w' := by
  by_cases h2 : a = c
  · subst h2
    go_enter Try.func14, Try.ntmps14
    go_wp2
    go_ret
    exact ⟨by simp [le], ((Below.refl _ _).alloc (Nat.le_refl _) _).alloc (by simp) _⟩
  · go_enter Try.func14, Try.ntmps14
    go_wp2
    go_ret
    exact ⟨by simp [le, h2], ((Below.refl _ _).alloc (Nat.le_refl _) _).alloc (by simp) _⟩

theorem bytesM_any (k : Bool) (a b c d : Int) (ad : Option Addr) (len cap : Nat) (w : World) (hl : len ≤ maxLen) :
    Calls Try.prog 5 #[.bool k, .agg #[.int .u32 a, .int .i64 b], .slice ad len cap, .agg #[.int .u32 c, .int .i64 d]] w fun e w' => e = .returned (.bool (decide (len ≤ 1048576))) ∧ Below w.heap.size w w' := by
  unfold maxLen at hl
  by_cases h : len ≤ 1048576
  · go_enter Try.func5, Try.ntmps5
    go_wp2
    go_ret
    exact ⟨by simp [h], ((Below.refl _ _).alloc (Nat.le_refl _) _).alloc (by simp) _⟩
  · go_enter Try.func5, Try.ntmps5
    go_wp2
    go_ret
    exact ⟨by simp [h], ((Below.refl _ _).alloc (Nat.le_refl _) _).alloc (by simp) _⟩

theorem bytesI_any (k : Bool) (a b c d cut : Int) (ad : Option Addr) (len cap : Nat) (w : World) (hl : len ≤ maxLen) :
    Calls Try.prog 11 #[.bool k, .agg #[.int .u32 a, .int .i64 b], .slice ad len cap, .int .i64 cut, .agg #[.int .u32 c, .int .i64 d]] w fun e w' => e = .returned (.bool (decide (len ≤ 1048576))) ∧ Below w.heap.size w w' := by
  unfold maxLen at hl
  by_cases h : len ≤ 1048576
  · go_enter Try.func11, Try.ntmps11
    go_wp2
    go_ret
    exact ⟨by simp [h], ((Below.refl _ _).alloc (Nat.le_refl _) _).alloc (by simp) _⟩
  · go_enter Try.func11, Try.ntmps11
    go_wp2
    go_ret
    exact ⟨by simp [h], ((Below.refl _ _).alloc (Nat.le_refl _) _).alloc (by simp) _⟩

/-- A log at block b whose written end is e. -/
structure LogAt (w : World) (b : Nat) (e : WEnd) : Prop where
  lt : b < w.heap.size
  c8 : w.cell? ⟨b, 8, none⟩ = some (.int .u32 e.s)
  c9 : w.cell? ⟨b, 9, none⟩ = some (.int .i64 e.o)
  c10 : w.cell? ⟨b, 10, none⟩ = some (.bool e.k)
  c11 : w.cell? ⟨b, 11, none⟩ = some (.bool false)
  f8 : w.frozen? ⟨b, 8, none⟩ = false
  f9 : w.frozen? ⟨b, 9, none⟩ = false
  f10 : w.frozen? ⟨b, 10, none⟩ = false
  f11 : w.frozen? ⟨b, 11, none⟩ = false

/-- All old blocks but b are as they were. -/
structure Fr (b : Nat) (w w' : World) : Prop where
  os : w'.os = w.os
  tape : w'.tape = w.tape
  output : w'.output = w.output
  size : w.heap.size ≤ w'.heap.size
  block : ∀ k, k < w.heap.size → k ≠ b → w'.heap[k]? = w.heap[k]?

theorem logAt_new (W : World) (v0 v1 v2 v3 v4 v5 v6 v7 v12 v13 : Value) (c d : Int) (k : Bool) (g : Nat) (hg : g = W.heap.size) :
    LogAt (W.alloc (.cells #[v0, v1, v2, v3, v4, v5, v6, v7, .int .u32 c, .int .i64 d, .bool k, .bool false, v12, v13] 41)) g ⟨c, d, k⟩ := by
  subst hg
  exact ⟨by simp, by simp [go_sem], by simp [go_sem], by simp [go_sem], by simp [go_sem], by simp [go_sem], by simp [go_sem], by simp [go_sem], by simp [go_sem]⟩

theorem newLog_any (dir : ByteArray) (n a b c d : Int) (k : Bool) (w : World) :
    Calls Try.prog 6 #[.string dir, .int .i64 n, .agg #[.int .u32 a, .int .i64 b], .agg #[.int .u32 c, .int .i64 d], .bool k] w fun e w' => ∃ g, e = .returned (.pointer (some ⟨g, 0, none⟩)) ∧ w.heap.size ≤ g ∧ LogAt w' g ⟨c, d, k⟩ ∧ Below w.heap.size w w' := by
  have hmm := @run_makeMap Try.prog
  go_enter Try.func6, Try.ntmps6
  go_wp2
  go_ret
  exact ⟨w.heap.size + 1 + 1 + 1, rfl, by omega, logAt_new _ _ _ _ _ _ _ _ _ _ _ _ _ _ _ (by simp), ((((Below.refl _ _).alloc (Nat.le_refl _) _).alloc (by simp) _).alloc (by simp; omega) _).alloc (by simp; omega) _⟩

end Go.Proofs.Qxb6613797a
