import Derived.Test.Qxb6613797aLeaves
import Derived.Deep.RegionHeld3
import Derived.Deep.DrawnRows
import Derived.BigQuiet
namespace Go.Proofs.Qxb6613797a
open Go.RowKit
open Plain
set_option linter.unusedSimpArgs false
attribute [local go_sem ↓] Go.wp_at_zero Go.wp_at_succ

theorem below_draws (B : Nat) (w : World) (n : Nat) : Below B w (w.drewN n) := ⟨rfl, rfl, rfl, Nat.le_refl _, fun _ _ => rfl⟩
theorem cell_alloc1 (w : World) (o1 : Obj) (b i : Nat) (h : b < w.heap.size) : (w.alloc o1).cell? ⟨b, i, none⟩ = w.cell? ⟨b, i, none⟩ :=
  World.cell?_alloc_lt w o1 ⟨b, i, none⟩ h
theorem cell_alloc2 (w : World) (o1 o2 : Obj) (b i : Nat) (h : b < w.heap.size) : ((w.alloc o1).alloc o2).cell? ⟨b, i, none⟩ = w.cell? ⟨b, i, none⟩ := by
  rw [cell_alloc1 _ o2 b i (by simp; omega), cell_alloc1 w o1 b i h]
theorem cell_alloc3 (w : World) (o1 o2 o3 : Obj) (b i : Nat) (h : b < w.heap.size) : (((w.alloc o1).alloc o2).alloc o3).cell? ⟨b, i, none⟩ = w.cell? ⟨b, i, none⟩ := by
  rw [cell_alloc1 _ o3 b i (by simp; omega), cell_alloc2 w o1 o2 b i h]
theorem frozen_alloc1 (w : World) (o1 : Obj) (b i : Nat) (h : b < w.heap.size) : (w.alloc o1).frozen? ⟨b, i, none⟩ = w.frozen? ⟨b, i, none⟩ :=
  (((Below.refl _ _).alloc (Nat.le_refl _) o1) : Below w.heap.size w (w.alloc o1)).frozen (p := ⟨b, i, none⟩) h
theorem frozen_alloc3 (w : World) (o1 o2 o3 : Obj) (b i : Nat) (h : b < w.heap.size) : (((w.alloc o1).alloc o2).alloc o3).frozen? ⟨b, i, none⟩ = w.frozen? ⟨b, i, none⟩ := by
  rw [frozen_alloc1 _ o3 b i (by simp; omega), frozen_alloc1 _ o2 b i (by simp; omega), frozen_alloc1 w o1 b i h]

set_option maxHeartbeats 400000 in
theorem knownWritten_true (b : Nat) (s o ms mo : Int) (w : World) (hl : LogAt w b ⟨s, o, true⟩) :
    Calls Try.prog 13 #[.pointer (some ⟨b, 0, none⟩), .agg #[.int .u32 ms, .int .i64 mo]] w fun e' w' => e' = .returned (.bool (knows ⟨s, o, true⟩ (ms, mo))) ∧ Below w.heap.size w w' := by
  obtain ⟨lt, c8, c9, c10, c11, -, -, -, -⟩ := hl
  dsimp only at c8 c9 c10
  have k : ∀ i o1 o2 o3, (((w.alloc o1).alloc o2).alloc o3).cell? ⟨b, i, none⟩ = w.cell? ⟨b, i, none⟩ := fun i o1 o2 o3 => cell_alloc3 w o1 o2 o3 b i lt
  go_enter Try.func13, Try.ntmps13
  go_wp2
  go_region_held3 (fun w' => w'.cell? ⟨b, 8, none⟩ = some (.int .u32 s) ∧ w'.cell? ⟨b, 9, none⟩ = some (.int .i64 o) ∧ w'.cell? ⟨b, 10, none⟩ = some (.bool true) ∧ w'.cell? ⟨w.heap.size, 0, none⟩ = some (.int .u32 ms) ∧ w'.cell? ⟨w.heap.size, 1, none⟩ = some (.int .i64 mo)) (go_keep)
    (first | (go_at_call 12; refine (before_any _ _ _ _ _).mono ?_; rintro e w' ⟨rfl, rfl⟩))
  go_wp2
  go_ret
  exact ⟨by simp [knows], ((((Below.refl _ _).alloc (Nat.le_refl _) _).alloc (by simp) _).alloc (by simp; omega) _).drew⟩

set_option maxHeartbeats 400000 in
theorem knownWritten_false (b : Nat) (s o ms mo : Int) (w : World) (hl : LogAt w b ⟨s, o, false⟩) :
    Calls Try.prog 13 #[.pointer (some ⟨b, 0, none⟩), .agg #[.int .u32 ms, .int .i64 mo]] w fun e' w' => e' = .returned (.bool (knows ⟨s, o, false⟩ (ms, mo))) ∧ Below w.heap.size w w' := by
  obtain ⟨lt, c8, c9, c10, c11, -, -, -, -⟩ := hl
  dsimp only at c8 c9 c10
  have k : ∀ i o1, (w.alloc o1).cell? ⟨b, i, none⟩ = w.cell? ⟨b, i, none⟩ := fun i o1 => cell_alloc1 w o1 b i lt
  go_enter Try.func13, Try.ntmps13
  go_wp2
  go_quiet (fail)
  go_wp2
  go_ret
  exact ⟨by simp [knows], (((Below.refl _ _).alloc (Nat.le_refl _) _)).trans (below_draws _ _ _)⟩

theorem knownWritten_any (b : Nat) (e : WEnd) (ms mo : Int) (w : World) (hl : LogAt w b e) :
    Calls Try.prog 13 #[.pointer (some ⟨b, 0, none⟩), .agg #[.int .u32 ms, .int .i64 mo]] w fun e' w' => e' = .returned (.bool (knows e (ms, mo))) ∧ Below w.heap.size w w' := by
  obtain ⟨s, o, k⟩ := e
  cases k
  · exact knownWritten_false b s o ms mo w hl
  · exact knownWritten_true b s o ms mo w hl

theorem LogAt.below {w w' : World} {b B : Nat} {e : WEnd} (h : LogAt w b e) (hb : Below B w w') (lt : b < B) : LogAt w' b e :=
  ⟨Nat.lt_of_lt_of_le h.lt hb.size, (hb.cell (p := ⟨b, 8, none⟩) lt).trans h.c8, (hb.cell (p := ⟨b, 9, none⟩) lt).trans h.c9, (hb.cell (p := ⟨b, 10, none⟩) lt).trans h.c10, (hb.cell (p := ⟨b, 11, none⟩) lt).trans h.c11,
    (hb.frozen (p := ⟨b, 8, none⟩) lt).trans h.f8, (hb.frozen (p := ⟨b, 9, none⟩) lt).trans h.f9, (hb.frozen (p := ⟨b, 10, none⟩) lt).trans h.f10, (hb.frozen (p := ⟨b, 11, none⟩) lt).trans h.f11⟩

set_option maxHeartbeats 400000 in
theorem zzKnownWritten_any (b : Nat) (e : WEnd) (ms mo : Int) (w : World) (hl : LogAt w b e) :
    Calls Try.prog 9 #[.pointer (some ⟨b, 0, none⟩), .agg #[.int .u32 ms, .int .i64 mo]] w fun e' w' => e' = .returned (.bool (knows e (ms, mo))) ∧ Below w.heap.size w w' := by
  have hl1 : ∀ o1, LogAt (w.alloc o1) b e := fun o1 => hl.below ((Below.refl _ _).alloc (Nat.le_refl _) o1) hl.lt
  go_enter Try.func9, Try.ntmps9
  go_wp2_with (go_at_call 13; refine (knownWritten_any b e _ _ _ (hl1 _)).mono ?_; rintro e w' ⟨rfl, hb⟩)
  go_ret
  exact ⟨rfl, ((Below.refl _ _).alloc (Nat.le_refl _) _).trans (hb.mono (by simp))⟩

/-! ### NoteWritten -/
theorem Fr.of_below {b : Nat} {w w' : World} (h : Below w.heap.size w w') : Fr b w w' := ⟨h.os, h.tape, h.output, h.size, fun k hk _ => h.block k hk⟩
theorem Fr.setCell {b : Nat} {a w : World} (h : Fr b a w) (p : Addr) (hp : p.block = b) (u : Value) : Fr b a (w.setCell p u) :=
  ⟨h.os, h.tape, h.output, by simpa [World.setCell] using h.size, fun k hk hb => (Below.heap_setCell _ _ _ _ (by omega)).trans (h.block k hk hb)⟩

theorem Fr.drewN {b : Nat} {a w : World} (h : Fr b a w) (n : Nat) : Fr b a (w.drewN n) := ⟨h.os, h.tape, h.output, h.size, h.block⟩
theorem LogAt.drewN {w : World} {b : Nat} {e : WEnd} (h : LogAt w b e) (n : Nat) : LogAt (w.drewN n) b e := h.below (below_draws w.heap.size w n) h.lt

theorem LogAt.set4 {W : World} {b : Nat} {e : WEnd} (h : LogAt W b e) (ms mo : Int) :
    LogAt ((((W.setCell ⟨b, 8, none⟩ (.int .u32 ms)).setCell ⟨b, 9, none⟩ (.int .i64 mo)).setCell ⟨b, 10, none⟩ (.bool true)).setCell ⟨b, 11, none⟩ (.bool false)) b ⟨ms, mo, true⟩ := by
  obtain ⟨lt, c8, c9, c10, c11, f8, f9, f10, f11⟩ := h
  have x : ∀ (w : World) (i j : Nat) (v : Value), i ≠ j → (w.setCell ⟨b, i, none⟩ v).cell? ⟨b, j, none⟩ = w.cell? ⟨b, j, none⟩ := fun w i j v hij => World.cell?_setCell_other _ _ _ _ (by simp [hij])
  refine ⟨by simp [World.setCell]; exact lt, ?_, ?_, ?_, ?_, by simpa using f8, by simpa using f9, by simpa using f10, by simpa using f11⟩
  · rw [x _ _ _ _ (by decide), x _ _ _ _ (by decide), x _ _ _ _ (by decide)]; exact World.cell?_setCell_same _ _ _ c8
  · rw [x _ _ _ _ (by decide), x _ _ _ _ (by decide)]; exact World.cell?_setCell_same _ _ _ (by rw [x _ _ _ _ (by decide)]; exact c9)
  · rw [x _ _ _ _ (by decide)]; exact World.cell?_setCell_same _ _ _ (by rw [x _ _ _ _ (by decide), x _ _ _ _ (by decide)]; exact c10)
  · exact World.cell?_setCell_same _ _ _ (by rw [x _ _ _ _ (by decide), x _ _ _ _ (by decide), x _ _ _ _ (by decide)]; exact c11)
theorem fr_set4 (b : Nat) {a : World} (W : World) (ms mo : Int) (h : Fr b a W) :
    Fr b a ((((W.setCell ⟨b, 8, none⟩ (.int .u32 ms)).setCell ⟨b, 9, none⟩ (.int .i64 mo)).setCell ⟨b, 10, none⟩ (.bool true)).setCell ⟨b, 11, none⟩ (.bool false)) :=
  (((h.setCell _ rfl _).setCell _ rfl _).setCell _ rfl _).setCell _ rfl _

set_option maxHeartbeats 400000 in
theorem noteWritten_keep (b : Nat) (s o ms mo : Int) (w : World) (hl : LogAt w b ⟨s, o, true⟩) (hb : bef s o ms mo = false) :
    Calls Try.prog 8 #[.pointer (some ⟨b, 0, none⟩), .agg #[.int .u32 ms, .int .i64 mo]] w fun e' w' => e' = .returned (.tuple #[]) ∧ LogAt w' b (note ⟨s, o, true⟩ (ms, mo)) ∧ Fr b w w' := by
  have hl' := hl
  obtain ⟨lt, c8, c9, c10, c11, -, -, -, -⟩ := hl
  dsimp only at c8 c9 c10
  have k : ∀ i o1 o2 o3, (((w.alloc o1).alloc o2).alloc o3).cell? ⟨b, i, none⟩ = w.cell? ⟨b, i, none⟩ := fun i o1 o2 o3 => cell_alloc3 w o1 o2 o3 b i lt
  have hn : Hid (note ⟨s, o, true⟩ (ms, mo) = ⟨s, o, true⟩) := by show note _ _ = _; simp [note, hb]
  go_enter Try.func8, Try.ntmps8
  go_wp2
  go_region_held3 (fun w' => w'.cell? ⟨b, 8, none⟩ = some (.int .u32 s) ∧ w'.cell? ⟨b, 9, none⟩ = some (.int .i64 o) ∧ w'.cell? ⟨b, 10, none⟩ = some (.bool true) ∧ w'.cell? ⟨w.heap.size, 0, none⟩ = some (.int .u32 ms) ∧ w'.cell? ⟨w.heap.size, 1, none⟩ = some (.int .i64 mo)) (go_keep)
    (first | (go_at_call 12; refine (before_any _ _ _ _ _).mono ?_; rintro e w' ⟨rfl, rfl⟩))
  go_wp2
  refine bodyPost_ret (v := .tuple #[]) (by simp [results, Try.results8, go_sem]) rfl ?_
  rw [hn.out]
  have bel : Below w.heap.size w (((w.alloc (Obj.cells #[Value.int IntKind.u32 ms, Value.int IntKind.i64 mo] 29)).alloc (Obj.cells #[Value.int IntKind.u32 s, Value.int IntKind.i64 o] 29)).alloc (Obj.cells #[Value.int IntKind.u32 ms, Value.int IntKind.i64 mo] 29)).drew :=
    ((((Below.refl _ _).alloc (Nat.le_refl _) _).alloc (by simp) _).alloc (by simp; omega) _).drew
  exact ⟨rfl, hl'.below bel lt, Fr.of_below bel⟩

set_option maxHeartbeats 400000 in
theorem noteWritten_up (b : Nat) (s o ms mo : Int) (w : World) (hl : LogAt w b ⟨s, o, true⟩) (hb : bef s o ms mo = true) :
    Calls Try.prog 8 #[.pointer (some ⟨b, 0, none⟩), .agg #[.int .u32 ms, .int .i64 mo]] w fun e' w' => e' = .returned (.tuple #[]) ∧ LogAt w' b (note ⟨s, o, true⟩ (ms, mo)) ∧ Fr b w w' := by
  have hl' := hl
  obtain ⟨lt, c8, c9, c10, c11, f8, f9, f10, f11⟩ := hl
  dsimp only at c8 c9 c10
  have k : ∀ i o1 o2 o3, (((w.alloc o1).alloc o2).alloc o3).cell? ⟨b, i, none⟩ = w.cell? ⟨b, i, none⟩ := fun i o1 o2 o3 => cell_alloc3 w o1 o2 o3 b i lt
  have kf : ∀ i o1 o2 o3, (((w.alloc o1).alloc o2).alloc o3).frozen? ⟨b, i, none⟩ = w.frozen? ⟨b, i, none⟩ := fun i o1 o2 o3 => frozen_alloc3 w o1 o2 o3 b i lt
  have hn : Hid (note ⟨s, o, true⟩ (ms, mo) = ⟨ms, mo, true⟩) := by show note _ _ = _; simp [note, hb]
  go_enter Try.func8, Try.ntmps8
  go_wp2
  go_region_held3 (fun w' => w'.cell? ⟨b, 8, none⟩ = some (.int .u32 s) ∧ w'.cell? ⟨b, 9, none⟩ = some (.int .i64 o) ∧ w'.cell? ⟨b, 10, none⟩ = some (.bool true) ∧ w'.cell? ⟨w.heap.size, 0, none⟩ = some (.int .u32 ms) ∧ w'.cell? ⟨w.heap.size, 1, none⟩ = some (.int .i64 mo)) (go_keep)
    (first | (go_at_call 12; refine (before_any _ _ _ _ _).mono ?_; rintro e w' ⟨rfl, rfl⟩))
  go_wp2
  go_end0
  rw [hn.out]
  have bel : Below w.heap.size w (((w.alloc (Obj.cells #[Value.int IntKind.u32 ms, Value.int IntKind.i64 mo] 29)).alloc (Obj.cells #[Value.int IntKind.u32 s, Value.int IntKind.i64 o] 29)).alloc (Obj.cells #[Value.int IntKind.u32 ms, Value.int IntKind.i64 mo] 29)) :=
    ((((Below.refl _ _).alloc (Nat.le_refl _) _).alloc (by simp) _).alloc (by simp; omega) _)
  exact ⟨rfl, ((hl'.below bel lt).set4 ms mo).drewN 1, (fr_set4 b _ ms mo (Fr.of_below bel)).drewN 1⟩

set_option maxHeartbeats 400000 in
theorem noteWritten_first (b : Nat) (s o ms mo : Int) (w : World) (hl : LogAt w b ⟨s, o, false⟩) :
    Calls Try.prog 8 #[.pointer (some ⟨b, 0, none⟩), .agg #[.int .u32 ms, .int .i64 mo]] w fun e' w' => e' = .returned (.tuple #[]) ∧ LogAt w' b (note ⟨s, o, false⟩ (ms, mo)) ∧ Fr b w w' := by
  have hl' := hl
  obtain ⟨lt, c8, c9, c10, c11, f8, f9, f10, f11⟩ := hl
  dsimp only at c8 c9 c10
  have k : ∀ i o1, (w.alloc o1).cell? ⟨b, i, none⟩ = w.cell? ⟨b, i, none⟩ := fun i o1 => cell_alloc1 w o1 b i lt
  have kf : ∀ i o1, (w.alloc o1).frozen? ⟨b, i, none⟩ = w.frozen? ⟨b, i, none⟩ := fun i o1 => frozen_alloc1 w o1 b i lt
  have hn : Hid (note ⟨s, o, false⟩ (ms, mo) = ⟨ms, mo, true⟩) := by show note _ _ = _; simp [note]
  go_enter Try.func8, Try.ntmps8
  go_wp2
  go_quiet (fail)
  go_wp2
  go_end0
  rw [hn.out]
  have bel : Below w.heap.size w ((w.alloc (Obj.cells #[Value.int IntKind.u32 ms, Value.int IntKind.i64 mo] 29)).drewN nq) :=
    ((Below.refl _ _).alloc (Nat.le_refl _) _).trans (below_draws _ _ _)
  exact ⟨rfl, (hl'.below bel lt).set4 ms mo, fr_set4 b _ ms mo (Fr.of_below bel)⟩

theorem noteWritten_any (b : Nat) (e : WEnd) (ms mo : Int) (w : World) (hl : LogAt w b e) :
    Calls Try.prog 8 #[.pointer (some ⟨b, 0, none⟩), .agg #[.int .u32 ms, .int .i64 mo]] w fun e' w' => e' = .returned (.tuple #[]) ∧ LogAt w' b (note e (ms, mo)) ∧ Fr b w w' := by
  obtain ⟨s, o, k⟩ := e
  cases k
  · exact noteWritten_first b s o ms mo w hl
  · cases h : bef s o ms mo
    · exact noteWritten_keep b s o ms mo w hl h
    · exact noteWritten_up b s o ms mo w hl h

end Go.Proofs.Qxb6613797a
