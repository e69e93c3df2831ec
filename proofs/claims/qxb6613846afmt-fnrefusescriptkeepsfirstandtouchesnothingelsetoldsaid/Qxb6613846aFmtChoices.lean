import Derived.Test.Qxb6613846aFmtLeaves
namespace Go.Proofs.Qxb6613846aFmt
open Go.RowKit
set_option linter.unusedSimpArgs false
set_option linter.unusedVariables false
attribute [local go_sem ↓] Go.wp_at_zero Go.wp_at_succ

theorem make63 (n : Nat) (hn : n ≤ 1048576) (w : World) : (Instr.makeSlice 44 (.int .i64 (n : Int)) (.int .i64 (n : Int))).run Tryf.prog w = .ok (.slice (some ⟨w.heap.size, 0, none⟩) n n) (w.alloc (.cells (madeCells #[.int .i64 0, .int .i64 0, .string ⟨#[]⟩] (n * 3)) 63)) := by
  obtain ⟨i, hi, hzz⟩ := Option.map_eq_some_iff.1 info63
  simp only [Prod.mk.injEq] at hzz
  obtain ⟨hz, hs, hb⟩ := hzz
  have hr := run_make (P := Tryf.prog) w 44 63 i _ Tryf.underlying44 hi hz .i64 .i64 n n (by omega) (Int.le_refl _) (by rw [hb]; omega) (by omega)
  simp only [Int.toNat_natCast, hs, Value.cells] at hr
  exact hr

theorem made63 (w : World) (n : Nat) : ∃ f, (w.alloc (.cells (madeCells #[.int .i64 0, .int .i64 0, .string ⟨#[]⟩] (n * 3)) 63)).rowIs w.heap.size 63 (n * 3) f :=
  ⟨fun i => (madeCells #[.int .i64 0, .int .i64 0, .string ⟨#[]⟩] (n * 3))[i]!, madeCells #[.int .i64 0, .int .i64 0, .string ⟨#[]⟩] (n * 3), Deep.blk_alloc_new _ _, size_madeCells _ _, fun i hi => by
    have : i < (madeCells #[.int .i64 0, .int .i64 0, .string ⟨#[]⟩] (n * 3)).size := by rw [size_madeCells]; exact hi
    simp [getElem!_pos, this]⟩

/-- The row of choices at g, filled up to j. -/
structure ChFill (w : World) (g len j : Nat) (P R : Nat → Int) (V : Nat → ByteArray) : Prop where
  ex : ∃ f, w.rowIs g 63 (len * 3) f ∧ ∀ m, m < j → f (m * 3) = .int .i64 (P m) ∧ f (m * 3 + 1) = .int .i64 (R m) ∧ f (m * 3 + 2) = .string (V m)

theorem ChFill.below {w w' : World} {g len j : Nat} {P R : Nat → Int} {V : Nat → ByteArray} (h : ChFill w g len j P R V) (hb : Below w.heap.size w w') : ChFill w' g len j P R V := by
  obtain ⟨f, h1, h2⟩ := h
  exact ⟨f, rowIs_below h1 hb h1.lt, h2⟩

theorem ChFill.lay {w : World} {g len j : Nat} {P R : Nat → Int} {V : Nat → ByteArray} (h : ChFill w g len j P R V) (p r : Int) (v : ByteArray) (hp : P j = p) (hr : R j = r) (hv : V j = v) :
    ChFill (((w.setCell ⟨g, j * 3, none⟩ (.int .i64 p)).setCell ⟨g, j * 3 + 1, none⟩ (.int .i64 r)).setCell ⟨g, j * 3 + 2, none⟩ (.string v)) g len (j + 1) P R V := by
  obtain ⟨f, h1, h2⟩ := h
  subst hp hr hv
  refine ⟨_, ((h1.set (j * 3) _).set (j * 3 + 1) _).set (j * 3 + 2) _, fun m hm => ?_⟩
  rcases Nat.lt_or_ge m j with h | h
  · obtain ⟨a, b, c⟩ := h2 m h
    refine ⟨?_, ?_, ?_⟩
    · rw [if_neg (by omega), if_neg (by omega), if_neg (by omega)]; exact a
    · rw [if_neg (by omega), if_neg (by omega), if_neg (by omega)]; exact b
    · rw [if_neg (by omega), if_neg (by omega), if_neg (by omega)]; exact c
  · have : m = j := by omega
    subst this
    refine ⟨?_, ?_, ?_⟩
    · rw [if_neg (by omega), if_neg (by omega), if_pos rfl]
    · rw [if_neg (by omega), if_pos rfl]
    · rw [if_pos rfl]

theorem ChFill.chs {w : World} {g len : Nat} {P R : Nat → Int} {V : Nat → ByteArray} (h : ChFill w g len len P R V) : Chs w (some ⟨g, 0, none⟩) len P R V := by
  obtain ⟨f, h1, h2⟩ := h
  refine ⟨fun i hi => ⟨g, 0, rfl, ?_, ?_, ?_⟩⟩
  · rw [Nat.zero_add, h1.cell (by omega), (h2 i hi).1]
  · rw [Nat.zero_add, h1.cell (by omega), (h2 i hi).2.1]
  · rw [Nat.zero_add, h1.cell (by omega), (h2 i hi).2.2]

theorem ChFill.at {w : World} {g len j : Nat} {P R : Nat → Int} {V : Nat → ByteArray} (h : ChFill w g len j P R V) (hj : j < len) (k : Nat) (hk : k < 3) : (∃ v, w.cell? ⟨g, j * 3 + k, none⟩ = some v) ∧ w.frozen? ⟨g, j * 3 + k, none⟩ = false := by
  obtain ⟨f, h1, h2⟩ := h
  exact ⟨⟨_, h1.cell (by omega)⟩, h1.frozen _⟩

theorem far3 {w : World} {g o1 o2 o3 b i : Nat} {x v1 v2 v3 : Value} (h : w.cell? ⟨b, i, none⟩ = some x) (hb : b < g) : (((w.setCell ⟨g, o1, none⟩ v1).setCell ⟨g, o2, none⟩ v2).setCell ⟨g, o3, none⟩ v3).cell? ⟨b, i, none⟩ = some x := by
  have ne : ∀ o, (⟨g, o, none⟩ : Addr) ≠ ⟨b, i, none⟩ := fun o e => by have := congrArg Addr.block e; simp at this; omega
  rw [World.cell?_setCell_other _ _ _ _ (ne _), World.cell?_setCell_other _ _ _ _ (ne _), World.cell?_setCell_other _ _ _ _ (ne _)]
  exact h

set_option maxHeartbeats 1000000 in
set_option maxRecDepth 100000 in
theorem choices_any (ad : Option Addr) (len cap : Nat) (P R : Nat → Int) (V : Nat → ByteArray) (w : World) (hi : Chs w ad len P R V) (hlen : len ≤ 1048576) :
    Calls Tryf.prog 25 #[.slice ad len cap] w fun e w' => ∃ ad' cap', e = .returned (.slice ad' len cap') ∧ ad'.isNone = ad.isNone ∧ Chs w' ad' len P R V ∧ Below w.heap.size w w' := by
  have hnil := fun wx => Lib.run_eql_slice_nil (P := Tryf.prog) wx 22 50 ad len cap 0 0 Tryf.underlying22
  have hmk := make63 len hlen
  cases ad with
  | none =>
    have h0 := hi.nil
    subst h0
    go_enter Tryf.func25, Tryf.ntmps25
    go_wp2
    go_ret
    exact ⟨none, 0, rfl, rfl, hi, Below.refl _ _⟩
  | some a =>
    go_enter Tryf.func25, Tryf.ntmps25
    go_wp2
    go_loopw [4] (fun i wr => ∃ j : Nat, j ≤ len ∧ i = .int .i64 j ∧ ChFill wr w.heap.size len j P R V ∧ Below w.heap.size w wr) (fun i _ => len - (intOf i).toNat)
    case atStart => exact ⟨0, Nat.zero_le _, rfl, (by obtain ⟨f, hf⟩ := made63 w len; exact ⟨f, hf, fun m hm => absurd hm (Nat.not_lt_zero _)⟩), (Below.refl _ _).alloc (Nat.le_refl _) _⟩
    case round =>
      obtain ⟨j, hj, rfl, hfill, hbel⟩ := hrel
      by_cases hlt : j < len
      · obtain ⟨b, off, ea, c0, c1, c2⟩ := hi.cells j hlt
        simp only [Option.some.injEq] at ea
        subst ea
        have n1 : b < w.heap.size := World.block_lt_of_cell? _ _ c0
        replace c0 := cell_later hbel c0
        replace c1 := cell_later hbel c1
        replace c2 := cell_later hbel c2
        obtain ⟨p, hp⟩ : ∃ z, Hid (P j = z) := ⟨_, rfl⟩
        obtain ⟨r, hr⟩ : ∃ z, Hid (R j = z) := ⟨_, rfl⟩
        obtain ⟨v, hv⟩ : ∃ z, Hid (V j = z) := ⟨_, rfl⟩
        rw [hp.out] at c0
        rw [hr.out] at c1
        rw [hv.out] at c2
        obtain ⟨⟨v0, r0⟩, f0⟩ := hfill.at hlt 0 (by omega)
        obtain ⟨⟨v1, r1⟩, f1⟩ := hfill.at hlt 1 (by omega)
        obtain ⟨⟨v2, r2⟩, f2⟩ := hfill.at hlt 2 (by omega)
        rw [Nat.add_zero] at r0 f0
        have i0 : (0 : Int) ≤ (j : Int) := by omega
        have i1 : (j : Int) < (len : Int) := by omega
        have hfd := hfill.below (Below.drew (Below.refl _ _))
        have hfill2 := hfd.lay p r v hp.out hr.out hv.out
        go_wp2_with fail
        go_region_held3 (fun w' => w'.cell? ⟨b, off + j * 3, none⟩ = some (.int .i64 p) ∧ w'.cell? ⟨b, off + j * 3 + 1, none⟩ = some (.int .i64 r) ∧ w'.cell? ⟨b, off + j * 3 + 2, none⟩ = some (.string v)) (first | exact ⟨far3 c0 n1, far3 c1 n1, far3 c2 n1⟩ | go_keep) (fail)
        have hbel2 : ∀ o1 o2 o3 v1 v2 v3, Below w.heap.size w (((wr.drew.setCell ⟨w.heap.size, o1, none⟩ v1).setCell ⟨w.heap.size, o2, none⟩ v2).setCell ⟨w.heap.size, o3, none⟩ v3) := fun o1 o2 o3 v1 v2 v3 => ((hbel.drew.setCell (Nat.le_refl _) _).setCell (Nat.le_refl _) _).setCell (Nat.le_refl _) _
        go_wp2_with fail
        go_roundw
        case rel => exact ⟨j + 1, by omega, by go_num, hfill2, hbel2 _ _ _ _ _ _⟩
        case measure => simp [intOf]; omega
      · have hj' : j = len := by omega
        subst hj'
        go_wp2_with fail
        go_ret
        exact ⟨some ⟨w.heap.size, 0, none⟩, j, rfl, rfl, hfill.chs, hbel⟩

end Go.Proofs.Qxb6613846aFmt
