import Derived.Test.Qxb6612590aDoorProg
import Derived.WalkKit
import Derived.WalkSpells
import Derived.WalkLawsBesides
import Derived.Below
import Derived.Outline
import Derived.Deep.OwnRows
import Derived.Deep.AppendLies
import Derived.Deep.RegionHeld3
import Derived.Deep.DrawnRows
import Derived.BigQuiet
import Derived.Lib.ItoaNum
import Derived.Lib.ItoaMem
namespace Go.Proofs.Qxb6612590aDoor
open Go.RowKit
set_option linter.unusedSimpArgs false
set_option linter.unusedVariables false

theorem below_draws (B : Nat) (w : World) (n : Nat) : Below B w (w.drewN n) := ⟨rfl, rfl, rfl, Nat.le_refl _, fun _ _ => rfl⟩
theorem info5 : (Tryd.prog.info? 5).map (fun i => (i.zero, i.size, i.bytes)) = some (some (.int .u8 0), 1, 1) := by kernel_rfl
theorem info5_parts : ∃ i, Tryd.prog.info? 5 = some i ∧ i.zero = some (.int .u8 0) ∧ i.size = 1 ∧ i.bytes = 1 := by
  obtain ⟨i, hi, h⟩ := Option.map_eq_some_iff.1 info5
  simp only [Prod.mk.injEq] at h
  exact ⟨i, hi, h.1, h.2.1, h.2.2⟩

theorem make5 (c : Nat) (hc : c ≤ 1048576 * 2) (w : World) : (Instr.makeSlice 24 (.int .i64 0) (.int .i64 (c : Int))).run Tryd.prog w = .ok (.slice (some ⟨w.heap.size, 0, none⟩) 0 c) (w.alloc (.cells (madeCells #[.int .u8 0] c) 5)) := by
  obtain ⟨i, hi, hz, hs, hb⟩ := info5_parts
  have hr := run_make (P := Tryd.prog) w 24 5 i _ Tryd.underlying24 hi hz .i64 .i64 0 c (Int.le_refl _) (by omega) (by rw [hb]; omega) (by omega)
  simp only [Int.toNat_zero, Int.toNat_natCast, hs, Nat.mul_one, Value.cells] at hr
  exact hr

theorem own_made (w : World) (c : Nat) (hc : c ≤ 1048576 * 2) : (w.alloc (.cells (madeCells #[.int .u8 0] c) 5)).ownsRow w.heap.size 5 1 (.slice (some ⟨w.heap.size, 0, none⟩) 0 c) 0 [] :=
  World.ownsRow_made w _ c (Nat.le_refl _) (by unfold maxLen; omega) (by rw [size_madeCells, Nat.mul_one])

/-- The bytes of a slice, as its cells read. -/
def Reads (w : World) (ad : Option Addr) (xs : List UInt8) : Prop := ∀ j, j < xs.length → ∃ b off, ad = some ⟨b, off, none⟩ ∧ w.cell? ⟨b, off + j, none⟩ = some (.int .u8 ((xs.getD j 0).toNat : Int))

theorem Reads.below {w w' : World} {ad : Option Addr} {xs : List UInt8} (h : Reads w ad xs) (hb : Below w.heap.size w w') : Reads w' ad xs := fun j hj => by
  obtain ⟨b, off, e, c⟩ := h j hj
  exact ⟨b, off, e, cell_later hb c⟩

/-! ### zzEq: two slices of the same bytes -/
set_option maxHeartbeats 400000 in
theorem eq_any (ad bd : Option Addr) (ca cb : Nat) (xs : List UInt8) (w : World) (ha : Reads w ad xs) (hb : Reads w bd xs) (hlen : xs.length ≤ 1048576 * 4) :
    Calls Tryd.prog 12 #[.slice ad xs.length ca, .slice bd xs.length cb] w fun e w' => e = .returned (.bool true) ∧ ∃ n, w' = w.drewN n := by
  obtain ⟨len, hl⟩ : ∃ len, Hid (xs.length = len) := ⟨_, rfl⟩
  have ha' : ∀ j, j < len → ∃ b off, ad = some ⟨b, off, none⟩ ∧ w.cell? ⟨b, off + j, none⟩ = some (.int .u8 ((xs.getD j 0).toNat : Int)) := fun j hj => ha j (by rw [hl.out]; exact hj)
  have hb' : ∀ j, j < len → ∃ b off, bd = some ⟨b, off, none⟩ ∧ w.cell? ⟨b, off + j, none⟩ = some (.int .u8 ((xs.getD j 0).toNat : Int)) := fun j hj => hb j (by rw [hl.out]; exact hj)
  rw [hl.out] at hlen ⊢
  clear ha hb
  go_enter Tryd.func12, Tryd.ntmps12
  go_wp2
  go_loopw [5] (fun i wr => ∃ j n : Nat, j ≤ len ∧ i = .int .i64 j ∧ wr = w.drewN n) (fun i _ => len - (intOf i).toNat)
  case atStart => exact ⟨0, 0, Nat.zero_le _, rfl, rfl⟩
  case round =>
    obtain ⟨j, n, hj, rfl, rfl⟩ := hrel
    by_cases hlt : j < len
    · obtain ⟨b, off, rfl, c0⟩ := ha' j hlt
      obtain ⟨b', off', rfl, c1⟩ := hb' j hlt
      obtain ⟨z, hz⟩ : ∃ z : Int, Hid (((xs.getD j 0).toNat : Int) = z) := ⟨_, rfl⟩
      rw [hz.out] at c0 c1
      have i0 : (0 : Int) ≤ (j : Int) := by omega
      have i1 : (j : Int) < (len : Int) := by omega
      go_wp2
      go_quiet (fail)
      go_wp2
      go_roundw
      case rel => exact ⟨j + 1, _, by omega, by go_num, rfl⟩
      case measure => simp [intOf]; omega
    · go_wp2
      go_ret
      exact ⟨rfl, n, rfl⟩

/-- An owned row of bytes at some block. -/
structure Row (B : Nat) (w : World) (g cap : Nat) (xs : List UInt8) : Prop where
  own : w.ownsRow B 5 1 (.slice (some ⟨g, 0, none⟩) xs.length cap) xs.length (Lib.byteCells xs)

theorem byteCells_get (xs : List UInt8) (j : Nat) (h : j < xs.length) : (Lib.byteCells xs)[j]? = some (.int .u8 ((xs.getD j 0).toNat : Int)) := by
  simp [Lib.byteCells, List.getD_eq_getElem?_getD, h]

theorem Row.parts {B : Nat} {w : World} {g cap : Nat} {xs : List UInt8} (h : Row B w g cap xs) : B ≤ g ∧ g < w.heap.size ∧ ∀ j u, (Lib.byteCells xs)[j]? = some u → w.cell? ((⟨g, 0, none⟩ : Addr).add j) = some u := by
  obtain ⟨_, h0 | ⟨b, c, cur, hv, hB, hb, _, _, _, ht⟩⟩ := h.own
  · simp at h0
  · simp only [Value.slice.injEq, Option.some.injEq, Addr.mk.injEq] at hv
    obtain ⟨⟨rfl, -, -⟩, -, rfl⟩ := hv
    refine ⟨hB, ?_, ?_⟩
    · exact (Array.getElem?_eq_some_iff.1 hb).1
    · intro j u hj
      rw [← ht] at hj
      have hj' : cur.toList[j]? = some u := by
        rw [List.getElem?_take] at hj
        split at hj
        · exact hj
        · simp at hj
      rw [Go.WideShapes.add_plain]
      simp [World.cell?, hb]
      simpa using hj'

theorem Row.reads {B : Nat} {w : World} {g cap : Nat} {xs : List UInt8} (h : Row B w g cap xs) : Reads w (some ⟨g, 0, none⟩) xs := fun j hj => by
  obtain ⟨_, _, hc⟩ := h.parts
  have := hc j _ (byteCells_get xs j hj)
  rw [Go.WideShapes.add_plain] at this
  exact ⟨g, 0, rfl, this⟩

end Go.Proofs.Qxb6612590aDoor
