import Derived.Test.Qxb6613846aFmtProg
import Derived.WalkKit
import Derived.WalkSpells
import Derived.WalkLawsBesides
import Derived.Below
import Derived.Outline
import Derived.Deep.OwnRows
import Derived.Deep.RegionHeld3
import Derived.Deep.DrawnRows
import Derived.BigQuiet
namespace Go.Proofs.Qxb6613846aFmt
open Go.RowKit
set_option linter.unusedSimpArgs false

theorem below_draws (B : Nat) (w : World) (n : Nat) : Below B w (w.drewN n) := ⟨rfl, rfl, rfl, Nat.le_refl _, fun _ _ => rfl⟩
theorem rowIs_below {B : Nat} {w w' : World} {b : Nat} {t : TypeId} {n : Nat} {f : Nat → Value} (h : w.rowIs b t n f) (hb : Below B w w') (lt : b < B) : w'.rowIs b t n f := h.of_block (hb.block b lt)

theorem info3 : (Tryf.prog.info? 3).map (fun i => (i.zero, i.size, i.bytes)) = some (some (.int .i64 0), 1, 8) := by kernel_rfl

/-! ### zzAdd -/
set_option maxHeartbeats 400000 in
theorem add_any (t n k : Int) (w : World) (ht : 0 ≤ t) (hn : 0 ≤ n) (hk0 : 0 ≤ k) (hk : k ≤ 1000) :
    Calls Tryf.prog 15 #[.int .i64 t, .int .i64 n, .int .i64 k] w fun e w' => ∃ r : Int, e = .returned (.int .i64 r) ∧ 0 ≤ r ∧ r ≤ 1048577 ∧ (r ≤ 1048576 → t ≤ r ∧ n * k ≤ r) ∧ w' = w := by
  by_cases h1 : 1048576 < t
  · go_enter Tryf.func15, Tryf.ntmps15
    go_wp2
    go_ret
    exact ⟨1048577, rfl, by omega, by omega, fun h => by omega, rfl⟩
  · by_cases h2 : 1048576 < n
    · go_enter Tryf.func15, Tryf.ntmps15
      go_wp2
      go_ret
      exact ⟨1048577, rfl, by omega, by omega, fun h => by omega, rfl⟩
    · have hm : n * k ≤ 1048576 * 1000 := Int.mul_le_mul (by omega) hk hk0 (by omega)
      have hm0 : 0 ≤ n * k := Int.mul_nonneg hn hk0
      by_cases h3 : 1048576 < t + n * k
      · go_enter Tryf.func15, Tryf.ntmps15
        go_wp2
        go_ret
        exact ⟨1048577, rfl, by omega, by omega, fun h => by omega, rfl⟩
      · go_enter Tryf.func15, Tryf.ntmps15
        go_wp2
        go_ret
        exact ⟨t + n * k, rfl, by omega, by omega, fun h => by omega, rfl⟩

/-! ### A slice of ints -/
structure Ints (w : World) (ad : Option Addr) (len : Nat) (zs : List Int) : Prop where
  length : zs.length = len
  cells : ∀ i, i < len → ∃ b off, ad = some ⟨b, off, none⟩ ∧ w.cell? ⟨b, off + i, none⟩ = some (.int .i64 (zs.getD i 0))

theorem Ints.below {w w' : World} {ad : Option Addr} {len : Nat} {zs : List Int} (h : Ints w ad len zs) (hb : Below w.heap.size w w') : Ints w' ad len zs :=
  ⟨h.length, fun i hi => by
    obtain ⟨b, off, e, c⟩ := h.cells i hi
    exact ⟨b, off, e, cell_later hb c⟩⟩

theorem Ints.nil {w : World} {len : Nat} {zs : List Int} (h : Ints w none len zs) : len = 0 := by
  rcases Nat.eq_zero_or_pos len with h0 | h0
  · exact h0
  · obtain ⟨b, off, e, _⟩ := h.cells 0 h0
    cases e

set_option maxHeartbeats 400000 in
theorem ints_any (ad : Option Addr) (len cap : Nat) (zs : List Int) (w : World) (hi : Ints w ad len zs) (hlen : len ≤ 1048576) :
    Calls Tryf.prog 26 #[.slice ad len cap] w fun e w' => ∃ ad' cap', e = .returned (.slice ad' len cap') ∧ ad'.isNone = ad.isNone ∧ Ints w' ad' len zs ∧ Below w.heap.size w w' := by
  have hnil := fun wx => Lib.run_eql_slice_nil (P := Tryf.prog) wx 23 3 ad len cap 0 0 Tryf.underlying23
  have hmk := run_make_row' (P := Tryf.prog) 23 3 (.int .i64 0) 8 Tryf.underlying23 info3 rfl .i64 .i64 len (by omega) (by omega)
  cases ad with
  | none =>
    have h0 := hi.nil
    subst h0
    go_enter Tryf.func26, Tryf.ntmps26
    go_wp2
    go_ret
    exact ⟨none, 0, rfl, rfl, hi, Below.refl _ _⟩
  | some a =>
    go_enter Tryf.func26, Tryf.ntmps26
    go_wp2
    go_loopw [4] (fun i wr => ∃ j : Nat, j ≤ len ∧ i = .int .i64 j ∧ wr.rowIs w.heap.size 3 len (fun m => .int .i64 (if m < j then zs.getD m 0 else 0)) ∧ Below w.heap.size w wr) (fun i _ => len - (intOf i).toNat)
    case atStart => exact ⟨0, Nat.zero_le _, rfl, (World.rowIs_made w (.int .i64 0) len 3).congr (fun m _ => by simp), (Below.refl _ _).alloc (Nat.le_refl _) _⟩
    case round =>
      obtain ⟨j, hj, rfl, hrow, hbel⟩ := hrel
      by_cases hlt : j < len
      · obtain ⟨b, off, rfl', c0⟩ := hi.cells j hlt
        simp only [Option.some.injEq] at rfl'
        subst rfl'
        replace c0 := cell_later hbel c0
        have r0 := hrow.cell hlt
        have f0 := hrow.frozen j
        rw [if_neg (Nat.lt_irrefl j)] at r0
        obtain ⟨z, hz⟩ : ∃ z, Hid (zs.getD j 0 = z) := ⟨_, rfl⟩
        rw [hz.out] at c0
        have i0 : (0 : Int) ≤ (j : Int) := by omega
        have i1 : (j : Int) < (len : Int) := by omega
        have hnew : ∀ v, v = z → (wr.setCell ⟨w.heap.size, j, none⟩ (.int .i64 v)).rowIs w.heap.size 3 len (fun m => .int .i64 (if m < j + 1 then zs.getD m 0 else 0)) := fun v hv => by
          subst hv
          refine (hrow.set j _).congr fun m _ => ?_
          by_cases hm : m = j
          · subst hm; rw [if_pos rfl, if_pos (by omega), hz.out]
          · rw [if_neg hm]
            by_cases hm2 : m < j
            · rw [if_pos hm2, if_pos (by omega)]
            · rw [if_neg hm2, if_neg (by omega)]
        go_wp2
        go_roundw
        case rel => exact ⟨j + 1, by omega, by go_num, hnew _ rfl, hbel.setCell (Nat.le_refl _) _⟩
        case measure => simp [intOf]; omega
      · have hj' : j = len := by omega
        subst hj'
        go_wp2
        go_ret
        refine ⟨some ⟨w.heap.size, 0, none⟩, j, rfl, rfl, ⟨hi.length, fun m hm => ⟨w.heap.size, 0, rfl, ?_⟩⟩, hbel⟩
        have := hrow.cell hm
        rw [if_pos hm] at this
        rw [Nat.zero_add]; exact this

/-! ### zzSameInts: two slices of the same ints, both nil or neither: true -/
set_option maxHeartbeats 400000 in
theorem sameInts_any (ad bd : Option Addr) (len ca cb : Nat) (zs : List Int) (w : World) (ha : Ints w ad len zs) (hb : Ints w bd len zs) (hn : ad.isNone = bd.isNone) (hlen : len ≤ 1048576) :
    Calls Tryf.prog 21 #[.slice ad len ca, .slice bd len cb] w fun e w' => e = .returned (.bool true) ∧ ∃ n, w' = w.drewN n := by
  have hnila := fun wx => Lib.run_eql_slice_nil (P := Tryf.prog) wx 23 3 ad len ca 0 0 Tryf.underlying23
  have hnilb := fun wx => Lib.run_eql_slice_nil (P := Tryf.prog) wx 23 3 bd len cb 0 0 Tryf.underlying23
  rw [hn] at hnila
  clear hn
  go_enter Tryf.func21, Tryf.ntmps21
  go_wp2
  go_loopw [5] (fun i wr => ∃ j n : Nat, j ≤ len ∧ i = .int .i64 j ∧ wr = w.drewN n) (fun i _ => len - (intOf i).toNat)
  case atStart => exact ⟨0, 0, Nat.zero_le _, rfl, rfl⟩
  case round =>
    obtain ⟨j, n, hj, rfl, rfl⟩ := hrel
    by_cases hlt : j < len
    · obtain ⟨b, off, rfl, c0⟩ := ha.cells j hlt
      obtain ⟨b', off', rfl, c1⟩ := hb.cells j hlt
      obtain ⟨z, hz⟩ : ∃ z, Hid (zs.getD j 0 = z) := ⟨_, rfl⟩
      rw [hz.out] at c0 c1
      have i0 : (0 : Int) ≤ (j : Int) := by omega
      have i1 : (j : Int) < (len : Int) := by omega
      go_wp2
      go_quiet (fail)
      go_wp2
      go_roundw
      case rel => exact ⟨j + 1, _, by omega, by go_num, rfl⟩
      case measure => simp [intOf]; omega
    · go_wp2
      go_ret
      exact ⟨rfl, n, rfl⟩

/-! ### A slice of strings -/
theorem info48 : (Tryf.prog.info? 48).map (fun i => (i.zero, i.size, i.bytes)) = some (some (.string ⟨#[]⟩), 1, 16) := by kernel_rfl
theorem info9 : (Tryf.prog.info? 9).map (fun i => (i.zero, i.size, i.bytes)) = some (some (.string ⟨#[]⟩), 1, 16) := by kernel_rfl
theorem info63 : (Tryf.prog.info? 63).map (fun i => (i.zero, i.size, i.bytes)) = some (some (.agg #[.int .i64 0, .int .i64 0, .string ⟨#[]⟩]), 3, 32) := by kernel_rfl

structure Strs (w : World) (ad : Option Addr) (len : Nat) (S : Nat → ByteArray) : Prop where
  cells : ∀ i, i < len → ∃ b off, ad = some ⟨b, off, none⟩ ∧ w.cell? ⟨b, off + i, none⟩ = some (.string (S i))

theorem Strs.below {w w' : World} {ad : Option Addr} {len : Nat} {S : Nat → ByteArray} (h : Strs w ad len S) (hb : Below w.heap.size w w') : Strs w' ad len S :=
  ⟨fun i hi => by
    obtain ⟨b, off, e, c⟩ := h.cells i hi
    exact ⟨b, off, e, cell_later hb c⟩⟩

theorem Strs.nil {w : World} {len : Nat} {S : Nat → ByteArray} (h : Strs w none len S) : len = 0 := by
  rcases Nat.eq_zero_or_pos len with h0 | h0
  · exact h0
  · obtain ⟨b, off, e, _⟩ := h.cells 0 h0
    cases e

/-! ### zzValues -/
set_option maxHeartbeats 400000 in
theorem values_any (ad : Option Addr) (len cap : Nat) (S : Nat → ByteArray) (w : World) (hi : Strs w ad len S) (hlen : len ≤ 1048576) :
    Calls Tryf.prog 9 #[.slice ad len cap] w fun e w' => ∃ ad' cap', e = .returned (.slice ad' len cap') ∧ Strs w' ad' len S ∧ Below w.heap.size w w' := by
  have hnil := fun wx => Lib.run_eql_slice_nil (P := Tryf.prog) wx 28 9 ad len cap 0 0 Tryf.underlying28
  have hmk := run_make_row' (P := Tryf.prog) 33 48 (.string ⟨#[]⟩) 16 Tryf.underlying33 info48 rfl .i64 .i64 len (by omega) (by omega)
  cases ad with
  | none =>
    have h0 := hi.nil
    subst h0
    go_enter Tryf.func9, Tryf.ntmps9
    go_wp2
    go_ret
    exact ⟨none, 0, rfl, hi, Below.refl _ _⟩
  | some a =>
    go_enter Tryf.func9, Tryf.ntmps9
    go_wp2
    go_loopw [4] (fun i wr => ∃ j : Nat, j ≤ len ∧ i = .int .i64 j ∧ wr.rowIs w.heap.size 48 len (fun m => .string (if m < j then S m else ⟨#[]⟩)) ∧ Below w.heap.size w wr) (fun i _ => len - (intOf i).toNat)
    case atStart => exact ⟨0, Nat.zero_le _, rfl, (World.rowIs_made w (.string ⟨#[]⟩) len 48).congr (fun m _ => by simp), (Below.refl _ _).alloc (Nat.le_refl _) _⟩
    case round =>
      obtain ⟨j, hj, rfl, hrow, hbel⟩ := hrel
      by_cases hlt : j < len
      · obtain ⟨b, off, rfl', c0⟩ := hi.cells j hlt
        simp only [Option.some.injEq] at rfl'
        subst rfl'
        replace c0 := cell_later hbel c0
        have r0 := hrow.cell hlt
        have f0 := hrow.frozen j
        rw [if_neg (Nat.lt_irrefl j)] at r0
        obtain ⟨z, hz⟩ : ∃ z, Hid (S j = z) := ⟨_, rfl⟩
        rw [hz.out] at c0
        have i0 : (0 : Int) ≤ (j : Int) := by omega
        have i1 : (j : Int) < (len : Int) := by omega
        have hnew : ∀ v, v = z → (wr.setCell ⟨w.heap.size, j, none⟩ (.string v)).rowIs w.heap.size 48 len (fun m => .string (if m < j + 1 then S m else ⟨#[]⟩)) := fun v hv => by
          subst hv
          refine (hrow.set j _).congr fun m _ => ?_
          by_cases hm : m = j
          · subst hm; rw [if_pos rfl, if_pos (by omega), hz.out]
          · rw [if_neg hm]
            by_cases hm2 : m < j
            · rw [if_pos hm2, if_pos (by omega)]
            · rw [if_neg hm2, if_neg (by omega)]
        go_wp2
        go_roundw
        case rel => exact ⟨j + 1, by omega, by go_num, hnew _ rfl, hbel.setCell (Nat.le_refl _) _⟩
        case measure => simp [intOf]; omega
      · have hj' : j = len := by omega
        subst hj'
        go_wp2
        go_ret
        refine ⟨some ⟨w.heap.size, 0, none⟩, j, rfl, ⟨fun m hm => ⟨w.heap.size, 0, rfl, ?_⟩⟩, hbel⟩
        have := hrow.cell hm
        rw [if_pos hm] at this
        rw [Nat.zero_add]; exact this

/-! ### A slice of choices (three cells each) -/
structure Chs (w : World) (ad : Option Addr) (len : Nat) (P R : Nat → Int) (V : Nat → ByteArray) : Prop where
  cells : ∀ i, i < len → ∃ b off, ad = some ⟨b, off, none⟩ ∧ w.cell? ⟨b, off + i * 3, none⟩ = some (.int .i64 (P i)) ∧ w.cell? ⟨b, off + i * 3 + 1, none⟩ = some (.int .i64 (R i)) ∧ w.cell? ⟨b, off + i * 3 + 2, none⟩ = some (.string (V i))

theorem Chs.below {w w' : World} {ad : Option Addr} {len : Nat} {P R : Nat → Int} {V : Nat → ByteArray} (h : Chs w ad len P R V) (hb : Below w.heap.size w w') : Chs w' ad len P R V :=
  ⟨fun i hi => by
    obtain ⟨b, off, e, c, d, f⟩ := h.cells i hi
    exact ⟨b, off, e, cell_later hb c, cell_later hb d, cell_later hb f⟩⟩

theorem Chs.nil {w : World} {len : Nat} {P R : Nat → Int} {V : Nat → ByteArray} (h : Chs w none len P R V) : len = 0 := by
  rcases Nat.eq_zero_or_pos len with h0 | h0
  · exact h0
  · obtain ⟨b, off, e, _⟩ := h.cells 0 h0
    cases e

end Go.Proofs.Qxb6613846aFmt
