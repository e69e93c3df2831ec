import Derived.Test.Qxb6613846aLeaves
namespace Go.Proofs.Qxb6613846a
open Go.RowKit
set_option linter.unusedSimpArgs false
set_option linter.unusedVariables false

theorem info79 : (Try.prog.info? 79).map (fun i => (i.zero, i.size, i.bytes)) = some (some (.string ⟨#[]⟩), 1, 16) := by kernel_rfl
theorem info44 : (Try.prog.info? 44).map (fun i => (i.zero, i.size, i.bytes)) = some (some (.slice none 0 0), 1, 24) := by kernel_rfl
theorem info4 : (Try.prog.info? 4).map (fun i => (i.zero, i.size, i.bytes)) = some (some (.bool false), 1, 1) := by kernel_rfl

/-- A slice of strings can be read. -/
structure Strs (w : World) (ad : Option Addr) (len : Nat) : Prop where
  cells : ∀ i, i < len → ∃ b off s, ad = some ⟨b, off, none⟩ ∧ w.cell? ⟨b, off + i, none⟩ = some (.string s) ∧ s.size ≤ maxLen

theorem Strs.below {w w' : World} {ad : Option Addr} {len : Nat} (h : Strs w ad len) (hb : Below w.heap.size w w') : Strs w' ad len :=
  ⟨fun i hi => by
    obtain ⟨b, off, s, e, c, hs⟩ := h.cells i hi
    exact ⟨b, off, s, e, cell_later hb c, hs⟩⟩

theorem Strs.nil {w : World} {len : Nat} (h : Strs w none len) : len = 0 := by
  rcases Nat.eq_zero_or_pos len with h0 | h0
  · exact h0
  · obtain ⟨b, off, s, e, _⟩ := h.cells 0 h0
    cases e

/-- A slice of bools can be read. -/
structure Bools (w : World) (ad : Option Addr) (len : Nat) : Prop where
  cells : ∀ i, i < len → ∃ b off s, ad = some ⟨b, off, none⟩ ∧ w.cell? ⟨b, off + i, none⟩ = some (.bool s)

theorem Bools.below {w w' : World} {ad : Option Addr} {len : Nat} (h : Bools w ad len) (hb : Below w.heap.size w w') : Bools w' ad len :=
  ⟨fun i hi => by
    obtain ⟨b, off, s, e, c⟩ := h.cells i hi
    exact ⟨b, off, s, e, cell_later hb c⟩⟩

theorem Bools.nil {w : World} {len : Nat} (h : Bools w none len) : len = 0 := by
  rcases Nat.eq_zero_or_pos len with h0 | h0
  · exact h0
  · obtain ⟨b, off, s, e, _⟩ := h.cells 0 h0
    cases e

/-- A list of lists of strings can be read: row i has the length Ls i. -/
structure Rws (w : World) (ad : Option Addr) (len : Nat) (Ls : Nat → Nat) : Prop where
  cells : ∀ i, i < len → ∃ b off rad rcap, ad = some ⟨b, off, none⟩ ∧ w.cell? ⟨b, off + i, none⟩ = some (.slice rad (Ls i) rcap) ∧ Strs w rad (Ls i)

theorem Rws.below {w w' : World} {ad : Option Addr} {len : Nat} {Ls : Nat → Nat} (h : Rws w ad len Ls) (hb : Below w.heap.size w w') : Rws w' ad len Ls :=
  ⟨fun i hi => by
    obtain ⟨b, off, rad, rcap, e, c, hs⟩ := h.cells i hi
    exact ⟨b, off, rad, rcap, e, cell_later hb c, hs.below hb⟩⟩

theorem Rws.nil {w : World} {len : Nat} {Ls : Nat → Nat} (h : Rws w none len Ls) : len = 0 := by
  rcases Nat.eq_zero_or_pos len with h0 | h0
  · exact h0
  · obtain ⟨b, off, rad, rcap, e, _⟩ := h.cells 0 h0
    cases e

/-! ### zzValues: a copy of strings: its value; new memory alone -/
set_option maxHeartbeats 400000 in
theorem values_any (ad : Option Addr) (len cap : Nat) (w : World) (hi : Strs w ad len) (hlen : len ≤ 1048576) :
    Calls Try.prog 30 #[.slice ad len cap] w fun e w' => ∃ ad' cap', e = .returned (.slice ad' len cap') ∧ len ≤ cap' ∧ (∃ xs, w'.ownsRow w.heap.size 79 1 (.slice ad' len cap') len xs) ∧ Below w.heap.size w w' := by
  have hnil := fun wx => Lib.run_eql_slice_nil (P := Try.prog) wx 22 9 ad len cap 0 0 Try.underlying22
  have hmk := run_make_row' (P := Try.prog) 44 79 (.string ⟨#[]⟩) 16 Try.underlying44 info79 rfl .i64 .i64 len (by omega) (by omega)
  cases ad with
  | none =>
    have h0 := hi.nil
    subst h0
    go_enter Try.func30, Try.ntmps30
    go_wp2
    go_ret
    exact ⟨none, 0, rfl, Nat.le_refl _, ⟨[], by simp [World.ownsRow]⟩, Below.refl _ _⟩
  | some a =>
    go_enter Try.func30, Try.ntmps30
    go_wp2
    go_loopw [4] (fun i wr => ∃ j : Nat, j ≤ len ∧ i = .int .i64 j ∧ (∃ f : Nat → ByteArray, wr.rowIs w.heap.size 79 len (fun m => .string (f m))) ∧ Below w.heap.size w wr) (fun i _ => len - (intOf i).toNat)
    case atStart => exact ⟨0, Nat.zero_le _, rfl, ⟨fun _ => ⟨#[]⟩, World.rowIs_made w (.string ⟨#[]⟩) len 79⟩, (Below.refl _ _).alloc (Nat.le_refl _) _⟩
    case round =>
      obtain ⟨j, hj, rfl, ⟨f, hrow⟩, hbel⟩ := hrel
      by_cases hlt : j < len
      · obtain ⟨b, off, s, ea, c0, _⟩ := hi.cells j hlt
        simp only [Option.some.injEq] at ea
        subst ea
        replace c0 := cell_later hbel c0
        have r0 := hrow.cell hlt
        have f0 := hrow.frozen j
        have i0 : (0 : Int) ≤ (j : Int) := by omega
        have i1 : (j : Int) < (len : Int) := by omega
        have hnew : (wr.setCell ⟨w.heap.size, j, none⟩ (.string s)).rowIs w.heap.size 79 len (fun m => .string (if m = j then s else f m)) :=
          (hrow.set j _).congr fun m _ => by show (if m = j then Value.string s else .string (f m)) = .string (if m = j then s else f m); split <;> rfl
        go_wp2
        go_roundw
        case rel => exact ⟨j + 1, by omega, by go_num, ⟨_, hnew⟩, hbel.setCell (Nat.le_refl _) _⟩
        case measure => simp [intOf]; omega
      · go_wp2
        go_ret
        refine ⟨some ⟨w.heap.size, 0, none⟩, len, rfl, Nat.le_refl _, ?_, hbel⟩
        obtain ⟨c, hb, hn, hc⟩ := hrow
        exact ⟨c.toList, by simp [hn], Or.inr ⟨w.heap.size, len, c, rfl, Nat.le_refl _, hb, Nat.le_refl _, by unfold maxLen; omega, by omega, by rw [List.take_of_length_le (by simp [hn])]⟩⟩

/-! ### zzBools -/
set_option maxHeartbeats 400000 in
theorem bools_any (ad : Option Addr) (len cap : Nat) (w : World) (hi : Bools w ad len) (hlen : len ≤ 1048576) :
    Calls Try.prog 32 #[.slice ad len cap] w fun e w' => ∃ ad' cap', e = .returned (.slice ad' len cap') ∧ Below w.heap.size w w' := by
  have hnil := fun wx => Lib.run_eql_slice_nil (P := Try.prog) wx 70 4 ad len cap 0 0 Try.underlying70
  have hmk := run_make_row' (P := Try.prog) 70 4 (.bool false) 1 Try.underlying70 info4 rfl .i64 .i64 len (by omega) (by omega)
  cases ad with
  | none =>
    have h0 := hi.nil
    subst h0
    go_enter Try.func32, Try.ntmps32
    go_wp2
    go_ret
    exact ⟨none, 0, rfl, Below.refl _ _⟩
  | some a =>
    go_enter Try.func32, Try.ntmps32
    go_wp2
    go_loopw [4] (fun i wr => ∃ j : Nat, j ≤ len ∧ i = .int .i64 j ∧ (∃ f : Nat → Bool, wr.rowIs w.heap.size 4 len (fun m => .bool (f m))) ∧ Below w.heap.size w wr) (fun i _ => len - (intOf i).toNat)
    case atStart => exact ⟨0, Nat.zero_le _, rfl, ⟨fun _ => false, World.rowIs_made w (.bool false) len 4⟩, (Below.refl _ _).alloc (Nat.le_refl _) _⟩
    case round =>
      obtain ⟨j, hj, rfl, ⟨f, hrow⟩, hbel⟩ := hrel
      by_cases hlt : j < len
      · obtain ⟨b, off, s, ea, c0⟩ := hi.cells j hlt
        simp only [Option.some.injEq] at ea
        subst ea
        replace c0 := cell_later hbel c0
        have r0 := hrow.cell hlt
        have f0 := hrow.frozen j
        have i0 : (0 : Int) ≤ (j : Int) := by omega
        have i1 : (j : Int) < (len : Int) := by omega
        have hnew : (wr.setCell ⟨w.heap.size, j, none⟩ (.bool s)).rowIs w.heap.size 4 len (fun m => .bool (if m = j then s else f m)) :=
          (hrow.set j _).congr fun m _ => by show (if m = j then Value.bool s else .bool (f m)) = .bool (if m = j then s else f m); split <;> rfl
        go_wp2
        go_roundw
        case rel => exact ⟨j + 1, by omega, by go_num, ⟨_, hnew⟩, hbel.setCell (Nat.le_refl _) _⟩
        case measure => simp [intOf]; omega
      · go_wp2
        go_ret
        exact ⟨some ⟨w.heap.size, 0, none⟩, len, rfl, hbel⟩

/-! ### zzValueLists -/
/-- The list of lists that the call has made: an outer row at tb (or nil), each inner slice of its own. -/
structure LRow (w : World) (B : Nat) (tad : Option Addr) (n : Nat) (Ls : Nat → Nat) : Prop where
  ex : (tad = none ∧ n = 0) ∨ ∃ tb V, tad = some ⟨tb, 0, none⟩ ∧ B ≤ tb ∧ w.rowIs tb 44 n V ∧ ∀ i, i < n → ∃ xs ra rc, V i = .slice ra (Ls i) rc ∧ w.ownsRow B 79 1 (V i) (Ls i) xs

/-- An owned row stays over whatever leaves its block. -/
theorem ownsRow_blocks {w w' : World} {B n : Nat} {e : TypeId} {size : Nat} {v : Value} {xs : List Value} (h : w.ownsRow B e size v n xs) (hk : ∀ k, v.ownBlock = some k → w'.heap[k]? = w.heap[k]?) : w'.ownsRow B e size v n xs := by
  obtain ⟨hl, h1 | ⟨g, cap, cur, hv, hg, hh, rest⟩⟩ := h
  · exact ⟨hl, Or.inl h1⟩
  · exact ⟨hl, Or.inr ⟨g, cap, cur, hv, hg, (hk g (by rw [hv]; rfl)).trans hh, rest⟩⟩
theorem own_lt {w : World} {B n : Nat} {e : TypeId} {size : Nat} {v : Value} {xs : List Value} (h : w.ownsRow B e size v n xs) {k : Nat} (hk : v.ownBlock = some k) : k < w.heap.size := by
  obtain ⟨hl, h1 | ⟨g, cap, cur, hv, hg, hh, rest⟩⟩ := h
  · rw [h1.1] at hk; cases hk
  · rw [hv] at hk; simp [Value.ownBlock] at hk; subst hk
    exact (Array.getElem?_eq_some_iff.1 hh).1
theorem own_ne_row {w : World} {B n m tb : Nat} {v : Value} {xs : List Value} {V : Nat → Value} (h : w.ownsRow B 79 1 v n xs) (hr : w.rowIs tb 44 m V) {k : Nat} (hk : v.ownBlock = some k) : k ≠ tb := by
  rintro rfl
  obtain ⟨hl, h1 | ⟨g, cap, cur, hv, hg, hh, rest⟩⟩ := h
  · rw [h1.1] at hk; cases hk
  · rw [hv] at hk; simp [Value.ownBlock] at hk; subst hk
    obtain ⟨c, hc, _⟩ := hr
    rw [hh] at hc
    simp at hc

theorem ownsRow_below {w w' : World} {B n : Nat} {e : TypeId} {size : Nat} {v : Value} {xs : List Value} (h : w.ownsRow B e size v n xs) (hb : Below w.heap.size w w') : w'.ownsRow B e size v n xs :=
  ownsRow_blocks h fun k hk => hb.block k (own_lt h hk)

theorem LRow.below {w w' : World} {B : Nat} {tad : Option Addr} {n : Nat} {Ls : Nat → Nat} (h : LRow w B tad n Ls) (hb : Below w.heap.size w w') : LRow w' B tad n Ls := by
  rcases h.ex with h0 | ⟨tb, V, e, hB, hr, hV⟩
  · exact ⟨Or.inl h0⟩
  · exact ⟨Or.inr ⟨tb, V, e, hB, rowIs_below hr hb hr.lt, fun i hi => by
      obtain ⟨xs, ra, rc, e1, ho⟩ := hV i hi
      exact ⟨xs, ra, rc, e1, ownsRow_below ho hb⟩⟩⟩

/-- Filled up to j. -/
def Filled (w : World) (B tb n j : Nat) (Ls : Nat → Nat) : Prop :=
  ∃ V, w.rowIs tb 44 n V ∧ (∀ i, j ≤ i → i < n → V i = .slice none 0 0) ∧ ∀ i, i < j → ∃ xs ra rc, V i = .slice ra (Ls i) rc ∧ w.ownsRow B 79 1 (V i) (Ls i) xs

set_option maxHeartbeats 400000 in
theorem valueLists_any (ad : Option Addr) (n cap : Nat) (Ls : Nat → Nat) (w : World) (hi : Rws w ad n Ls) (hn : n ≤ 1048576) (hL : ∀ i, i < n → Ls i ≤ 1048576) :
    Calls Try.prog 31 #[.slice ad n cap] w fun e w' => ∃ ad' cap', e = .returned (.slice ad' n cap') ∧ LRow w' w.heap.size ad' n Ls ∧ Below w.heap.size w w' := by
  have hnil := fun wx => Lib.run_eql_slice_nil (P := Try.prog) wx 69 22 ad n cap 0 0 Try.underlying69
  have hmk := run_make_row' (P := Try.prog) 76 44 (.slice none 0 0) 24 Try.underlying76 info44 rfl .i64 .i64 n (by omega) (by omega)
  cases ad with
  | none =>
    have h0 := hi.nil
    subst h0
    go_enter Try.func31, Try.ntmps31
    go_wp2
    go_ret
    exact ⟨none, 0, rfl, ⟨Or.inl ⟨rfl, rfl⟩⟩, Below.refl _ _⟩
  | some a =>
    go_enter Try.func31, Try.ntmps31
    go_wp2
    go_loopw [4] (fun i wr => ∃ j : Nat, j ≤ n ∧ i = .int .i64 j ∧ Filled wr w.heap.size w.heap.size n j Ls ∧ Below w.heap.size w wr) (fun i _ => n - (intOf i).toNat)
    case atStart => exact ⟨0, Nat.zero_le _, rfl, ⟨_, World.rowIs_made w (.slice none 0 0) n 44, fun _ _ _ => rfl, fun i hi => absurd hi (Nat.not_lt_zero _)⟩, (Below.refl _ _).alloc (Nat.le_refl _) _⟩
    case round =>
      obtain ⟨j, hj, rfl, ⟨V, hrow, hV0, hV⟩, hbel⟩ := hrel
      by_cases hlt : j < n
      · obtain ⟨b, off, rad, rcap, ea, c0, hs⟩ := hi.cells j hlt
        simp only [Option.some.injEq] at ea
        subst ea
        replace c0 := cell_later hbel c0
        have hsr := hs.below hbel
        have i0 : (0 : Int) ≤ (j : Int) := by omega
        have i1 : (j : Int) < (n : Int) := by omega
        go_wp2_with fail
        refine (values_any rad (Ls j) rcap _ hsr (hL j hlt)).mono ?_
        rintro e w1 ⟨ad', cap', rfl, hcap, ⟨xs, hown⟩, hb1⟩
        have hrow1 := rowIs_below hrow hb1 hrow.lt
        have r0 := hrow1.cell hlt
        have f0 := hrow1.frozen j
        rw [hV0 j (Nat.le_refl _) hlt] at r0
        have hown1 : w1.ownsRow w.heap.size 79 1 (.slice ad' (Ls j) cap') (Ls j) xs := by
          obtain ⟨hl, h1 | ⟨g, cap, cur, hv, hg, rest⟩⟩ := hown
          · exact ⟨hl, Or.inl h1⟩
          · exact ⟨hl, Or.inr ⟨g, cap, cur, hv, Nat.le_trans hbel.size hg, rest⟩⟩
        have hfill : Filled (w1.setCell ⟨w.heap.size, j, none⟩ (.slice ad' (Ls j) cap')) w.heap.size w.heap.size n (j + 1) Ls := by
          refine ⟨_, hrow1.set j _, fun i hi hin => ?_, fun i hi => ?_⟩
          · show (if i = j then _ else V i) = _
            rw [if_neg (by omega)]; exact hV0 i (by omega) hin
          · rcases Nat.lt_or_ge i j with h | h
            · obtain ⟨ys, ra, rc, e1, ho⟩ := hV i h
              refine ⟨ys, ra, rc, (if_neg (by omega)).trans e1, ?_⟩
              rw [if_neg (by omega)]
              have ho1 := ownsRow_below ho hb1
              exact ownsRow_blocks ho1 fun k hk => Below.heap_setCell _ _ _ _ (own_ne_row ho1 hrow1 hk)
            · have : i = j := by omega
              subst this
              refine ⟨xs, ad', cap', if_pos rfl, ?_⟩
              rw [if_pos rfl]
              exact ownsRow_blocks hown1 fun k hk => Below.heap_setCell _ _ _ _ (own_ne_row hown1 hrow1 hk)
        clear hrow hV0 hV hrow1 hown hown1
        go_wp2_with fail
        go_roundw
        case rel => exact ⟨j + 1, by omega, by go_num, hfill, (hbel.trans (hb1.mono hbel.size)).setCell (Nat.le_refl _) _⟩
        case measure => simp [intOf]; omega
      · have hjn : j = n := by omega
        subst hjn
        go_wp2_with fail
        go_ret
        exact ⟨some ⟨w.heap.size, 0, none⟩, j, rfl, ⟨Or.inr ⟨w.heap.size, V, rfl, Nat.le_refl _, hrow, hV⟩⟩, hbel⟩

/-! ### The inbox -/
/-- The inbox at b: its toSome has n rows, row i of length Ls i. -/
structure InboxAt (w : World) (b n : Nat) (Ls : Nat → Nat) : Prop where
  ex : ∃ tad tcap, w.cell? ⟨b, 1, none⟩ = some (.slice tad n tcap) ∧ ∀ i, i < n → ∃ tb off ra rc, tad = some ⟨tb, off, none⟩ ∧ w.cell? ⟨tb, off + i, none⟩ = some (.slice ra (Ls i) rc)

theorem InboxAt.below {w w' : World} {b n : Nat} {Ls : Nat → Nat} (h : InboxAt w b n Ls) (hb : Below w.heap.size w w') : InboxAt w' b n Ls := by
  obtain ⟨tad, tcap, h1, h2⟩ := h.ex
  exact ⟨tad, tcap, cell_later hb h1, fun i hi => by
    obtain ⟨tb, off, ra, rc, e, c⟩ := h2 i hi
    exact ⟨tb, off, ra, rc, e, cell_later hb c⟩⟩

/-- .. below a smaller bound, where the inbox and its row lie. -/
theorem inbox_of_row {w : World} {tad : Option Addr} {n tcap : Nat} {Ls : Nat → Nat} (o0 o2 o3 : Value) (h : ∀ i, i < n → ∃ tb off ra rc, tad = some ⟨tb, off, none⟩ ∧ w.cell? ⟨tb, off + i, none⟩ = some (.slice ra (Ls i) rc)) :
    InboxAt (w.alloc (.cells #[o0, .slice tad n tcap, o2, o3] 100)) w.heap.size n Ls :=
  ⟨tad, tcap, by simp [go_sem], fun i hi => by
    obtain ⟨tb, off, ra, rc, e, c⟩ := h i hi
    exact ⟨tb, off, ra, rc, e, cell_later ((Below.refl _ _).alloc (Nat.le_refl _) _) c⟩⟩

theorem LRow.rows {w : World} {B : Nat} {tad : Option Addr} {n : Nat} {Ls : Nat → Nat} (h : LRow w B tad n Ls) : ∀ i, i < n → ∃ tb off ra rc, tad = some ⟨tb, off, none⟩ ∧ w.cell? ⟨tb, off + i, none⟩ = some (.slice ra (Ls i) rc) := fun i hi => by
  rcases h.ex with ⟨_, h0⟩ | ⟨tb, V, e, hB, hr, hV⟩
  · omega
  · obtain ⟨xs, ra, rc, e1, _⟩ := hV i hi
    exact ⟨tb, 0, ra, rc, e, by rw [Nat.zero_add, hr.cell hi, e1]⟩

theorem newInbox_any (a0 a1 a3 : Option Addr) (l0 c0 n c1 l3 c3 : Nat) (k : Bool) (w : World) :
    Calls Try.prog 29 #[.slice a0 l0 c0, .slice a1 n c1, .bool k, .slice a3 l3 c3] w fun e w' => e = .returned (.pointer (some ⟨w.heap.size, 0, none⟩)) ∧ w' = w.alloc (.cells #[.slice a0 l0 c0, .slice a1 n c1, .bool k, .slice a3 l3 c3] 100) := by
  go_enter Try.func29, Try.ntmps29
  go_wp2
  go_ret
  exact ⟨rfl, rfl⟩

set_option maxHeartbeats 400000 in
theorem crashReached_any (b n : Nat) (Ls : Nat → Nat) (j : Nat) (w : World) (h : InboxAt w b n Ls) (hj : j < n) (hn : n ≤ 1048576) :
    Calls Try.prog 41 #[.pointer (some ⟨b, 0, none⟩), .int .i64 (j : Int)] w fun e w' => e = .returned (.bool (decide (0 < Ls j))) ∧ w' = w := by
  obtain ⟨tad, tcap, h1, h2⟩ := h.ex
  obtain ⟨tb, off, ra, rc, rfl, c⟩ := h2 j hj
  obtain ⟨L, hL⟩ : ∃ L, Hid (Ls j = L) := ⟨_, rfl⟩
  rw [hL.out] at c ⊢
  have i0 : (0 : Int) ≤ (j : Int) := by omega
  have i1 : (j : Int) < (n : Int) := by omega
  go_enter Try.func41, Try.ntmps41
  go_wp2
  go_ret
  exact ⟨by simp, rfl⟩

theorem zzCrashReached_any (b n : Nat) (Ls : Nat → Nat) (j : Nat) (w : World) (h : InboxAt w b n Ls) (hj : j < n) (hn : n ≤ 1048576) :
    Calls Try.prog 33 #[.pointer (some ⟨b, 0, none⟩), .int .i64 (j : Int)] w fun e w' => e = .returned (.bool (decide (0 < Ls j))) ∧ w' = w := by
  go_enter Try.func33, Try.ntmps33
  go_wp2_with (go_at_call 41; refine (crashReached_any b n Ls j _ h hj hn).mono ?_; rintro e w' ⟨rfl, rfl⟩)
  go_ret
  exact ⟨rfl, rfl⟩

end Go.Proofs.Qxb6613846a
