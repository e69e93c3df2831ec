import Derived.Test.Qxb6613846aLeaves
import Derived.Laws.EntriesVeiled
import Derived.Deep.AppendLies
namespace Go.Proofs.Qxb6613846a
open Go.RowKit
set_option linter.unusedSimpArgs false
attribute [local go_sem ↓] Go.wp_at_zero Go.wp_at_succ

set_option maxHeartbeats 400000 in
theorem sameEvent_any (r p : Int) (st : ByteArray) (ad bd : Option Addr) (len ca cb : Nat) (zs : List Int) (w : World) (ha : Ints w ad len zs) (hb : Ints w bd len zs) (hn : ad.isNone = bd.isNone) (hlen : len ≤ 1048576) :
    Calls Try.prog 23 #[.agg #[.int .i64 r, .int .i64 0, .int .i8 2, .int .i64 p, .int .i64 0, .string st, .slice ad len ca], .agg #[.int .i64 r, .int .i64 0, .int .i8 2, .int .i64 p, .int .i64 0, .string st, .slice bd len cb]] w fun e w' => e = .returned (.bool true) ∧ Below w.heap.size w w' := by
  have ha2 : ∀ o1 o2, Ints ((w.alloc o1).alloc o2) ad len zs := fun o1 o2 => ha.below (((Below.refl _ _).alloc (Nat.le_refl _) _).alloc (by simp) _)
  have hb2 : ∀ o1 o2, Ints ((w.alloc o1).alloc o2) bd len zs := fun o1 o2 => hb.below (((Below.refl _ _).alloc (Nat.le_refl _) _).alloc (by simp) _)
  go_enter Try.func23, Try.ntmps23
  go_wp2_with fail
  refine (sameInts_any ad bd len ca cb zs _ (ha2 _ _) (hb2 _ _) hn hlen).mono ?_
  rintro e w' ⟨rfl, n, rfl⟩
  go_wp2
  go_ret
  exact ⟨rfl, (((Below.refl _ _).alloc (Nat.le_refl _) _).alloc (by simp) _).trans (below_draws _ _ _)⟩

/-! ### The closure: 'got = append(got, e)' -/
/-- The blocks of S are as they were. -/
structure Keep (S : Nat → Prop) (w w' : World) : Prop where
  os : w'.os = w.os
  tape : w'.tape = w.tape
  output : w'.output = w.output
  size : w.heap.size ≤ w'.heap.size
  block : ∀ k, S k → w'.heap[k]? = w.heap[k]?

theorem Keep.refl (S : Nat → Prop) (w : World) : Keep S w w := ⟨rfl, rfl, rfl, Nat.le_refl _, fun _ _ => rfl⟩
theorem Keep.trans {S : Nat → Prop} {a b c : World} (h : Keep S a b) (k : Keep S b c) : Keep S a c :=
  ⟨k.os.trans h.os, k.tape.trans h.tape, k.output.trans h.output, Nat.le_trans h.size k.size, fun i hi => (k.block i hi).trans (h.block i hi)⟩
theorem Keep.mono {S T : Nat → Prop} {a b : World} (h : Keep S a b) (hs : ∀ k, T k → S k) : Keep T a b := ⟨h.os, h.tape, h.output, h.size, fun k hk => h.block k (hs k hk)⟩
theorem Keep.of_below {S : Nat → Prop} {B : Nat} {a b : World} (h : Below B a b) (hs : ∀ k, S k → k < B) : Keep S a b := ⟨h.os, h.tape, h.output, h.size, fun k hk => h.block k (hs k hk)⟩
theorem Keep.below {S : Nat → Prop} {B : Nat} {a b : World} (h : Keep S a b) (hs : ∀ k, k < B → S k) : Below B a b := ⟨h.os, h.tape, h.output, h.size, fun k hk => h.block k (hs k hk)⟩
theorem Keep.setCell {S : Nat → Prop} {a w : World} (h : Keep S a w) (p : Addr) (hp : ¬ S p.block) (u : Value) : Keep S a (w.setCell p u) :=
  h.trans ⟨rfl, rfl, rfl, by simp [World.setCell], fun k hk => Below.heap_setCell _ _ _ _ (fun e => hp (e ▸ hk))⟩
theorem Keep.grown {S : Nat → Prop} {a w w' : World} {row : Option Nat} (h : Keep S a w) (hg : w.grownBy w' row) (hs : ∀ k, S k → k < w.heap.size ∧ some k ≠ row) : Keep S a w' :=
  h.trans ⟨hg.os, hg.tape, hg.output, hg.size, fun k hk => hg.block k (hs k hk).1 (hs k hk).2⟩
theorem Keep.cell {S : Nat → Prop} {w w' : World} (h : Keep S w w') {a : Addr} {v : Value} (hp : S a.block) (hc : w.cell? a = some v) : w'.cell? a = some v := (World.cell?_of_block (w := w) (h.block _ hp)).trans hc
theorem Keep.frozen {S : Nat → Prop} {w w' : World} (h : Keep S w w') {a : Addr} {v : Bool} (hp : S a.block) (hc : w.frozen? a = v) : w'.frozen? a = v := (World.frozen?_of_block (w := w) (h.block _ hp)).trans hc

theorem info63 : (Try.prog.info? 63).map (fun i => (i.zero, i.size, i.bytes)) = some (some (.agg #[.int .i64 0, .int .i64 0, .int .i8 0, .int .i64 0, .int .i64 0, .string ⟨#[]⟩, .slice none 0 0]), 7, 80) := by kernel_rfl

theorem own_block_ge {w : World} {B n : Nat} {v : Value} {xs : List Value} {e : TypeId} {size : Nat} (h : w.ownsRow B e size v n xs) (k : Nat) (hk : v.ownBlock = some k) : B ≤ k := by
  obtain ⟨_, h | ⟨g, cap, cur, rfl, hg, _⟩⟩ := h
  · rw [h.1] at hk; cases hk
  · simp [Value.ownBlock] at hk; omega

set_option maxHeartbeats 400000 in
theorem closure_any (v : Value) (gb B : Nat) (r p : Int) (st : ByteArray) (ad : Option Addr) (len ca : Nat) (n : Nat) (xs : List Value) (w : World)
    (hc : w.cell? ⟨gb, 0, none⟩ = some v) (hf : w.frozen? ⟨gb, 0, none⟩ = false) (hB : gb < B) (hBw : B ≤ w.heap.size) (hown : w.ownsRow B 63 7 v n xs) (hn : n ≤ 4194304) :
    Calls Try.prog 38 #[.agg #[.int .i64 r, .int .i64 0, .int .i8 2, .int .i64 p, .int .i64 0, .string st, .slice ad len ca], .pointer (some ⟨gb, 0, none⟩)] w fun e w' => e = .returned (.tuple #[]) ∧
      ∃ v', w'.cell? ⟨gb, 0, none⟩ = some v' ∧ w'.frozen? ⟨gb, 0, none⟩ = false ∧ w'.ownsRow B 63 7 v' (n + 1) (xs ++ [.int .i64 r, .int .i64 0, .int .i8 2, .int .i64 p, .int .i64 0, .string st, .slice ad len ca]) ∧ Keep (fun k => k < B ∧ k ≠ gb) w w' := by
  obtain ⟨i0, hi0, hzz⟩ := Option.map_eq_some_iff.1 info63
  simp only [Prod.mk.injEq] at hzz
  obtain ⟨hz0, hz1, hz2⟩ := hzz
  have hc1 : ∀ o1, (w.alloc o1).cell? ⟨gb, 0, none⟩ = some v := fun o1 => cell_later ((Below.refl _ _).alloc (Nat.le_refl _) _) hc
  have hc2 : ∀ o1 o2, ((w.alloc o1).alloc o2).cell? ⟨gb, 0, none⟩ = some v := fun o1 o2 => cell_later ((Below.refl _ _).alloc (Nat.le_refl _) _) (hc1 o1)
  go_enter Try.func38, Try.ntmps38
  go_wp2_with (at_builtin; refine wpList_append_lies _ rfl (.tmp 3) (.tmp 5) 54 rfl B 63 i0 _ 7 80 Try.underlying54 hi0 hz0 hz1 hz2 rfl (by omega) v n xs rfl ((hown.alloc _).alloc _) ⟨w.heap.size + 1, 0, none⟩ 1 1 [.int .i64 r, .int .i64 0, .int .i8 2, .int .i64 p, .int .i64 0, .string st, .slice ad len ca] rfl rfl ?hnews ?h1 (by omega) ?h63 ?hby ?hbase (w.heap.size + 1 + 1) ?hH ?_)
  case hnews => exact World.news_of_block (cs := #[.int .i64 r, .int .i64 0, .int .i8 2, .int .i64 p, .int .i64 0, .string st, .slice ad len ca]) (t := 63) (fr := (0, 0)) (by have := heap_alloc_new (w.alloc (.cells #[.int .i64 r, .int .i64 0, .int .i8 2, .int .i64 p, .int .i64 0, .string st, .slice ad len ca] 63)) (.cells #[.int .i64 r, .int .i64 0, .int .i8 2, .int .i64 p, .int .i64 0, .string st, .slice ad len ca] 63); simpa using this)
  case h1 => simp [Value.oneCell']
  case h63 => unfold maxLen; omega
  case hby => omega
  case hbase => simp; omega
  case hH => simp
  intro g cap w1 hown1 hgrow hat hlt
  have hne : some gb ≠ v.ownBlock := fun e => by have := own_block_ge hown gb e.symm; omega
  have e1 : w1.cell? ⟨gb, 0, none⟩ = some v := (hgrow.cell_far ⟨gb, 0, none⟩ (by simp; omega) hne).trans (hc2 _ _)
  have e2 : w1.frozen? ⟨gb, 0, none⟩ = false := (hgrow.frozen_far ⟨gb, 0, none⟩ (by simp; omega) hne).trans ((((Below.refl _ _).alloc (Nat.le_refl _) _).alloc (by simp) _).frozen (p := ⟨gb, 0, none⟩) (by simp; omega) |>.trans hf)
  go_wp2
  go_end0
  refine ⟨rfl, _, World.cell?_setCell_same _ _ _ e1, by simpa using e2, ownsRow_setCell_below hown1 hB _, ?_⟩
  refine ((Keep.of_below (((Below.refl _ _).alloc (Nat.le_refl _) _).alloc (by simp) _) (fun k hk => by omega)).grown hgrow (fun k hk => ⟨by simp; omega, fun e => ?_⟩)).setCell _ (fun h => h.2 rfl) _
  have := own_block_ge hown k e.symm
  omega

end Go.Proofs.Qxb6613846a
