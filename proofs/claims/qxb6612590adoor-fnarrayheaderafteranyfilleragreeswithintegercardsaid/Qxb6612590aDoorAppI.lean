import Derived.Test.Qxb6612590aDoorMid3
namespace Go.Proofs.Qxb6612590aDoor
open Go.RowKit
set_option linter.unusedSimpArgs false
set_option linter.unusedVariables false
attribute [local go_sem ↓] Go.wp_at_zero Go.wp_at_succ

theorem Kept.low {kb B : Nat} {w w' : World} (h : Kept kb w w') (hB : B ≤ kb) (hw : B ≤ w.heap.size) : Below B w w' :=
  ⟨h.os, h.tape, h.output, h.size, fun k hk => h.block k (by omega) (by omega)⟩

theorem row_slice {w : World} {B n : Nat} {v : Value} {xs : List Value} (h : w.ownsRow B 5 1 v n xs) (hn : 1 ≤ n) : ∃ g c, v = .slice (some ⟨g, 0, none⟩) n c := by
  obtain ⟨hl, h0 | ⟨g, c, cur, hv, r⟩⟩ := h
  · exfalso
    have := h0.2
    omega
  · exact ⟨g, c, hv⟩

theorem cell_low' {B : Nat} {w w' : World} (h : Below B w w') {b o : Nat} {v : Value} (hb : b < B) (hc : w.cell? ⟨b, o, none⟩ = some v) : w'.cell? ⟨b, o, none⟩ = some v := by
  have e := h.block b hb
  simp only [World.cell?] at hc ⊢
  rw [e]; exact hc

set_option maxHeartbeats 4000000 in
set_option maxRecDepth 100000 in
theorem appI_in (B kb off cap0 : Nat) (i : Int) (h0 : -9223372036854775808 ≤ i) (h1 : i ≤ 9223372036854775807) (w : World) (hm : Mid w kb off cap0 []) (hBk : B ≤ kb) (hBw : B ≤ w.heap.size) (htab : Lib.TabBelow Tryd.prog B w "internal/strconv.uint64pow10" .u64 Lib.pow10Tab) :
    Calls Tryd.prog 43 #[.slice (some ⟨kb, off, none⟩) 0 cap0, .int .i64 i, .int .i64 10] w fun e w' => App w w' kb off cap0 [] (Lib.itoa i) e := by
  by_cases hneg : i < 0
  · obtain ⟨u, rfl⟩ : ∃ u : Nat, i = -(u : Int) := ⟨i.natAbs, by omega⟩
    have hu1 : 1 ≤ u := by omega
    have hu64 : u < 18446744073709551616 := by omega
    have hwr : IntKind.u64.wrap (-IntKind.u64.wrap (-(u : Int))) = (u : Int) := by rw [IntKind.wrap_u64, IntKind.wrap_u64]; omega
    rw [Lib.itoa_neg u hu1]
    have hbA : Below w.heap.size w (w.alloc (.cells #[.int .u8 45] 5)) := (Below.refl _ _).alloc (Nat.le_refl _) _
    obtain ⟨v1, w1, hap, hApp⟩ := app_cells (w.alloc (.cells #[.int .u8 45] 5)) kb off cap0 [] [45] ⟨w.heap.size, 0, none⟩ 1 (hm.below hbA) (World.news_of_block (cs := #[Value.int .u8 45]) (t := 5) (fr := (0, 0)) (heap_alloc_new w _)) (by simp) (by simp)
    have hApp1 := hApp.pre hm.lt hbA
    clear hApp
    go_enter Tryd.func43, Tryd.ntmps43
    go_wp2_with (at_builtin; refine wpList_append_eq rfl (.tmp 12) (.tmp 13) 24 24 rfl _ _ rfl rfl _ _ hap ?_)
    cases hApp1 with
    | room hr he hkp hrng hlow hthr =>
      simp only [Ending.returned.injEq] at he
      subst he
      have hm1 : Mid w1 kb off cap0 [45] := ⟨hrng, hthr _ _ hm.thr, by simpa using hr, Nat.lt_of_lt_of_le hm.lt hkp.size⟩
      have hb1 := hkp.low hBk hBw
      go_wp2_with fail
      refine (appU_any kb off cap0 u [45] w1 hm1 hu64 (by simp) (htab w1 hb1)).mono ?_
      intro e w2 hA2
      cases hA2 with
      | room hr2 he2 hkp2 hrng2 hlow2 hthr2 =>
        subst he2
        have e1 : ([45] : List UInt8).length + (Lib.decDigits u).length = ([] : List UInt8).length + (45 :: Lib.decDigits u).length := by simp; omega
        rw [e1] at hr2
        go_wp2_with fail
        go_ret
        refine .room hr2 ?_ (hkp.trans hkp2) hrng2 (fun j v hj hc => hlow2 j v hj (hlow j v hj hc)) (fun b m h => hthr2 b m (hthr b m h))
        rw [← e1]; simp
      | grow hg2 g2 cap2 he2 hrow2 hkp2 hlow2 hthr2 =>
        subst he2
        have e1 : ([45] : List UInt8).length + (Lib.decDigits u).length = ([] : List UInt8).length + (45 :: Lib.decDigits u).length := by simp; omega
        have hrow3 : w2.ownsRow w.heap.size 5 1 (.slice (some ⟨g2, 0, none⟩) (([] : List UInt8).length + (45 :: Lib.decDigits u).length) cap2) (([] : List UInt8).length + (45 :: Lib.decDigits u).length) (Lib.byteCells ([] ++ (45 :: Lib.decDigits u))) := by
          rw [← e1]
          obtain ⟨hl, h0 | ⟨b, c, cur, hv, hB, r⟩⟩ := hrow2
          · exact ⟨hl, Or.inl h0⟩
          · exact ⟨hl, Or.inr ⟨b, c, cur, hv, Nat.le_trans hkp.size hB, r⟩⟩
        go_wp2_with fail
        go_ret
        refine .grow (by rw [← e1]; exact hg2) g2 cap2 ?_ hrow3 (hkp.trans hkp2) (fun j v hj hc => hlow2 j v hj (hlow j v hj hc)) (fun b m h => hthr2 b m (hthr b m h))
        rw [← e1]; simp
    | grow hg g cap' he hrow hkp hlow hthr =>
      simp only [Ending.returned.injEq] at he
      subst he
      have hb1 := hkp.low hBk hBw
      have hrow' : w1.ownsRow w.heap.size 5 1 (.slice (some ⟨g, 0, none⟩) 1 cap') 1 (Lib.byteCells [45]) := hrow
      go_wp2_with fail
      refine (Tryd.internal_strconv_AppendUint_10 w.heap.size 1 u hu64 _ _ w1 hrow' hkp.size (by omega) (htab w1 hb1)).mono ?_
      rintro e w2 ⟨v2, rfl, hown2, hb2, -⟩
      obtain ⟨g2, c2, hv2⟩ := row_slice hown2 (by omega)
      subst hv2
      have e1 : 1 + (Lib.decDigits u).length = ([] : List UInt8).length + (45 :: Lib.decDigits u).length := by simp; omega
      have hrow3 : w2.ownsRow w.heap.size 5 1 (.slice (some ⟨g2, 0, none⟩) (([] : List UInt8).length + (45 :: Lib.decDigits u).length) c2) (([] : List UInt8).length + (45 :: Lib.decDigits u).length) (Lib.byteCells ([] ++ (45 :: Lib.decDigits u))) := by
        rw [← e1]; exact hown2
      have hkp2 : Kept kb w w2 := ⟨hb2.os.trans hkp.os, hb2.tape.trans hkp.tape, hb2.output.trans hkp.output, Nat.le_trans hkp.size hb2.size, fun k hk hkk => (hb2.block k hk).trans (hkp.block k hk hkk)⟩
      have hlow2 : ∀ j v, (j < off ∨ off + cap0 ≤ j) → w.cell? ⟨kb, j, none⟩ = some v → w2.cell? ⟨kb, j, none⟩ = some v := fun j v hj hc => cell_low' hb2 hm.lt (hlow j v hj hc)
      have hthr2 : ∀ b m, w.there kb b m → w2.there kb b m := fun b m h => there_block (hthr b m h) (hb2.block kb hm.lt)
      have hg2 : cap0 < ([] : List UInt8).length + (45 :: Lib.decDigits u).length := by simp at hg ⊢; omega
      clear hown2
      go_wp2_with fail
      go_ret
      refine .grow hg2 g2 c2 ?_ hrow3 hkp2 hlow2 hthr2
      rw [← e1]; simp; omega
  · obtain ⟨u, rfl⟩ : ∃ u : Nat, i = u := ⟨i.toNat, by omega⟩
    have hu64 : u < 18446744073709551616 := by omega
    rw [Lib.itoa_nonneg]
    go_enter Tryd.func43, Tryd.ntmps43
    go_wp2_with fail
    refine (appU_any kb off cap0 u [] w hm hu64 (by simp) htab.here).mono ?_
    intro e w2 hA2
    cases hA2 with
    | room hr he hkp hrng hlow hthr =>
      subst he
      go_wp2_with fail
      go_ret
      exact .room hr (by simp) hkp hrng hlow hthr
    | grow hg g cap' he hrow hkp hlow hthr =>
      subst he
      go_wp2_with fail
      go_ret
      exact .grow hg g cap' (by simp) hrow hkp hlow hthr

/-- strconv.AppendInt(dst, i, 10), dst in the midst of a block. -/
theorem appI_any (B kb off cap0 : Nat) (i : Int) (h0 : -9223372036854775808 ≤ i) (h1 : i ≤ 9223372036854775807) (w : World) (hm : Mid w kb off cap0 []) (hBk : B ≤ kb) (hBw : B ≤ w.heap.size) (htab : Lib.TabBelow Tryd.prog B w "internal/strconv.uint64pow10" .u64 Lib.pow10Tab) :
    Calls Tryd.prog 30 #[.slice (some ⟨kb, off, none⟩) 0 cap0, .int .i64 i, .int .i64 10] w fun e w' => App w w' kb off cap0 [] (Lib.itoa i) e := by
  go_enter Tryd.func30, Tryd.ntmps30
  go_wp2_with fail
  refine (appI_in B kb off cap0 i h0 h1 w hm hBk hBw htab).mono ?_
  intro e w2 hA2
  cases hA2 with
  | room hr he hkp hrng hlow hthr =>
    subst he
    go_wp2_with fail
    go_ret
    exact .room hr (by simp) hkp hrng hlow hthr
  | grow hg g cap' he hrow hkp hlow hthr =>
    subst he
    go_wp2_with fail
    go_ret
    exact .grow hg g cap' (by simp) hrow hkp hlow hthr

end Go.Proofs.Qxb6612590aDoor
