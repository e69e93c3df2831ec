import Derived.Test.Qxb6612590aDoorMid2
namespace Go.Proofs.Qxb6612590aDoor
open Go.RowKit Go.Sort Go.Lib
set_option linter.unusedSimpArgs false
set_option linter.unusedVariables false
attribute [local go_sem ↓] Go.wp_at_zero Go.wp_at_succ

set_option maxHeartbeats 6400000 in
set_option maxRecDepth 100000 in
/-- AppendUint(dst, u, 10), u from 100 on, dst in the midst of a block. -/
theorem appU_big (kb off cap0 u : Nat) (ys : List UInt8) (w : World) (hm : Mid w kb off cap0 ys) (hu : 100 ≤ u) (hu64 : u < 18446744073709551616) (hlim : ys.length ≤ 100) (htab : Lib.TabIs Tryd.prog w "internal/strconv.uint64pow10" .u64 Lib.pow10Tab) :
    Calls Tryd.prog 48 #[.slice (some ⟨kb, off, none⟩) ys.length cap0, .int .u64 u, .int .i64 10] w fun e w' => App w w' kb off cap0 ys (Lib.decDigits u) e := by
  have hu1 : 1 ≤ u := by omega
  have hnd20 : Lib.nDigits u ≤ 20 := Lib.nDigits_le20 u hu64
  have hnd1 : 1 ≤ Lib.nDigits u := Lib.nDigits_pos u
  have hal : Tryd.prog.arrayLen 96 = 24 := by kernel_rfl
  have hsl : ∀ W, (Instr.sliceAt 96 (.pointer (some ⟨w.heap.size, 0, none⟩)) none (some (.int .i64 (Lib.nDigits u : Int))) none).run Tryd.prog W = .ok (.slice (some ⟨w.heap.size, 0, none⟩) (Lib.nDigits u) 24) W := fun W => by
    rw [run_sliceAt_array_h W 96 ⟨w.heap.size, 0, none⟩ (by kernel_rfl) .i64 (Lib.nDigits u : Int) (by omega) (by rw [hal]; omega)]
    go_simp
  have hH0 := Lib.holds_zero0 w 96 (Lib.nDigits u) (by omega)
  have hfmt := Tryd.internal_strconv_formatBase10 w.heap.size 0 24 u (Array.replicate (Lib.nDigits u) 0) (w.alloc (.cells Lib.zeros24 96)) hH0 (by rw [Array.size_replicate]; exact Lib.lt_pow_nDigits u) hu64 (by rw [Array.size_replicate]; omega)
  rw [Array.size_replicate] at hfmt
  have HH0 := Lib.hid hH0
  have q1 : decide ((u : Int) < 100) = false := by simp; omega
  clear hH0 hal
  go_enter Tryd.func48, Tryd.ntmps48
  go_wp2_with fail
  refine (Tryd.internal_strconv_numDigits u hu1 hu64 _ (Lib.tabIs_alloc htab _)).mono ?_
  rintro e w1 ⟨rfl, hw⟩
  subst w1
  go_wp2_with fail
  refine hfmt.mono ?_
  rintro e w1 ⟨rfl, k, v', dk, hw1, hF⟩
  have hcells : ∀ j u', (Lib.byteCells (Lib.decDigits u))[j]? = some u' → w1.cell? ((⟨w.heap.size, 0, none⟩ : Addr).add j) = some u' := by
    intro j u' hj
    have hjl : j < (Lib.decDigits u).length := by
      have h5 := (List.getElem?_eq_some_iff.1 hj).1
      rwa [byteCells_len] at h5
    have e5 : (Lib.byteCells (Lib.decDigits u))[j]? = some (Value.int .u8 ((Lib.decDigits u)[j].toNat : Int)) := by simp [Lib.byteCells, hjl]
    rw [e5] at hj
    cases hj
    rw [hw1, Lib.row_is_numeral hF j hjl, Go.WideShapes.add_plain, World.cell?_drewN]
    exact cell?_putRow (fun (b : UInt8) => Value.int .u8 (b.toNat : Int)) _ w.heap.size 0 _ dk HH0.out (by rw [hF.size, Array.size_replicate]) j (by rw [hF.size]; rw [Lib.decDigits_length] at hjl; exact hjl)
  have hb1 : Below w.heap.size w w1 := by
    obtain ⟨os, eo⟩ := Lib.fin_at w (.cells Lib.zeros24 96) dk k 0
    rw [hw1, eo]; exact Lib.below_grow w.heap.size w (Nat.le_refl _) k os
  clear hw1 hF HH0 hfmt
  obtain ⟨v2, w2, hap, hApp⟩ := app_cells w1 kb off cap0 ys (Lib.decDigits u) ⟨w.heap.size, 0, none⟩ 24 (hm.below hb1) hcells (by rw [Lib.decDigits_length]; omega) (by rw [Lib.decDigits_length]; exact hnd1)
  rw [Lib.decDigits_length] at hap
  have hfin := hApp.pre hm.lt hb1
  clear hcells hApp
  go_wp2_with (at_builtin; refine wpList_append_eq rfl (.tmp 24) (.tmp 26) 24 24 rfl _ _ rfl rfl _ _ hap ?_)
  go_wp2_with fail
  go_ret
  exact hfin

theorem appU_any (kb off cap0 u : Nat) (ys : List UInt8) (w : World) (hm : Mid w kb off cap0 ys) (hu64 : u < 18446744073709551616) (hlim : ys.length ≤ 100) (htab : Lib.TabIs Tryd.prog w "internal/strconv.uint64pow10" .u64 Lib.pow10Tab) :
    Calls Tryd.prog 48 #[.slice (some ⟨kb, off, none⟩) ys.length cap0, .int .u64 u, .int .i64 10] w fun e w' => App w w' kb off cap0 ys (Lib.decDigits u) e := by
  by_cases h : u < 100
  · exact appU_small kb off cap0 u ys w hm h hlim
  · exact appU_big kb off cap0 u ys w hm (by omega) hu64 hlim htab

end Go.Proofs.Qxb6612590aDoor
