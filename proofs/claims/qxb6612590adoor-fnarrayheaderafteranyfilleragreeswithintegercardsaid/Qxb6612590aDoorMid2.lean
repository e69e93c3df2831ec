import Derived.Test.Qxb6612590aDoorMid
import Derived.Lib.ItoaMem
import Derived.Lib.AppendIntMem
import Derived.Lib.ItoaWalk
import Derived.CellFam
namespace Go.Proofs.Qxb6612590aDoor
open Go.RowKit Go.Sort Go.Lib
set_option linter.unusedSimpArgs false
set_option linter.unusedVariables false
attribute [local go_sem ↓] Go.wp_at_zero Go.wp_at_succ

theorem Mid.below {w W : World} {kb off cap0 : Nat} {ys : List UInt8} (h : Mid w kb off cap0 ys) (hb : Below w.heap.size w W) : Mid W kb off cap0 ys :=
  ⟨range_block h.rng (hb.block kb h.lt), there_block h.thr (hb.block kb h.lt), h.le, Nat.lt_of_lt_of_le h.lt hb.size⟩

theorem App.pre {w W w' : World} {kb off cap0 : Nat} {ys D : List UInt8} {e : Ending} (hk : kb < w.heap.size) (hb : Below w.heap.size w W) (h : App W w' kb off cap0 ys D e) : App w w' kb off cap0 ys D e := by
  cases h with
  | room hr he hkp hrng hlow hthr =>
    refine .room hr he ((Kept.of_below hb).trans hkp) hrng (fun j v hj hc => hlow j v hj (cell_later hb hc)) (fun b m h => hthr b m (there_block h (hb.block kb hk)))
  | grow hg g cap' he hrow hkp hlow hthr =>
    refine .grow hg g cap' he ?_ ((Kept.of_below hb).trans hkp) (fun j v hj hc => hlow j v hj (cell_later hb hc)) (fun b m h => hthr b m (there_block h (hb.block kb hk)))
    obtain ⟨hl, h0 | ⟨b, c, cur, hv, hB, r⟩⟩ := hrow
    · exact ⟨hl, Or.inl h0⟩
    · exact ⟨hl, Or.inr ⟨b, c, cur, hv, Nat.le_trans hb.size hB, r⟩⟩

/-- append(dst, a[:m]...) at a dst in the midst. -/
theorem app_cells (w : World) (kb off cap0 : Nat) (ys D : List UInt8) (a : Addr) (c : Nat) (hm : Mid w kb off cap0 ys) (hsrc : ∀ j u, (Lib.byteCells D)[j]? = some u → w.cell? (a.add j) = some u) (hlim : ys.length + D.length ≤ 1048576) (h1 : 1 ≤ D.length) :
    ∃ v' w', (Builtin.append_ #[24, 24] 24 #[.slice (some ⟨kb, off, none⟩) ys.length cap0, .slice (some a) D.length c]).run Tryd.prog w = .ok v' w' ∧ App w w' kb off cap0 ys D (.returned v') := by
  obtain ⟨i, hi, hz0, hs, hby⟩ := info5_parts
  by_cases hroom : ys.length + D.length ≤ cap0
  · have hr := run_append_room_cells (P := Tryd.prog) w 24 24 5 i Tryd.underlying24 hi kb off ys.length cap0 a D.length c (Lib.byteCells D) (by rw [byteCells_len, hs, Nat.mul_one]) hsrc (one_byteCells D) hroom
      (fun j hj => by rw [byteCells_len] at hj; rw [hs, Nat.mul_one]; have := (hm.thr (ys.length + j) (by omega)).1; simpa [Nat.add_assoc] using this) (fun j hj => by rw [byteCells_len] at hj; rw [hs, Nat.mul_one]; have := (hm.thr (ys.length + j) (by omega)).2; simpa [Nat.add_assoc] using this)
    rw [hs, Nat.mul_one] at hr
    exact ⟨_, _, hr, mid_room hm hroom rfl⟩
  · obtain ⟨v', w', hr, hown, hg⟩ := run_append_arg_grows (P := Tryd.prog) w 24 24 5 i _ 1 1 Tryd.underlying24 hi hz0 hs hby rfl (by omega) ⟨kb, off, none⟩ ys.length cap0 (Lib.byteCells ys) (by rw [byteCells_len, Nat.mul_one]) (fun j u hj => by rw [Go.WideShapes.add_plain]; exact hm.rng j u hj) a D.length c (Lib.byteCells D) (by rw [byteCells_len, Nat.mul_one]) hsrc (by omega) (by unfold maxLen; omega) (by omega)
    rw [← byteCells_app] at hown
    obtain ⟨hl, h0 | ⟨g, c', cur, hv, hB, r⟩⟩ := id hown
    · exfalso
      have := h0.2
      simp at this
      omega
    · subst hv
      exact ⟨_, _, hr, App.mkGrow hm.lt (by omega) g c' rfl hown ⟨hg.os, hg.tape, hg.output, hg.size, fun k hk => hg.block k hk (by simp)⟩⟩

end Go.Proofs.Qxb6612590aDoor
