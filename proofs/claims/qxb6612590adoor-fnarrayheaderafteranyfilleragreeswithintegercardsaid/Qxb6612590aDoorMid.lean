import Derived.Test.Qxb6612590aDoorArg
import Derived.ArgAppend
namespace Go.Proofs.Qxb6612590aDoor
open Go.RowKit
set_option linter.unusedSimpArgs false
set_option linter.unusedVariables false
attribute [local go_sem ↓] Go.wp_at_zero Go.wp_at_succ

/-- A slice in the midst of the row kb: it holds ys, and has room up to cap0. -/
structure Mid (w : World) (kb off cap0 : Nat) (ys : List UInt8) : Prop where
  rng : w.rangeAt kb off (Lib.byteCells ys)
  thr : w.there kb off cap0
  le : ys.length ≤ cap0
  lt : kb < w.heap.size

/-- What appending D to it leaves: in place, or in a new row. -/
inductive App (w w' : World) (kb off cap0 : Nat) (ys D : List UInt8) (e : Ending) : Prop
  | room (hr : ys.length + D.length ≤ cap0) (he : e = .returned (.slice (some ⟨kb, off, none⟩) (ys.length + D.length) cap0)) (hk : Kept kb w w')
      (hrng : w'.rangeAt kb off (Lib.byteCells (ys ++ D))) (hlow : ∀ j v, (j < off ∨ off + cap0 ≤ j) → w.cell? ⟨kb, j, none⟩ = some v → w'.cell? ⟨kb, j, none⟩ = some v) (hthr : ∀ b m, w.there kb b m → w'.there kb b m) : App w w' kb off cap0 ys D e
  | grow (hg : cap0 < ys.length + D.length) (g cap' : Nat) (he : e = .returned (.slice (some ⟨g, 0, none⟩) (ys.length + D.length) cap')) (hrow : w'.ownsRow w.heap.size 5 1 (.slice (some ⟨g, 0, none⟩) (ys.length + D.length) cap') (ys.length + D.length) (Lib.byteCells (ys ++ D)))
      (hk : Kept kb w w') (hlow : ∀ j v, (j < off ∨ off + cap0 ≤ j) → w.cell? ⟨kb, j, none⟩ = some v → w'.cell? ⟨kb, j, none⟩ = some v) (hthr : ∀ b m, w.there kb b m → w'.there kb b m) : App w w' kb off cap0 ys D e

theorem App.mkGrow {w w' : World} {kb off cap0 : Nat} {ys D : List UInt8} {e : Ending} (hkl : kb < w.heap.size) (hg : cap0 < ys.length + D.length) (g cap' : Nat) (he : e = .returned (.slice (some ⟨g, 0, none⟩) (ys.length + D.length) cap')) (hrow : w'.ownsRow w.heap.size 5 1 (.slice (some ⟨g, 0, none⟩) (ys.length + D.length) cap') (ys.length + D.length) (Lib.byteCells (ys ++ D))) (hb : Below w.heap.size w w') : App w w' kb off cap0 ys D e :=
  .grow hg g cap' he hrow (Kept.of_below hb) (fun j v _ hc => cell_later hb hc) (fun b m h => there_block h (hb.block kb hkl))

theorem strCells_bytes (l : List UInt8) : Lib.strCells ⟨l.toArray⟩ = Lib.byteCells l := by simp [Lib.strCells, Lib.byteCells]
theorem size_bytes (l : List UInt8) : (⟨l.toArray⟩ : ByteArray).size = l.length := by simp [ByteArray.size]

theorem app_room_str (w : World) (kb off cap0 : Nat) (ys D : List UInt8) (hm : Mid w kb off cap0 ys) (hroom : ys.length + D.length ≤ cap0) :
    (Builtin.append_ #[24, 9] 24 #[.slice (some ⟨kb, off, none⟩) ys.length cap0, .string ⟨D.toArray⟩]).run Tryd.prog w = .ok (.slice (some ⟨kb, off, none⟩) (ys.length + D.length) cap0) (w.setCells kb (off + ys.length) (Lib.byteCells D)) := by
  obtain ⟨i, hi, _, hs, _⟩ := info5_parts
  have hf := Lib.run_firstCells_string (P := Tryd.prog) w 1 ⟨D.toArray⟩
  rw [strCells_bytes] at hf
  have hst := run_storeCells_cells (P := Tryd.prog) kb (off + ys.length) (Lib.byteCells D) 0 w (fun j hj => by rw [byteCells_len] at hj; have := (hm.thr (ys.length + j) (by omega)).1; simpa [Nat.add_assoc] using this) (fun j hj => by rw [byteCells_len] at hj; have := (hm.thr (ys.length + j) (by omega)).2; simpa [Nat.add_assoc] using this) (one_byteCells D)
  simp only [Nat.add_zero] at hst
  have hz := size_bytes D
  rw [hz] at hf
  simp [Builtin.append_, run_underlying Tryd.underlying24, run_underlying Tryd.underlying9, sizeOf, typeInfo, hi, hs, Builtin.lenOf, hz, hroom, hf, Addr.add_lit, hst]

theorem mid_room {w : World} {kb off cap0 : Nat} {ys D : List UInt8} {e : Ending} (hm : Mid w kb off cap0 ys) (hroom : ys.length + D.length ≤ cap0) (he : e = .returned (.slice (some ⟨kb, off, none⟩) (ys.length + D.length) cap0)) : App w (w.setCells kb (off + ys.length) (Lib.byteCells D)) kb off cap0 ys D e := by
  have hthr := fun b m (h : w.there kb b m) => World.there_setCells h kb (off + ys.length) (Lib.byteCells D)
  have hr1 : (w.setCells kb (off + ys.length) (Lib.byteCells D)).rangeAt kb off (Lib.byteCells ys) := World.rangeAt_setCells_apart hm.rng _ _ _ (by right; left; rw [byteCells_len]; omega)
  have hr2 : (w.setCells kb (off + ys.length) (Lib.byteCells D)).rangeAt kb (off + ys.length) (Lib.byteCells D) := World.rangeAt_setCells_same _ _ _ _ (fun j hj => by
    rw [byteCells_len] at hj
    have := hm.thr (ys.length + j) (by omega)
    simpa [Nat.add_assoc] using this)
  have hb0 := below_setCells (B := 0) (g := kb) (Nat.zero_le _) (Lib.byteCells D) (off + ys.length) w w (Below.refl _ _)
  refine .room hroom he ⟨hb0.os, hb0.tape, hb0.output, by rw [setCells_size]; omega, fun k _ hk => setCells_heap hk _ _ _⟩ ?_ ?_ hthr
  · intro j v hj
    rw [byteCells_app, List.getElem?_append] at hj
    split at hj
    · exact hr1 j v hj
    · rename_i hge
      rw [byteCells_len] at hj hge
      have := hr2 (j - ys.length) v hj
      rw [show off + ys.length + (j - ys.length) = off + j by omega] at this
      exact this
  · intro j v hj hc
    have h1 : w.rangeAt kb j [v] := fun i u hi => by
      cases i with
      | zero => simp at hi; subst hi; exact hc
      | succ i => simp at hi
    have := World.rangeAt_setCells_apart h1 kb (off + ys.length) (Lib.byteCells D) (by right; rw [byteCells_len]; simp; omega)
    exact this 0 v rfl

theorem app_grow_str (w : World) (kb off cap0 : Nat) (ys D : List UInt8) (hm : Mid w kb off cap0 ys) (hg : cap0 < ys.length + D.length) (hlim : ys.length + D.length ≤ 1048576) :
    ∃ cap' w', (Builtin.append_ #[24, 9] 24 #[.slice (some ⟨kb, off, none⟩) ys.length cap0, .string ⟨D.toArray⟩]).run Tryd.prog w = .ok (.slice (some ⟨w.heap.size, 0, none⟩) (ys.length + D.length) cap') w' ∧
      w'.ownsRow w.heap.size 5 1 (.slice (some ⟨w.heap.size, 0, none⟩) (ys.length + D.length) cap') (ys.length + D.length) (Lib.byteCells (ys ++ D)) ∧ Below w.heap.size w w' := by
  obtain ⟨i, hi, hz0, hs, hby⟩ := info5_parts
  have hz := size_bytes D
  have hr := Lib.run_append_grow_string (P := Tryd.prog) w 24 9 24 5 i _ Tryd.underlying24 Tryd.underlying9 hi hz0 ⟨kb, off, none⟩ ys.length cap0 (Lib.byteCells ys) (by rw [byteCells_len, hs, Nat.mul_one]) (fun j v hj => by rw [Go.WideShapes.add_plain]; exact hm.rng j v hj) ⟨D.toArray⟩ (by rw [hz]; exact hg) (by rw [hz]; omega) (by rw [hz, hby]; exact growslice_fits hg (by omega))
  rw [hz, strCells_bytes] at hr
  have hge := grownCap_ge w (ys.length + D.length) cap0 5
  have hcm : grownCap w (ys.length + D.length) cap0 5 ≤ maxLen := grownCap_le_maxLen w (ys.length + D.length) cap0 5 (by unfold maxLen; omega)
  refine ⟨_, _, hr, ⟨by rw [byteCells_len, List.length_append, Nat.mul_one], .inr ⟨w.heap.size, _, _, rfl, Nat.le_refl _, heap_alloc_new w.drew _, hge, hcm, ?_, ?_⟩⟩, (Below.drew (Below.refl _ _)).alloc (Nat.le_refl _) _⟩
  · simp [byteCells_len, size_zeroCells, Value.cells]; omega
  · simp only [Array.toList_append, List.append_assoc, List.toList_toArray]
    rw [← List.append_assoc, ← byteCells_app]
    exact List.take_left' (by rw [byteCells_len, List.length_append, Nat.mul_one])

theorem wpList_append_eq {P : Program} {w : World} {ops : Array Oper} {rest : List Oper} {o : Oper} {a : Act} {Q : Exit → Act → World → Prop} (hgd : o.guard = none) (s x : Operand) (t u : TypeId)
    (ho : o.op = .call { callee := .builtin .append, args := #[s, x], argTypes := #[t, u] }) (vs vx : Value) (hs : a.eval s = vs) (hx : a.eval x = vx) (v' : Value) (w' : World)
    (hrun : (Builtin.append_ #[t, u] o.type #[vs, vx]).run P w = .ok v' w') (h : wpList P ops Q rest (a.put o.dst v') w') : wpList P ops Q (o :: rest) a w := by
  refine wpList_plain hgd fun K hK => ?_
  unfold Oper.wp execOp
  simp only [ho, resolve, invoke, builtin, Sem.run_bind, Sem.run_pure, Result.andThen_ok, List.map_toArray, List.map_cons, List.map_nil, hs, hx, hrun]
  exact hK _ _ h

set_option maxHeartbeats 2000000 in
set_option maxRecDepth 100000 in
theorem appU_small (kb off cap0 u : Nat) (ys : List UInt8) (w : World) (hm : Mid w kb off cap0 ys) (hu : u < 100) (hlim : ys.length ≤ 100) :
    Calls Tryd.prog 48 #[.slice (some ⟨kb, off, none⟩) ys.length cap0, .int .u64 u, .int .i64 10] w fun e w' => App w w' kb off cap0 ys (Lib.decDigits u) e := by
  have hl20 : (Lib.decDigits u).length ≤ 20 := by rw [Lib.decDigits_length]; exact Lib.nDigits_le20 u (by omega)
  have q1 : decide ((u : Int) < 100) = true := by simp; omega
  by_cases hroom : ys.length + (Lib.decDigits u).length ≤ cap0
  · have hap := app_room_str w kb off cap0 ys (Lib.decDigits u) hm hroom
    go_enter Tryd.func48, Tryd.ntmps48
    go_wp2_with fail
    refine (Tryd.internal_strconv_small u hu w).mono ?_
    rintro e w1 ⟨rfl, hw⟩
    subst w1
    go_wp2_with (at_builtin; refine wpList_append_eq rfl (.tmp 13) (.tmp 16) 24 9 rfl _ _ rfl rfl _ _ hap ?_)
    go_wp2_with fail
    go_ret
    exact mid_room hm hroom rfl
  · obtain ⟨cap', w', hap, hrow, hb⟩ := app_grow_str w kb off cap0 ys (Lib.decDigits u) hm (by omega) (by omega)
    go_enter Tryd.func48, Tryd.ntmps48
    go_wp2_with fail
    refine (Tryd.internal_strconv_small u hu w).mono ?_
    rintro e w1 ⟨rfl, hw⟩
    subst w1
    go_wp2_with (at_builtin; refine wpList_append_eq rfl (.tmp 13) (.tmp 16) 24 9 rfl _ _ rfl rfl _ _ hap ?_)
    go_wp2_with fail
    go_ret
    exact App.mkGrow hm.lt (by omega) _ _ rfl hrow hb

end Go.Proofs.Qxb6612590aDoor
