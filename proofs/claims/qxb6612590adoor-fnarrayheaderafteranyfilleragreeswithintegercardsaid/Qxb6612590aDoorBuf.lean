import Derived.Test.Qxb6612590aDoorFrame
import Derived.Test.Qxb6612590aDoorShelf
import Derived.Deep.CutRange
import Derived.BigCall
import Derived.BigGuard
namespace Go.Proofs.Qxb6612590aDoor
open Go.RowKit
set_option linter.unusedSimpArgs false
set_option linter.unusedVariables false
attribute [local go_sem ↓] Go.wp_at_zero Go.wp_at_succ

theorem heap_cell {w : World} {b : Nat} {cs : Array Value} {t : TypeId} (h : w.heap[b]? = some (.cells cs t (0, 0))) (k : Nat) : w.cell? ⟨b, k, none⟩ = cs[k]? := by simp [World.cell?, h]
theorem heap_frozen {w : World} {b : Nat} {cs : Array Value} {t : TypeId} (h : w.heap[b]? = some (.cells cs t (0, 0))) (k : Nat) : w.frozen? ⟨b, k, none⟩ = false := by simp [World.frozen?, h]
theorem heap_lt {w : World} {b : Nat} {o : Obj} (h : w.heap[b]? = some o) : b < w.heap.size := (Array.getElem?_eq_some_iff.1 h).1
theorem heap_set {w : World} {b : Nat} {cs : Array Value} {t : TypeId} (h : w.heap[b]? = some (.cells cs t (0, 0))) (k : Nat) (v : Value) : (w.setCell ⟨b, k, none⟩ v).heap[b]? = some (.cells (cs.setIfInBounds k v) t (0, 0)) := by
  simp [World.setCell, Array.getElem?_modify, h]
theorem heap_set_other {w : World} {b c k : Nat} {v : Value} (h : b ≠ c) : (w.setCell ⟨b, k, none⟩ v).heap[c]? = w.heap[c]? := Deep.blk_setCell_other _ _ _ _ (fun e => h e.symm)

/-- All that was there stands, but block b. -/
structure Kept (b : Nat) (w w' : World) : Prop where
  os : w'.os = w.os
  tape : w'.tape = w.tape
  output : w'.output = w.output
  size : w.heap.size ≤ w'.heap.size
  block : ∀ k, k < w.heap.size → k ≠ b → w'.heap[k]? = w.heap[k]?

theorem Kept.of_below {b : Nat} {w w' : World} (h : Below w.heap.size w w') : Kept b w w' := ⟨h.os, h.tape, h.output, h.size, fun k hk _ => h.block k hk⟩
theorem Kept.trans {b : Nat} {a c d : World} (h : Kept b a c) (k : Kept b c d) : Kept b a d :=
  ⟨k.os.trans h.os, k.tape.trans h.tape, k.output.trans h.output, Nat.le_trans h.size k.size, fun i hi hb => (k.block i (Nat.lt_of_lt_of_le hi h.size) hb).trans (h.block i hi hb)⟩
theorem Kept.set {b : Nat} {w w' : World} (h : Kept b w w') (k : Nat) (v : Value) : Kept b w (w'.setCell ⟨b, k, none⟩ v) :=
  ⟨h.os, h.tape, h.output, by have := h.size; simpa using this, fun i hi hb => (heap_set_other (Ne.symm hb)).trans (h.block i hi hb)⟩

/-! ### (*bytes.Buffer).Len -/
theorem blen_any (b l cap : Nat) (ao : Option Addr) (w : World) (c0 : w.cell? ⟨b, 0, none⟩ = some (.slice ao l cap)) (c1 : w.cell? ⟨b, 1, none⟩ = some (.int .i64 0)) (hl : l ≤ 140737488355328) :
    Calls Tryd.prog 85 #[.pointer (some ⟨b, 0, none⟩)] w fun e w' => e = .returned (.int .i64 (l : Int)) ∧ ∃ m, w' = w.drewN m := by
  go_enter Tryd.func85, Tryd.ntmps85
  go_wp2
  go_quiet (fail)
  go_wp2
  go_ret
  exact ⟨by simp, _, rfl⟩

theorem heap_drewN (w : World) (m : Nat) : (w.drewN m).heap = w.heap := rfl

/-- What 'grow' leaves: a new row at g. -/
structure Grown (w w' : World) (b g l n : Nat) (lr : Int) (olds : List Value) : Prop where
  ex : ∃ cap2 cells, w'.heap[b]? = some (.cells #[.slice (some ⟨g, 0, none⟩) (l + n) cap2, .int .i64 0, .int .i8 lr] 45 (0, 0)) ∧ w'.heap[g]? = some (.cells cells 5 (0, 0)) ∧ cells.size = cap2 ∧ cells.toList.take l = olds ∧ l + n ≤ cap2 ∧ cap2 ≤ maxLen
  kept : Kept b w w'
  ge : w.heap.size ≤ g

theorem grown_end {w w1 w2 : World} {b l n cap2 : Nat} {lr : Int} {v0 x : Value} {cells : Array Value} {olds : List Value} (hk1 : Below w.heap.size w w1) (hs1 : w1.heap.size = w.heap.size) (hb : b < w.heap.size) (hb2 : Below w1.heap.size w1 w2)
    (hbk2 : w2.heap[b]? = some (.cells #[v0, .int .i64 0, .int .i8 lr] 45 (0, 0))) (hN : w2.heap[w1.heap.size]? = some (.cells cells 5 (0, 0))) (hcsz : cells.size = cap2) (htk : cells.toList.take l = olds) (hcap2 : l + n ≤ cap2) (hcm2 : cap2 ≤ maxLen) :
    Grown w (((w2.setCell ⟨b, 0, none⟩ x).setCell ⟨b, 1, none⟩ (.int .i64 0)).setCell ⟨b, 0, none⟩ (.slice (some ⟨w1.heap.size, 0, none⟩) (l + n) cap2)) b w.heap.size l n lr olds := by
  rw [hs1] at hN ⊢
  refine ⟨⟨cap2, cells, ?_, ?_, hcsz, htk, hcap2, hcm2⟩, ?_, Nat.le_refl _⟩
  · rw [heap_set (heap_set (heap_set hbk2 0 x) 1 _) 0 _]; rfl
  · rw [heap_set_other (by omega), heap_set_other (by omega), heap_set_other (by omega)]; exact hN
  · exact (((Kept.of_below (b := b) (hk1.trans (hb2.mono (by omega)))).set 0 _).set 1 _).set 0 _

set_option maxHeartbeats 2000000 in
set_option maxRecDepth 100000 in
theorem grow_row (b g l cap n : Nat) (lr : Int) (cur : Array Value) (w : World) (hbk : w.heap[b]? = some (.cells #[.slice (some ⟨g, 0, none⟩) l cap, .int .i64 0, .int .i8 lr] 45 (0, 0))) (hg : w.heap[g]? = some (.cells cur 5 (0, 0)))
    (hlc : l ≤ cap) (hcs : cur.size = cap) (h1 : ∀ v ∈ cur.toList.take l, v.oneCell' = true) (hl1 : 1 ≤ l) (hn : 1 ≤ n) (hroom : cap - l < n) (hlim : l + n ≤ 140737488355328) :
    Calls Tryd.prog 84 #[.pointer (some ⟨b, 0, none⟩), .int .i64 n] w fun e w' => e = .returned (.int .i64 (l : Int)) ∧ Grown w w' b w.heap.size l n lr (cur.toList.take l) := by
  have hnil := fun wx => Lib.run_eql_slice_nil (P := Tryd.prog) wx 24 5 (some ⟨g, 0, none⟩) l cap 0 0 Tryd.underlying24
  have hb := heap_lt hbk
  have c0 : w.cell? ⟨b, 0, none⟩ = some (.slice (some ⟨g, 0, none⟩) l cap) := by rw [heap_cell hbk]; rfl
  have c1 : w.cell? ⟨b, 1, none⟩ = some (.int .i64 0) := by rw [heap_cell hbk]; rfl
  have f0 := heap_frozen hbk 0
  have f1 := heap_frozen hbk 1
  have hcap : cap ≤ 140737488355328 := by omega
  have mixed : Tryd.prog.follows Departure.mixedOrders = true := by kernel_rfl
  go_enter Tryd.func84, Tryd.ntmps84
  go_wp2_with fail
  refine (blen_any b l cap _ w c0 c1 (by omega)).mono ?_
  rintro e w1 ⟨rfl, m, hw1⟩
  have hh : w1.heap = w.heap := by rw [hw1]; rfl
  have hk1 : Below w.heap.size w w1 := by rw [hw1]; exact below_draws _ _ _
  have hbk1 : w1.heap[b]? = some (.cells #[.slice (some ⟨g, 0, none⟩) l cap, .int .i64 0, .int .i8 lr] 45 (0, 0)) := by rw [hh]; exact hbk
  have hg1 : w1.heap[g]? = some (.cells cur 5 (0, 0)) := by rw [hh]; exact hg
  have hs1 : Hid (w1.heap.size = w.heap.size) := by show _ = _; rw [hh]
  clear hw1 hh c0 c1 f0 f1 hbk hg
  have c0 : w1.cell? ⟨b, 0, none⟩ = some (.slice (some ⟨g, 0, none⟩) l cap) := by rw [heap_cell hbk1]; rfl
  have c1 : w1.cell? ⟨b, 1, none⟩ = some (.int .i64 0) := by rw [heap_cell hbk1]; rfl
  have f0 := heap_frozen hbk1 0
  have f1 := heap_frozen hbk1 1
  have ql : ((l : Int) == 0) = false := by simp; omega
  have q1 : decide ((n : Int) ≤ (cap : Int) / 2 - (l : Int)) = false := by simp; omega
  have q2 : decide (9223372036854775807 - (cap : Int) - (n : Int) < (cap : Int)) = false := by simp; omega
  have hwn : IntKind.i64.wrap (n : Int) = n := by rw [IntKind.wrap_i64]; omega
  go_wp2_with fail
  refine (Tryd.Buffer_tryGrow_none b _ l cap n _ c0 hlc (by unfold maxLen; omega) hroom).mono ?_
  rintro e w2 ⟨rfl, hw⟩
  subst w2
  have hg1d : w1.drew.heap[g]? = some (.cells cur 5 (0, 0)) := hg1
  have hb1 := heap_lt hbk1
  have n01 : (0 : Nat) ≠ 1 := by omega
  go_wp2_with fail
  go_region_with_o (go_at_call 86; refine (Tryd.bytes_growSlice_row g l cap n cur _ ?_ hcs hlc hn hlim hcap h1).mono ?_; exact hg1; rintro e w2 ⟨cap2, cells, rfl, hN, hcsz, htk, hcap2, hcm2, hb2⟩; have k0 := cell_later hb2 c0; have k1 := cell_later hb2 c1; have hbk2 := (hb2.block b hb1).trans hbk1; have e0 := heap_frozen hbk2 0; have e1 := heap_frozen hbk2 1)
  all_goals (
    have hcm3 := hcm2
    unfold maxLen at hcm3
    go_wp2_with fail
    go_ret
    exact ⟨rfl, grown_end hk1 hs1.out hb ((Below.drew (Below.refl w1.heap.size w1)).trans (show Below w1.heap.size w1.drew w2 from hb2)) hbk2 hN hcsz htk hcap2 hcm2⟩)

set_option maxHeartbeats 2000000 in
set_option maxRecDepth 100000 in
theorem grow_nil_big (b n : Nat) (lr : Int) (w : World) (hbk : w.heap[b]? = some (.cells #[.slice none 0 0, .int .i64 0, .int .i8 lr] 45 (0, 0))) (hn : 65 ≤ n) (hlim : n ≤ 140737488355328) :
    Calls Tryd.prog 84 #[.pointer (some ⟨b, 0, none⟩), .int .i64 n] w fun e w' => e = .returned (.int .i64 ((0 : Nat) : Int)) ∧ Grown w w' b w.heap.size 0 n lr [] := by
  have hnil := fun wx => Lib.run_eql_slice_nil (P := Tryd.prog) wx 24 5 none 0 0 0 0 Tryd.underlying24
  have hb := heap_lt hbk
  have c0 : w.cell? ⟨b, 0, none⟩ = some (.slice none 0 0) := by rw [heap_cell hbk]; rfl
  have c1 : w.cell? ⟨b, 1, none⟩ = some (.int .i64 0) := by rw [heap_cell hbk]; rfl
  have f0 := heap_frozen hbk 0
  have f1 := heap_frozen hbk 1
  have mixed : Tryd.prog.follows Departure.mixedOrders = true := by kernel_rfl
  go_enter Tryd.func84, Tryd.ntmps84
  go_wp2_with fail
  refine (blen_any b 0 0 _ w c0 c1 (by omega)).mono ?_
  rintro e w1 ⟨rfl, m, hw1⟩
  have hh : w1.heap = w.heap := by rw [hw1]; rfl
  have hk1 : Below w.heap.size w w1 := by rw [hw1]; exact below_draws _ _ _
  have hbk1 : w1.heap[b]? = some (.cells #[.slice none 0 0, .int .i64 0, .int .i8 lr] 45 (0, 0)) := by rw [hh]; exact hbk
  have hs1 : Hid (w1.heap.size = w.heap.size) := by show _ = _; rw [hh]
  clear hw1 hh c0 c1 f0 f1 hbk
  have c0 : w1.cell? ⟨b, 0, none⟩ = some (.slice none 0 0) := by rw [heap_cell hbk1]; rfl
  have c1 : w1.cell? ⟨b, 1, none⟩ = some (.int .i64 0) := by rw [heap_cell hbk1]; rfl
  have f0 := heap_frozen hbk1 0
  have f1 := heap_frozen hbk1 1
  have q0 : decide ((n : Int) ≤ 64) = false := by simp; omega
  have q1 : decide ((n : Int) ≤ 0) = false := by simp; omega
  have hwn : IntKind.i64.wrap (n : Int) = n := by rw [IntKind.wrap_i64]; omega
  go_wp2_with fail
  refine (Tryd.Buffer_tryGrow_none b _ 0 0 n _ c0 (by omega) (by unfold maxLen; omega) (by omega)).mono ?_
  rintro e w2 ⟨rfl, hw⟩
  subst w2
  have hb1 := heap_lt hbk1
  go_wp2_with fail
  go_region_with_o (go_at_call 86; refine (Tryd.bytes_growSlice_nil n _ ?_ ?_).mono ?_; omega; omega; rintro e w2 ⟨cap2, cells, rfl, hN, hcsz, hcap2, hcm2, hb2⟩; have k0 := cell_later hb2 c0; have k1 := cell_later hb2 c1; have hbk2 := (hb2.block b hb1).trans hbk1; have e0 := heap_frozen hbk2 0; have e1 := heap_frozen hbk2 1)
  all_goals (
    have hcm3 := hcm2
    unfold maxLen at hcm3
    have hge : 0 + n ≤ cap2 := by omega
    have hG := grown_end (x := .slice (some ⟨w1.heap.size, 0, none⟩) 0 cap2) (l := 0) (olds := []) hk1 hs1.out hb ((Below.drew (Below.refl w1.heap.size w1)).trans (show Below w1.heap.size w1.drew w2 from hb2)) hbk2 hN hcsz rfl hge hcm2
    rw [Nat.zero_add] at hG
    go_wp2_with fail
    go_ret
    exact ⟨rfl, hG⟩)

end Go.Proofs.Qxb6612590aDoor
