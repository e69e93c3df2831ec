import Derived.Test.Qxb6612590aDoorResp
namespace Go.Proofs.Qxb6612590aDoor
open Go.RowKit
set_option linter.unusedSimpArgs false
set_option linter.unusedVariables false
attribute [local go_sem ↓] Go.wp_at_zero Go.wp_at_succ

theorem as51 (v : Value) (w : World) : (Instr.typeAssert (.iface 41 v) 66 51 true).run Tryd.prog w = .ok (.tuple #[.pointer none, .bool false]) w := by kernel_rfl

theorem make64k (w : World) : (Instr.makeSlice 24 (.int .i64 65536) (.int .i64 65536)).run Tryd.prog w = .ok (.slice (some ⟨w.heap.size, 0, none⟩) 65536 65536) (w.alloc (.cells (madeCells #[.int .u8 0] 65536) 5)) := by
  obtain ⟨i, hi, hz, hs, hb⟩ := info5_parts
  have hr := run_make (P := Tryd.prog) w 24 5 i _ Tryd.underlying24 hi hz .i64 .i64 65536 65536 (by omega) (by omega) (by rw [hb]; omega) (by omega)
  simp only [hs, Value.cells] at hr
  exact hr

/-- bufio's row and its Writer, new. -/
def kObj : Obj := .cells (madeCells #[.int .u8 0] 65536) 5 (0, 0)
def qObj (kb bb : Nat) : Obj := .cells #[.nilIface, .slice (some ⟨kb, 0, none⟩) 65536 65536, .int .i64 0, .iface 41 (.pointer (some ⟨bb, 0, none⟩))] 69 (0, 0)
def bObj : Obj := .cells #[.slice none 0 0, .int .i64 0, .int .i8 0] 45 (0, 0)
def sObj (r bb : Nat) : Obj := .cells #[.pointer (some ⟨r, 0, none⟩), .pointer (some ⟨bb, 0, none⟩)] 48 (0, 0)

theorem make64k' (w : World) : (Instr.makeSlice 24 (.int .i64 65536) (.int .i64 65536)).run Tryd.prog w = .ok (.slice (some ⟨w.heap.size, 0, none⟩) 65536 65536) (w.alloc kObj) := make64k w

set_option maxHeartbeats 2000000 in
set_option maxRecDepth 100000 in
theorem newSize_any (bb : Nat) (w : World) :
    Calls Tryd.prog 32 #[.iface 41 (.pointer (some ⟨bb, 0, none⟩)), .int .i64 65536] w fun e w' => e = .returned (.pointer (some ⟨w.heap.size + 1, 0, none⟩)) ∧ w' = (w.alloc kObj).alloc (qObj w.heap.size bb) := by
  have has := fun wx => as51 (.pointer (some ⟨bb, 0, none⟩)) wx
  have hmk := fun wx => make64k' wx
  obtain ⟨K, hK⟩ : ∃ K, Hid (kObj = K) := ⟨_, rfl⟩
  rw [hK.out] at hmk ⊢
  go_enter Tryd.func32, Tryd.ntmps32
  go_wp2_with fail
  go_ret
  exact ⟨by simp [Deep.nblk_alloc], rfl⟩

set_option maxHeartbeats 2000000 in
set_option maxRecDepth 100000 in
theorem newWriter_any (bb : Nat) (w : World) :
    Calls Tryd.prog 21 #[.iface 41 (.pointer (some ⟨bb, 0, none⟩))] w fun e w' => e = .returned (.pointer (some ⟨w.heap.size + 2, 0, none⟩)) ∧ w' = ((w.alloc kObj).alloc (qObj w.heap.size bb)).alloc (rObj (w.heap.size + 1)) := by
  go_enter Tryd.func21, Tryd.ntmps21
  go_wp2_with fail
  refine (newSize_any bb w).mono ?_
  rintro e w1 ⟨rfl, hw1⟩
  have hs : Hid (w1.heap.size = w.heap.size + 2) := by show _ = _; rw [hw1]; simp [Deep.nblk_alloc]
  have hw2 : Hid (w1 = (w.alloc kObj).alloc (qObj w.heap.size bb)) := hw1
  clear hw1
  go_wp2_with fail
  go_ret
  exact ⟨by rw [hs.out]; rfl, by rw [← hw2.out]; rfl⟩

/-- The bystanders of a sink whose Buffer lies at B. -/
def sinkY (B : Nat) : List (Nat × Obj) := [(B + 3, rObj (B + 2)), (B + 4, sObj (B + 3) B)]

theorem there_made {w : World} {kb : Nat} (h : w.heap[kb]? = some kObj) : w.there kb 0 65536 := fun j hj => by
  rw [Nat.zero_add, heap_cell (b := kb) h, heap_frozen (b := kb) h]
  refine ⟨?_, rfl⟩
  have : (madeCells #[Value.int .u8 0] 65536).size = 65536 := size_madeCells _ _
  rw [Array.getElem?_eq_getElem (by omega)]; rfl

theorem sink_new {w W : World} (h0 : W.heap[w.heap.size]? = some bObj) (h1 : W.heap[w.heap.size + 1]? = some kObj) (h2 : W.heap[w.heap.size + 2]? = some (qObj (w.heap.size + 1) w.heap.size)) (h3 : W.heap[w.heap.size + 3]? = some (rObj (w.heap.size + 2))) (h4 : W.heap[w.heap.size + 4]? = some (sObj (w.heap.size + 3) w.heap.size)) :
    BW (sinkY w.heap.size) w.heap.size W (w.heap.size + 2) (w.heap.size + 1) w.heap.size none [] [] := by
  have l4 := heap_lt h4
  refine ⟨h2, by simp, fun j v hj => by simp [Lib.byteCells] at hj, there_made h1, ⟨0, rfl, h0⟩, by omega, by omega, by omega, by simp, by simp, by omega, by omega, by omega, by omega, by simp, by omega, fun p hp => ?_⟩
  simp only [sinkY, List.mem_cons, List.not_mem_nil, or_false] at hp
  rcases hp with rfl | rfl
  · exact ⟨h3, by simp, by simp, by simp, by simp, by simp; omega⟩
  · exact ⟨h4, by simp, by simp, by simp, by simp, by simp; omega⟩

theorem sink_made (w : World) : BW (sinkY w.heap.size) w.heap.size (((((w.alloc bObj).alloc kObj).alloc (qObj (w.heap.size + 1) w.heap.size)).alloc (rObj (w.heap.size + 2))).alloc (sObj (w.heap.size + 3) w.heap.size)) (w.heap.size + 2) (w.heap.size + 1) w.heap.size none [] [] := by
  have s1 : (w.alloc bObj).heap.size = w.heap.size + 1 := by simp [Deep.nblk_alloc]
  have s2 : ((w.alloc bObj).alloc kObj).heap.size = w.heap.size + 2 := by simp [Deep.nblk_alloc]
  have s3 : (((w.alloc bObj).alloc kObj).alloc (qObj (w.heap.size + 1) w.heap.size)).heap.size = w.heap.size + 3 := by simp [Deep.nblk_alloc]
  have s4 : ((((w.alloc bObj).alloc kObj).alloc (qObj (w.heap.size + 1) w.heap.size)).alloc (rObj (w.heap.size + 2))).heap.size = w.heap.size + 4 := by simp [Deep.nblk_alloc]
  refine sink_new ?_ ?_ ?_ ?_ ?_
  · rw [Deep.blk_alloc_lt _ _ _ (by omega), Deep.blk_alloc_lt _ _ _ (by omega), Deep.blk_alloc_lt _ _ _ (by omega), Deep.blk_alloc_lt _ _ _ (by omega)]
    exact Deep.blk_alloc_new _ _
  · rw [Deep.blk_alloc_lt _ _ _ (by omega), Deep.blk_alloc_lt _ _ _ (by omega), Deep.blk_alloc_lt _ _ _ (by omega), ← s1]
    exact Deep.blk_alloc_new _ _
  · rw [Deep.blk_alloc_lt _ _ _ (by omega), Deep.blk_alloc_lt _ _ _ (by omega), ← s2]
    exact Deep.blk_alloc_new _ _
  · rw [Deep.blk_alloc_lt _ _ _ (by omega), ← s3]
    exact Deep.blk_alloc_new _ _
  · rw [← s4]
    exact Deep.blk_alloc_new _ _

set_option maxHeartbeats 2000000 in
set_option maxRecDepth 100000 in
theorem newSink_any (w : World) :
    Calls Tryd.prog 8 #[] w fun e w' => e = .returned (.pointer (some ⟨w.heap.size + 4, 0, none⟩)) ∧ BW (sinkY w.heap.size) w.heap.size w' (w.heap.size + 2) (w.heap.size + 1) w.heap.size none [] [] ∧ Below w.heap.size w w' := by
  go_enter Tryd.func8, Tryd.ntmps8
  go_wp2_with fail
  refine (newWriter_any w.heap.size _).mono ?_
  rintro e w1 ⟨rfl, hw1⟩
  have hw2 : Hid (w1 = (((w.alloc bObj).alloc kObj).alloc (qObj (w.heap.size + 1) w.heap.size)).alloc (rObj (w.heap.size + 2))) := by
    show _ = _
    have s1 : (w.alloc bObj).heap.size = w.heap.size + 1 := by simp [Deep.nblk_alloc]
    rw [hw1]
    show (((w.alloc bObj).alloc kObj).alloc (qObj (w.alloc bObj).heap.size w.heap.size)).alloc (rObj ((w.alloc bObj).heap.size + 1)) = _
    rw [s1]
  have hs : Hid (w1.heap.size = w.heap.size + 4) := by show _ = _; rw [hw2.out]; simp [Deep.nblk_alloc]
  have hfin := sink_made w
  rw [← hw2.out] at hfin
  have hbe : Below w.heap.size w w1 := by
    rw [hw2.out]
    have a1 := (Below.refl w.heap.size w).alloc (Nat.le_refl _) bObj
    have a2 := a1.alloc a1.size kObj
    have a3 := a2.alloc a2.size (qObj (w.heap.size + 1) w.heap.size)
    exact a3.alloc a3.size _
  clear hw1 hw2
  go_wp2_with fail
  go_ret
  exact ⟨by rw [hs.out]; rfl, hfin, hbe.alloc hbe.size _⟩

theorem BW.scell {Y : List (Nat × Obj)} {B : Nat} {w : World} {q kb bb r s bb2 : Nat} {o : Option Nat} {xs S : List UInt8} (h : BW Y B w q kb bb o xs S) (hs : (s, sObj r bb2) ∈ Y) : w.cell? ⟨s, 0, none⟩ = some (.pointer (some ⟨r, 0, none⟩)) ∧ w.cell? ⟨s, 1, none⟩ = some (.pointer (some ⟨bb2, 0, none⟩)) := by
  have := (h.bys _ hs).1
  constructor
  · rw [heap_cell (b := s) this]; rfl
  · rw [heap_cell (b := s) this]; rfl

set_option maxRecDepth 100000 in
theorem sinkWriter_any (r s : Nat) (w : World) (c0 : w.cell? ⟨s, 0, none⟩ = some (.pointer (some ⟨r, 0, none⟩))) :
    Calls Tryd.prog 9 #[.pointer (some ⟨s, 0, none⟩)] w fun e w' => e = .returned (.pointer (some ⟨r, 0, none⟩)) ∧ w' = w := by
  go_enter Tryd.func9, Tryd.ntmps9
  go_wp2_with fail
  go_ret
  exact ⟨rfl, rfl⟩

set_option maxRecDepth 100000 in
theorem bufBytes_any (bb g l cap : Nat) (w : World) (c0 : w.cell? ⟨bb, 0, none⟩ = some (.slice (some ⟨g, 0, none⟩) l cap)) (c1 : w.cell? ⟨bb, 1, none⟩ = some (.int .i64 0)) (h1 : 1 ≤ l) (h2 : l ≤ cap) :
    Calls Tryd.prog 28 #[.pointer (some ⟨bb, 0, none⟩)] w fun e w' => e = .returned (.slice (some ⟨g, 0, none⟩) l cap) ∧ ∃ m, w' = w.drewN m := by
  have i0 : (0 : Int) ≤ (l : Int) := by omega
  have i1 : ¬ cap = 0 := by omega
  go_enter Tryd.func28, Tryd.ntmps28
  go_wp2_with fail
  go_quiet (fail)
  go_wp2_with fail
  go_ret
  exact ⟨by simp, _, rfl⟩

set_option maxHeartbeats 2000000 in
set_option maxRecDepth 100000 in
theorem sinkBytes_any (Y : List (Nat × Obj)) (B q kb bb r s : Nat) (O : List UInt8) (hr : (r, rObj q) ∈ Y) (hs : (s, sObj r bb) ∈ Y) (w : World) (h : Out Y B w q kb bb O) (hO1 : 1 ≤ O.length) (hlim : O.length ≤ 1048576 * 4) :
    Calls Tryd.prog 11 #[.pointer (some ⟨s, 0, none⟩)] w fun e w' => (∃ g cap, e = .returned (.slice (some ⟨g, 0, none⟩) O.length cap) ∧ Row B w' g cap O) ∧ Below B w w' := by
  obtain ⟨o, xs, S, hb, hSO⟩ := h
  have hSO : Hid (S ++ xs = O) := hSO
  obtain ⟨s0, s1⟩ := hb.scell hs
  have r0 := hb.rcell hr
  have hl : S.length ≤ 1048576 * 64 := by rw [← hSO.out, List.length_append] at hlim; omega
  go_enter Tryd.func11, Tryd.ntmps11
  go_wp2_with fail
  refine (flush_any Y B q kb bb o xs S w hb hl).mono ?_
  rintro e w1 ⟨rfl, o', h1, -, hk⟩
  have b1 : Below B w w1 := hb.kept3 hk
  clear s0 s1 r0 hb hk
  rw [hSO.out] at h1
  obtain ⟨s0, s1⟩ := h1.scell hs
  obtain ⟨lr, hB⟩ := h1.buf
  have hbw := h1.bw
  clear h1
  cases o' with
  | none =>
    exfalso
    have := hB.1
    subst this
    simp at hO1
  | some g =>
    obtain ⟨-, -, cap, cur, hblk, hg, hsz, hle, hmx, htk⟩ := hB
    have c0 : w1.cell? ⟨bb, 0, none⟩ = some (.slice (some ⟨g, 0, none⟩) O.length cap) := by rw [heap_cell hblk]; rfl
    have c1 : w1.cell? ⟨bb, 1, none⟩ = some (.int .i64 0) := by rw [heap_cell hblk]; rfl
    have hcs : ∀ i, i < O.length → w1.cell? ((⟨g, 0, none⟩ : Addr).add i) = some (.int .u8 ((O.map fun x => (x.toNat : Int)).getD i 0)) := fun i hi => by
      have e1 := byteCells_get O i hi
      rw [← htk, List.getElem?_take, if_pos hi] at e1
      rw [Go.WideShapes.add_plain, Nat.zero_add, heap_cell hg]
      simp only [Array.getElem?_toList] at e1
      rw [e1]
      simp [List.getD_eq_getElem?_getD, hi]
    have hmp : (O.map fun x => (x.toNat : Int)).map (Value.int .u8) = Lib.byteCells O := by simp [Lib.byteCells]
    clear htk hsz hg hblk
    go_wp2_with fail
    refine (bufBytes_any bb g O.length cap w1 c0 c1 hO1 hle).mono ?_
    rintro e w2 ⟨rfl, m, hw2⟩
    have hcs2 : ∀ i, i < O.length → w2.cell? ((⟨g, 0, none⟩ : Addr).add i) = some (.int .u8 ((O.map fun x => (x.toNat : Int)).getD i 0)) := fun i hi => by rw [hw2]; exact hcs i hi
    have b2 : Below B w w2 := by rw [hw2]; exact b1.trans (below_draws _ _ _)
    have hbw2 : B ≤ w2.heap.size := by rw [hw2]; exact hbw
    clear hw2 hcs c0 c1
    go_wp2_with fail
    refine (Tryd.bytes_Clone_at ⟨g, 0, none⟩ O.length cap (O.map fun x => (x.toNat : Int)) w2 (by simp) (by omega) hcs2).mono ?_
    rintro e w3 ⟨v3, rfl, hown, -, b3⟩
    rw [hmp] at hown
    obtain ⟨g3, c3, hv3⟩ := row_slice hown hO1
    subst hv3
    have hR : Row w2.heap.size w3 g3 c3 O := ⟨hown⟩
    have hR3 := hR.mono hbw2
    have b3' : Below B w w3 := b2.trans (b3.mono hbw2)
    clear hown hR b3 hcs2
    go_wp2_with fail
    go_ret
    exact ⟨⟨g3, c3, rfl, hR3⟩, b3'⟩

end Go.Proofs.Qxb6612590aDoor
