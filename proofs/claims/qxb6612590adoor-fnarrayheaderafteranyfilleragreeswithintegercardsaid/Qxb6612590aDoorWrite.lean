import Derived.Test.Qxb6612590aDoorByte2
namespace Go.Proofs.Qxb6612590aDoor
open Go.RowKit
set_option linter.unusedSimpArgs false
set_option linter.unusedVariables false
attribute [local go_sem ↓] Go.wp_at_zero Go.wp_at_succ

theorem setCells_heap {g c : Nat} (h : c ≠ g) : ∀ (vs : List Value) (k : Nat) (w : World), (w.setCells g k vs).heap[c]? = w.heap[c]?
  | [], _, _ => rfl
  | v :: vs, k, w => by
    show ((w.setCell ⟨g, k, none⟩ v).setCells g (k + 1) vs).heap[c]? = _
    rw [setCells_heap h vs (k + 1)]; exact heap_set_other (Ne.symm h)
theorem setCells_other {w : World} {g k c : Nat} {vs : List Value} (h : c ≠ g) (hc : c < w.heap.size) : (w.setCells g k vs).heap[c]? = w.heap[c]? := setCells_heap h vs k w

theorem setCells_size (g : Nat) : ∀ (vs : List Value) (k : Nat) (w : World), (w.setCells g k vs).heap.size = w.heap.size
  | [], _, _ => rfl
  | v :: vs, k, w => by
    show ((w.setCell ⟨g, k, none⟩ v).setCells g (k + 1) vs).heap.size = _
    rw [setCells_size g vs (k + 1)]; simp

theorem below_setCells {B g : Nat} (hg : B ≤ g) : ∀ (vs : List Value) (k : Nat) (w0 w : World), Below B w0 w → Below B w0 (w.setCells g k vs)
  | [], _, _, _, h => h
  | v :: vs, k, w0, w, h => by
    show Below B w0 ((w.setCell ⟨g, k, none⟩ v).setCells g (k + 1) vs)
    exact below_setCells hg vs (k + 1) w0 _ (h.setCell (p := ⟨g, k, none⟩) hg _)

theorem BW.puts {Y : List (Nat × Obj)} {B : Nat} {w : World} {q kb bb : Nat} {o : Option Nat} {xs S : List UInt8} (h : BW Y B w q kb bb o xs S) (ys : List UInt8) (hle : xs.length + ys.length ≤ 65536) :
    BW Y B ((w.setCells kb xs.length (Lib.byteCells ys)).setCell ⟨q, 2, none⟩ (.int .i64 ((xs.length : Int) + (ys.length : Int)))) q kb bb o (xs ++ ys) S := by
  have hkb : ∀ (W : World) v, ((W.setCell ⟨q, 2, none⟩ v).heap[kb]?) = W.heap[kb]? := fun W v => heap_set_other h.ne1
  have hr1 : (w.setCells kb xs.length (Lib.byteCells ys)).rangeAt kb 0 (Lib.byteCells xs) := World.rangeAt_setCells_apart h.rng _ _ _ (by right; left; rw [byteCells_len]; omega)
  have hr2 : (w.setCells kb xs.length (Lib.byteCells ys)).rangeAt kb xs.length (Lib.byteCells ys) := World.rangeAt_setCells_same _ _ _ _ (fun j hj => by
    rw [byteCells_len] at hj
    have := h.thr (xs.length + j) (by omega)
    simpa using this)
  have hql := heap_lt h.blk
  obtain ⟨hbl, hol⟩ := h.buf.lt
  have hbq : (w.setCells kb xs.length (Lib.byteCells ys)).heap[q]? = w.heap[q]? := setCells_other h.ne1 hql
  refine ⟨?_, by simp; omega, ?_, ?_, ?_, h.ne1, h.ne2, h.ne3, h.ne4, h.ne5, ?_, h.b1, h.b2, h.b3, h.b4, ?_, fun p hp => by
    obtain ⟨e1, n1, n2, n3, n4, n5⟩ := h.bys p hp
    exact ⟨(heap_set_other (Ne.symm n1)).trans ((setCells_heap n2 _ _ _).trans e1), n1, n2, n3, n4, by simp [setCells_size]; omega⟩⟩
  · rw [heap_set (hbq.trans h.blk) 2 _]; simp
  · refine range_block (w := w.setCells kb xs.length (Lib.byteCells ys)) ?_ (hkb _ _)
    intro j v hj
    rw [byteCells_app, List.getElem?_append] at hj
    split at hj
    · exact hr1 j v hj
    · rename_i hge
      rw [byteCells_len] at hj hge
      have := hr2 (j - xs.length) v hj
      rw [show xs.length + (j - xs.length) = 0 + j by omega] at this
      exact this
  · exact there_block (World.there_setCells h.thr _ _ _) (hkb _ _)
  · refine bf_block (bf_block h.buf (setCells_other (Ne.symm h.ne3) hbl) (fun g e2 => setCells_other (fun e3 => h.ne5 (by rw [e2, e3])) (hol g e2))) (heap_set_other h.ne2) (fun g e2 => heap_set_other (fun e3 => h.ne4 (by rw [e2, e3])))
  · have := h.kbl; simp [setCells_size]; omega
  · have := h.bw; simp [setCells_size]; omega

set_option maxHeartbeats 2000000 in
set_option maxRecDepth 100000 in
/-- Write of bytes that fit: wherever they lie, in the row's own spare too. -/
theorem write_fit (Y : List (Nat × Obj)) (B q kb bb : Nat) (o : Option Nat) (xs S ps : List UInt8) (a : Addr) (len cap : Nat) (w : World) (h : BW Y B w q kb bb o xs S) (hl : ps.length = len) (h1 : 1 ≤ len) (hfit : xs.length + len ≤ 65536)
    (hsrc : ∀ j u, (Lib.byteCells ps)[j]? = some u → w.cell? (a.add j) = some u) :
    Calls Tryd.prog 29 #[.pointer (some ⟨q, 0, none⟩), .slice (some a) len cap] w fun e w' => (∃ v, e = .returned v) ∧ BW Y B w' q kb bb o (xs ++ ps) S ∧ Below B w w' := by
  obtain ⟨n, hn⟩ : ∃ n, Hid (xs.length = n) := ⟨_, rfl⟩
  rw [hn.out] at hfit
  go_enter Tryd.func29, Tryd.ntmps29
  go_wp2_with fail
  go_loopw [1, 4] (fun pv nv wr => pv = .slice (some a) len cap ∧ nv = .int .i64 0 ∧ ∃ m, wr = w.drewN m) (fun _ _ _ => 0)
  case atStart => exact ⟨rfl, rfl, 0, rfl⟩
  case round =>
    obtain ⟨rfl, rfl, m, hwr⟩ := hrel
    have hr : BW Y B wr q kb bb o xs S := by rw [hwr]; exact h.draws m
    have br : Below B w wr := by rw [hwr]; exact below_draws _ _ _
    have hsr : ∀ j u, (Lib.byteCells ps)[j]? = some u → wr.cell? (a.add j) = some u := by rw [hwr]; exact hsrc
    clear hwr h hsrc
    have q1 : decide (65536 - (n : Int) < (len : Int)) = false := by simp; omega
    go_wp2_with fail
    refine (avail_any Y B q kb bb o xs S wr hr).mono ?_
    rintro e w1 ⟨rfl, m1, hw1⟩
    rw [hn.out]
    have hr1 : BW Y B w1 q kb bb o xs S := by rw [hw1]; exact hr.draws m1
    have br1 : Below B w w1 := by rw [hw1]; exact br.trans (below_draws _ _ _)
    have hs1 : ∀ j u, (Lib.byteCells ps)[j]? = some u → w1.cell? (a.add j) = some u := by rw [hw1]; exact hsr
    clear hw1 hr br hsr
    obtain ⟨c0, c1, c2, c3, fz⟩ := hr1.cells
    rw [hn.out] at c2
    have hr1d : BW Y B w1.drew q kb bb o xs S := hr1.draws 1
    have hql := heap_lt hr1.blk
    have hcp := run_copy_cells (P := Tryd.prog) w1.drew 24 24 3 5 kb n (65536 - n) (65536 - n) a len cap (Lib.byteCells ps) Tryd.underlying24 hinfo5 (by rw [byteCells_len, hl]; exact (Nat.min_eq_left (by omega)).symm) hs1
      (fun j hj => by rw [byteCells_len, hl] at hj; have := (hr1d.thr (n + j) (by omega)).1; simpa using this) (fun j hj => by rw [byteCells_len, hl] at hj; have := (hr1d.thr (n + j) (by omega)).2; simpa using this) (one_byteCells ps)
    rw [byteCells_len, hl] at hcp
    have hput := hr1d.puts ps (by rw [hn.out, hl]; exact hfit)
    rw [hn.out, hl] at hput
    have hbq : (w1.drew.setCells kb n (Lib.byteCells ps)).heap[q]? = w1.drew.heap[q]? := setCells_other hr1.ne1 hql
    have hbk := hbq.trans hr1.blk
    rw [hn.out] at hbk
    obtain ⟨d0, d1, d2, d3, dz⟩ := qcells hbk
    have hbe : ∀ v, Below B w ((w1.drew.setCells kb n (Lib.byteCells ps)).setCell ⟨q, 2, none⟩ v) := fun v => (below_setCells hr1.b2 _ _ _ _ br1.drew).setCell (p := ⟨q, 2, none⟩) hr1.b1 _
    have i0 : (0 : Int) ≤ (n : Int) := by omega
    have i1 : (n : Int) ≤ 65536 := by omega
    have i2 : ¬ 65536 = n := by omega
    generalize w1.drew.setCells kb n (Lib.byteCells ps) = W at hcp hput hbe d0 d1 d2 d3 dz
    clear hs1 hbq hbk
    go_wp2_with fail
    go_region_held3 (fun w' => w'.cell? ⟨q, 1, none⟩ = some (.slice (some ⟨kb, 0, none⟩) 65536 65536) ∧ w'.cell? ⟨q, 2, none⟩ = some (.int .i64 (n : Int))) (first | exact ⟨c1, c2⟩ | exact ⟨d1, d2⟩ | go_keep) (fail)
    go_wp2_with fail
    go_ret2
    exact ⟨⟨_, rfl⟩, hput, hbe _⟩

end Go.Proofs.Qxb6612590aDoor
