import Derived.Test.Qxb6612590aDoorBufW
import Derived.Deep.MidRow
namespace Go.Proofs.Qxb6612590aDoor
open Go.RowKit
set_option linter.unusedSimpArgs false
set_option linter.unusedVariables false
attribute [local go_sem ↓] Go.wp_at_zero Go.wp_at_succ

/-- bufio's Writer at q over the row kb and the Buffer bb: xs lies in the row, S in the Buffer. -/
structure BW (Y : List (Nat × Obj)) (B : Nat) (w : World) (q kb bb : Nat) (o : Option Nat) (xs S : List UInt8) : Prop where
  blk : w.heap[q]? = some (.cells #[.nilIface, .slice (some ⟨kb, 0, none⟩) 65536 65536, .int .i64 (xs.length : Int), .iface 41 (.pointer (some ⟨bb, 0, none⟩))] 69 (0, 0))
  le : xs.length ≤ 65536
  rng : w.rangeAt kb 0 (Lib.byteCells xs)
  thr : w.there kb 0 65536
  buf : Bf w bb o S
  ne1 : q ≠ kb
  ne2 : q ≠ bb
  ne3 : kb ≠ bb
  ne4 : o ≠ some q
  ne5 : o ≠ some kb
  kbl : kb < w.heap.size
  b1 : B ≤ q
  b2 : B ≤ kb
  b3 : B ≤ bb
  b4 : ∀ g, o = some g → B ≤ g
  bw : B ≤ w.heap.size
  bys : ∀ p ∈ Y, w.heap[p.1]? = some p.2 ∧ p.1 ≠ q ∧ p.1 ≠ kb ∧ p.1 ≠ bb ∧ o ≠ some p.1 ∧ p.1 < w.heap.size

/-- All that was there stands, but q, bb and the row o. -/
structure Kept3 (q bb : Nat) (o : Option Nat) (w w' : World) : Prop where
  os : w'.os = w.os
  tape : w'.tape = w.tape
  output : w'.output = w.output
  size : w.heap.size ≤ w'.heap.size
  block : ∀ k, k < w.heap.size → k ≠ q → k ≠ bb → o ≠ some k → w'.heap[k]? = w.heap[k]?

theorem Kept3.refl (q bb : Nat) (o : Option Nat) (w : World) : Kept3 q bb o w w := ⟨rfl, rfl, rfl, Nat.le_refl _, fun _ _ _ _ _ => rfl⟩

theorem Kept3.below {B q bb : Nat} {o : Option Nat} {w w' : World} (h : Kept3 q bb o w w') (h1 : B ≤ q) (h2 : B ≤ bb) (h3 : ∀ g, o = some g → B ≤ g) (hB : B ≤ w.heap.size) : Below B w w' :=
  ⟨h.os, h.tape, h.output, h.size, fun k hk => h.block k (by omega) (by omega) (by omega) (fun e => by have := h3 k e; omega)⟩

theorem range_block {w w' : World} {b o : Nat} {cs : List Value} (h : w.rangeAt b o cs) (e : w'.heap[b]? = w.heap[b]?) : w'.rangeAt b o cs := fun j v hj => by
  have := h j v hj
  simp only [World.cell?] at this ⊢
  rw [e]; exact this
theorem there_block {w w' : World} {b o n : Nat} (h : w.there b o n) (e : w'.heap[b]? = w.heap[b]?) : w'.there b o n := fun j hj => by
  have := h j hj
  simp only [World.cell?, World.frozen?] at this ⊢
  rw [e]; exact this
theorem bf_block {w w' : World} {b : Nat} {o : Option Nat} {S : List UInt8} (h : Bf w b o S) (e : w'.heap[b]? = w.heap[b]?) (eo : ∀ g, o = some g → w'.heap[g]? = w.heap[g]?) : Bf w' b o S := by
  obtain ⟨lr, h⟩ := h
  cases o with
  | none => exact ⟨lr, h.1, e.trans h.2⟩
  | some g =>
    obtain ⟨h1, h2, cap, cur, h3, h4, r⟩ := h
    exact ⟨lr, h1, h2, cap, cur, e.trans h3, (eo g rfl).trans h4, r⟩

theorem Bf.lt {w : World} {b : Nat} {o : Option Nat} {S : List UInt8} (h : Bf w b o S) : b < w.heap.size ∧ ∀ g, o = some g → g < w.heap.size := by
  obtain ⟨lr, h⟩ := h
  cases o with
  | none => exact ⟨heap_lt h.2, fun g e => by cases e⟩
  | some g =>
    obtain ⟨h1, h2, cap, cur, h3, h4, r⟩ := h
    exact ⟨heap_lt h3, fun g' e => by cases e; exact heap_lt h4⟩

theorem BW.cells {Y : List (Nat × Obj)} {B : Nat} {w : World} {q kb bb : Nat} {o : Option Nat} {xs S : List UInt8} (h : BW Y B w q kb bb o xs S) :
    w.cell? ⟨q, 0, none⟩ = some .nilIface ∧ w.cell? ⟨q, 1, none⟩ = some (.slice (some ⟨kb, 0, none⟩) 65536 65536) ∧ w.cell? ⟨q, 2, none⟩ = some (.int .i64 (xs.length : Int)) ∧ w.cell? ⟨q, 3, none⟩ = some (.iface 41 (.pointer (some ⟨bb, 0, none⟩))) ∧ ∀ k, w.frozen? ⟨q, k, none⟩ = false :=
  ⟨by rw [heap_cell h.blk]; rfl, by rw [heap_cell h.blk]; rfl, by rw [heap_cell h.blk]; rfl, by rw [heap_cell h.blk]; rfl, fun k => heap_frozen h.blk k⟩

theorem qcells {w : World} {q kb bb : Nat} {n : Int} (h : w.heap[q]? = some (.cells #[.nilIface, .slice (some ⟨kb, 0, none⟩) 65536 65536, .int .i64 n, .iface 41 (.pointer (some ⟨bb, 0, none⟩))] 69 (0, 0))) :
    w.cell? ⟨q, 0, none⟩ = some .nilIface ∧ w.cell? ⟨q, 1, none⟩ = some (.slice (some ⟨kb, 0, none⟩) 65536 65536) ∧ w.cell? ⟨q, 2, none⟩ = some (.int .i64 n) ∧ w.cell? ⟨q, 3, none⟩ = some (.iface 41 (.pointer (some ⟨bb, 0, none⟩))) ∧ ∀ k, w.frozen? ⟨q, k, none⟩ = false :=
  ⟨by rw [heap_cell h]; rfl, by rw [heap_cell h]; rfl, by rw [heap_cell h]; rfl, by rw [heap_cell h]; rfl, fun k => heap_frozen h k⟩

theorem fresh_ne {w : World} {o o' : Option Nat} {k : Nat} (h : o' = o ∨ ∃ g, o' = some g ∧ w.heap.size ≤ g) (hk : k < w.heap.size) (ho : o ≠ some k) : o' ≠ some k := by
  rcases h with rfl | ⟨g, rfl, hg⟩
  · exact ho
  · intro e; simp at e; omega

theorem meth81 (p : Option Addr) (w : World) : (method 236 41 (.pointer p) "Write").run Tryd.prog w = .ok (81, .pointer p) w := by kernel_rfl

set_option maxHeartbeats 2000000 in
set_option maxRecDepth 100000 in
theorem flush_any (Y : List (Nat × Obj)) (B q kb bb : Nat) (o : Option Nat) (xs S : List UInt8) (w : World) (h : BW Y B w q kb bb o xs S) (hlim : S.length ≤ 1048576 * 64) :
    Calls Tryd.prog 26 #[.pointer (some ⟨q, 0, none⟩)] w fun e w' => e = .returned .nilIface ∧ ∃ o', BW Y B w' q kb bb o' [] (S ++ xs) ∧ (o' = o ∨ ∃ g, o' = some g ∧ w.heap.size ≤ g) ∧ Kept3 q bb o w w' := by
  obtain ⟨c0, c1, c2, c3, fz⟩ := h.cells
  obtain ⟨n, hn⟩ : ∃ n, Hid (xs.length = n) := ⟨_, rfl⟩
  have hle := h.le
  rw [hn.out] at c2 hle
  by_cases h0 : n = 0
  · have hx : xs = [] := List.eq_nil_of_length_eq_zero (by rw [hn.out]; exact h0)
    subst hx
    subst h0
    go_enter Tryd.func26, Tryd.ntmps26
    go_wp2_with fail
    go_ret
    exact ⟨rfl, o, by simpa using h, Or.inl rfl, Kept3.refl _ _ _ _⟩
  · have i0 : (0 : Int) ≤ (n : Int) := by omega
    have i1 : (n : Int) ≤ 65536 := by omega
    have qn : ((n : Int) == 0) = false := by simp; omega
    have hsrc : ∀ j u, (Lib.byteCells xs)[j]? = some u → w.drew.cell? ((⟨kb, 0, none⟩ : Addr).add j) = some u := fun j u hj => by
      have := h.rng j u hj
      rw [Go.WideShapes.add_plain]; exact this
    have hbf : Bf w.drew bb o S := h.buf
    have hql : q < w.drew.heap.size := heap_lt h.blk
    have hblk := h.blk
    rw [hn.out] at hblk
    have hm := fun wx => meth81 (some ⟨bb, 0, none⟩) wx
    have h1n : 1 ≤ n := by omega
    have hl2 : S.length + n ≤ 140737488355328 := by omega
    go_enter Tryd.func26, Tryd.ntmps26
    go_wp2_with fail
    go_region_held3 (fun w' => w'.cell? ⟨q, 1, none⟩ = some (.slice (some ⟨kb, 0, none⟩) 65536 65536) ∧ w'.cell? ⟨q, 2, none⟩ = some (.int .i64 (n : Int)) ∧ w'.cell? ⟨q, 3, none⟩ = some (.iface 41 (.pointer (some ⟨bb, 0, none⟩)))) (first | exact ⟨c1, c2, c3⟩ | assumption | go_keep)
      (first | (go_at_call 81; refine (bwrite_any bb n 65536 o S xs ⟨kb, 0, none⟩ _ hbf hn.out h1n hsrc h.ne3 hl2).mono ?_; rintro e w1 ⟨rfl, o', hbf1, ho', hk1⟩; have hq1 := (hk1.block q hql h.ne2 h.ne4).trans hblk; obtain ⟨d0, d1, d2, d3, dz⟩ := qcells hq1; have hS1 := And.intro d1 (And.intro d2 d3)))
    have hfin : ∀ W, W = w1.setCell ⟨q, 2, none⟩ (.int .i64 0) → ∃ o', BW Y B W q kb bb o' [] (S ++ xs) ∧ (o' = o ∨ ∃ g, o' = some g ∧ w.heap.size ≤ g) ∧ Kept3 q bb o w W := by
      rintro W rfl
      have hkb1 := hk1.block kb h.kbl h.ne3 h.ne5
      have nq' := fresh_ne ho' hql h.ne4
      have nk' := fresh_ne ho' h.kbl h.ne5
      have hkbW : (w1.setCell ⟨q, 2, none⟩ (.int .i64 0)).heap[kb]? = w.heap[kb]? := (heap_set_other h.ne1).trans hkb1
      refine ⟨o', ⟨?_, by simp, fun j v hj => by simp [Lib.byteCells] at hj, there_block h.thr hkbW, ?_, h.ne1, h.ne2, h.ne3, nq', nk', ?_, h.b1, h.b2, h.b3, ?_, ?_, fun p hp => ?_⟩, ho', ?_⟩
      · rw [heap_set hq1 2 _]; rfl
      · exact bf_block hbf1 (heap_set_other h.ne2) (fun g e => heap_set_other (fun e2 => nq' (by rw [e, e2])))
      · have := hk1.size; have := h.kbl; have h9 : w.drew.heap.size = w.heap.size := rfl; simp; omega
      · intro g e
        rcases ho' with rfl | ⟨g', rfl, hg'⟩
        · exact h.b4 g e
        · simp at e; subst e; have := h.bw; have h9 : w.drew.heap.size = w.heap.size := rfl; omega
      · have := hk1.size; have h9 : w.drew.heap.size = w.heap.size := rfl; have := h.bw; simp; omega
      · obtain ⟨e1, n1, n2, n3, n4, n5⟩ := h.bys p hp
        refine ⟨(heap_set_other (Ne.symm n1)).trans ((hk1.block p.1 n5 n3 n4).trans e1), n1, n2, n3, fresh_ne ho' n5 n4, ?_⟩
        have := hk1.size; have h9 : w.drew.heap.size = w.heap.size := rfl; simp; omega
      · exact ⟨hk1.os, hk1.tape, hk1.output, by have := hk1.size; simpa using this, fun k k1 k2 k3 k4 => (heap_set_other (Ne.symm k2)).trans (hk1.block k k1 k3 k4)⟩
    clear hbf1 ho' hk1 hq1 hS1 hsrc hbf
    go_wp2_with fail
    go_ret
    exact ⟨rfl, hfin _ rfl⟩

end Go.Proofs.Qxb6612590aDoor
