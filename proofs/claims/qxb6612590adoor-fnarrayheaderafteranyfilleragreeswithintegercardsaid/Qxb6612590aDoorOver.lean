import Derived.Test.Qxb6612590aDoorWrite
namespace Go.Proofs.Qxb6612590aDoor
open Go.RowKit
set_option linter.unusedSimpArgs false
set_option linter.unusedVariables false
attribute [local go_sem ↓] Go.wp_at_zero Go.wp_at_succ

/-- The bytes ps lie at sb from off on, outside the Writer's own blocks. -/
structure Far (w : World) (q kb bb : Nat) (o : Option Nat) (sb off : Nat) (ps : List UInt8) : Prop where
  src : ∀ j u, (Lib.byteCells ps)[j]? = some u → w.cell? ⟨sb, off + j, none⟩ = some u
  n1 : sb ≠ q
  n2 : sb ≠ kb
  n3 : sb ≠ bb
  n4 : o ≠ some sb
  lt : sb < w.heap.size

theorem Far.drop {w : World} {q kb bb : Nat} {o : Option Nat} {sb off : Nat} {ps : List UInt8} (h : Far w q kb bb o sb off ps) (k : Nat) : Far w q kb bb o sb (off + k) (ps.drop k) :=
  ⟨fun j u hj => by
    have e : (Lib.byteCells ps)[k + j]? = some u := by
      simp only [Lib.byteCells, List.map_drop, List.getElem?_drop] at hj ⊢
      exact hj
    have := h.src (k + j) u e
    rw [Nat.add_assoc]; exact this, h.n1, h.n2, h.n3, h.n4, h.lt⟩

theorem Far.cells {w : World} {q kb bb : Nat} {o : Option Nat} {sb off : Nat} {ps : List UInt8} (h : Far w q kb bb o sb off ps) : ∀ j u, (Lib.byteCells ps)[j]? = some u → w.cell? ((⟨sb, off, none⟩ : Addr).add j) = some u := fun j u hj => by
  rw [Go.WideShapes.add_plain]; exact h.src j u hj
theorem Far.take {w : World} {q kb bb : Nat} {o : Option Nat} {sb off : Nat} {ps : List UInt8} (h : Far w q kb bb o sb off ps) (k : Nat) : ∀ j u, (Lib.byteCells (ps.take k))[j]? = some u → w.cell? ((⟨sb, off, none⟩ : Addr).add j) = some u := fun j u hj => by
  refine h.cells j u ?_
  simp only [Lib.byteCells, List.map_take, List.getElem?_take] at hj ⊢
  split at hj
  · exact hj
  · simp at hj

theorem Far.block {w w' : World} {q kb bb : Nat} {o o' : Option Nat} {sb off : Nat} {ps : List UInt8} (h : Far w q kb bb o sb off ps) (e : w'.heap[sb]? = w.heap[sb]?) (ho : o' ≠ some sb) (hs : w.heap.size ≤ w'.heap.size) : Far w' q kb bb o' sb off ps :=
  ⟨fun j u hj => by
    have := h.src j u hj
    simp only [World.cell?] at this ⊢
    rw [e]; exact this, h.n1, h.n2, h.n3, ho, Nat.lt_of_lt_of_le h.lt hs⟩

def sliceLen : Value → Nat
  | .slice _ l _ => l
  | _ => 0

open Classical in
/-- What is left to do. -/
noncomputable def left (q : Nat) (pv : Value) (wr : World) : Nat := 2 * sliceLen pv + (if wr.cell? ⟨q, 2, none⟩ = some (.int .i64 0) then 0 else 1)

structure PhB (Y : List (Nat × Obj)) (B : Nat) (w wr : World) (q kb bb sb off : Nat) (O ps : List UInt8) (k : Nat) : Prop where
  ex : ∃ o', BW Y B wr q kb bb o' [] (O ++ ps.take k) ∧ Far wr q kb bb o' sb (off + k) (ps.drop k)
  bel : Below B w wr

structure PhC (Y : List (Nat × Obj)) (B : Nat) (w wr : World) (q kb bb : Nat) (O ps : List UInt8) : Prop where
  ex : ∃ o', BW Y B wr q kb bb o' [] (O ++ ps)
  bel : Below B w wr

theorem BW.sunk {Y : List (Nat × Obj)} {B : Nat} {w1 w2 : World} {q kb bb : Nat} {o o' : Option Nat} {S S' : List UInt8} (h : BW Y B w1 q kb bb o [] S) (hb : Bf w2 bb o' S') (ho : o' = o ∨ ∃ g, o' = some g ∧ w1.heap.size ≤ g) (hk : Kept2 bb o w1 w2) :
    BW Y B (w2.setCell ⟨q, 0, none⟩ .nilIface) q kb bb o' [] S' ∧ Below B w1 (w2.setCell ⟨q, 0, none⟩ .nilIface) := by
  have hql := heap_lt h.blk
  have hq := (hk.block q hql h.ne2 h.ne4).trans h.blk
  have nq' := fresh_ne ho hql h.ne4
  have nk' := fresh_ne ho h.kbl h.ne5
  have hkb : (w2.setCell ⟨q, 0, none⟩ .nilIface).heap[kb]? = w1.heap[kb]? := (heap_set_other h.ne1).trans (hk.block kb h.kbl h.ne3 h.ne5)
  have hsz := hk.size
  refine ⟨⟨?_, by simp, fun j v hj => by simp [Lib.byteCells] at hj, there_block h.thr hkb, bf_block hb (heap_set_other h.ne2) (fun g e => heap_set_other (fun e2 => nq' (by rw [e, e2]))), h.ne1, h.ne2, h.ne3, nq', nk', ?_, h.b1, h.b2, h.b3, ?_, ?_, fun p hp => by
    obtain ⟨e1, n1, n2, n3, n4, n5⟩ := h.bys p hp
    exact ⟨(heap_set_other (Ne.symm n1)).trans ((hk.block p.1 n5 n3 n4).trans e1), n1, n2, n3, fresh_ne ho n5 n4, by simp; omega⟩⟩, ?_⟩
  · rw [heap_set hq 0 _]; rfl
  · have := h.kbl; simp; omega
  · intro g e
    rcases ho with rfl | ⟨g', rfl, hg'⟩
    · exact h.b4 g e
    · simp at e; subst e; have := h.bw; omega
  · have := h.bw; simp; omega
  · exact ⟨hk.os, hk.tape, hk.output, by simpa using hsz, fun i hi => (heap_set_other (by have := h.b1; omega)).trans (hk.block i (by have := h.bw; omega) (by have := h.b3; omega) (fun e => by have := h.b4 i e; omega))⟩

set_option maxHeartbeats 4000000 in
set_option maxRecDepth 100000 in
/-- Write of bytes that do not fit; something lies in the row. -/
theorem write_over (Y : List (Nat × Obj)) (B q kb bb sb off : Nat) (o : Option Nat) (xs S ps : List UInt8) (len cap : Nat) (w : World) (h : BW Y B w q kb bb o xs S) (hf : Far w q kb bb o sb off ps) (hl : ps.length = len) (hcap : len ≤ cap) (hcm : cap ≤ 9223372036854775807) (hx : 1 ≤ xs.length) (hover : 65536 < xs.length + len) (hlim : S.length + xs.length + len ≤ 1048576 * 4) :
    Calls Tryd.prog 29 #[.pointer (some ⟨q, 0, none⟩), .slice (some ⟨sb, off, none⟩) len cap] w fun e w' => (∃ v, e = .returned v) ∧ Out Y B w' q kb bb (S ++ xs ++ ps) ∧ Below B w w' := by
  obtain ⟨n, hn⟩ : ∃ n, Hid (xs.length = n) := ⟨_, rfl⟩
  have hle := h.le
  rw [hn.out] at hover hx hle hlim
  obtain ⟨k, hk⟩ : ∃ k, n + k = 65536 := ⟨65536 - n, by omega⟩
  go_enter Tryd.func29, Tryd.ntmps29
  go_wp2_with fail
  go_loopw [1, 4] (fun pv nv wr => (pv = .slice (some ⟨sb, off, none⟩) len cap ∧ nv = .int .i64 0 ∧ ∃ m, wr = w.drewN m) ∨ (pv = .slice (some ⟨sb, off + k, none⟩) (len - k) (cap - k) ∧ nv = .int .i64 (k : Int) ∧ PhB Y B w wr q kb bb sb off (S ++ xs) ps k) ∨ (∃ ad' c', pv = .slice ad' 0 c' ∧ nv = .int .i64 (len : Int) ∧ PhC Y B w wr q kb bb (S ++ xs) ps)) (fun pv _ wr => left q pv wr)
  case atStart => exact Or.inl ⟨rfl, rfl, 0, rfl⟩
  case round =>
    rcases hrel with ⟨rfl, rfl, m, hwr⟩ | ⟨rfl, rfl, hB⟩ | ⟨ad', c', rfl, rfl, hC⟩
    · have hr : BW Y B wr q kb bb o xs S := by rw [hwr]; exact h.draws m
      have br : Below B w wr := by rw [hwr]; exact below_draws _ _ _
      have hfr : Far wr q kb bb o sb off ps := by rw [hwr]; exact hf.block rfl hf.n4 (Nat.le_refl _)
      have hm0 : Hid (wr.cell? ⟨q, 2, none⟩ = some (.int .i64 (n : Int))) := by show _ = _; rw [hr.cells.2.2.1, hn.out]
      clear hwr h hf
      have q1 : decide (65536 - (n : Int) < (len : Int)) = true := by simp; omega
      have q2 : ((n : Int) == 0) = false := by simp; omega
      go_wp2_with fail
      refine (avail_any Y B q kb bb o xs S wr hr).mono ?_
      rintro e w1 ⟨rfl, m1, hw1⟩
      rw [hn.out]
      have hr1 : BW Y B w1 q kb bb o xs S := by rw [hw1]; exact hr.draws m1
      have br1 : Below B w w1 := by rw [hw1]; exact br.trans (below_draws _ _ _)
      have hf1 : Far w1 q kb bb o sb off ps := by rw [hw1]; exact hfr.block rfl hfr.n4 (Nat.le_refl _)
      clear hw1 hr br hfr
      obtain ⟨c0, c1, c2, c3, fz⟩ := hr1.cells
      rw [hn.out] at c2
      go_wp2_with fail
      refine (buffered_any Y B q kb bb o xs S w1 hr1).mono ?_
      rintro e w2 ⟨rfl, hw2⟩
      subst w2
      rw [hn.out]
      have hr1d : BW Y B w1.drew q kb bb o xs S := hr1.draws 1
      have hf1d : Far w1.drew q kb bb o sb off ps := hf1.block rfl hf1.n4 (Nat.le_refl _)
      have hlt : (ps.take k).length = k := by rw [List.length_take, hl]; omega
      have hput := hr1d.puts (ps.take k) (by rw [hn.out, hlt]; omega)
      rw [hn.out, hlt] at hput
      have hql := heap_lt hr1.blk
      have hbq : ∀ vs : List Value, (w1.drew.setCells kb n vs).heap[q]? = w1.drew.heap[q]? := fun vs => setCells_other hr1.ne1 hql
      have i0 : (0 : Int) ≤ (n : Int) := by omega
      have i1 : (n : Int) ≤ 65536 := by omega
      have i2 : (0 : Int) ≤ (k : Int) := by omega
      have i3 : (k : Int) ≤ (len : Int) := by omega
      have icap : ¬ cap = k := by omega
      have hfW : ∀ vs v, Far ((w1.drew.setCells kb n vs).setCell ⟨q, 2, none⟩ v) q kb bb o sb off ps := fun vs v => hf1d.block ((heap_set_other (Ne.symm hf1.n1)).trans (setCells_heap hf1.n2 _ _ _)) hf1.n4 (by simp [setCells_size])
      have hbW : ∀ vs v, Below B w ((w1.drew.setCells kb n vs).setCell ⟨q, 2, none⟩ v) := fun vs v => (below_setCells hr1.b2 _ _ _ _ br1.drew).setCell (p := ⟨q, 2, none⟩) hr1.b1 _
      by_cases hk0 : k = 0
      · subst hk0
        have hn65 : n = 65536 := by omega
        subst hn65
        have hcp := fun d => run_copy_none (P := Tryd.prog) w1.drew 24 24 3 5 d (some ⟨sb, off, none⟩) 0 0 len cap Tryd.underlying24 hinfo5 (Nat.min_zero len)
        have hput0 : BW Y B (w1.drew.setCell ⟨q, 2, none⟩ (.int .i64 65536)) q kb bb o xs S := by simpa [Lib.byteCells, World.setCells] using hput
        have hfW1 : Far (w1.drew.setCell ⟨q, 2, none⟩ (.int .i64 65536)) q kb bb o sb off ps := hfW [] _
        have hbW1 : Below B w (w1.drew.setCell ⟨q, 2, none⟩ (.int .i64 65536)) := hbW [] _
        clear hfW hbW hbq hf1 hf1d hput hr1d
        go_wp2_with fail
        go_region_held3 (fun w' => w'.cell? ⟨q, 1, none⟩ = some (.slice (some ⟨kb, 0, none⟩) 65536 65536) ∧ w'.cell? ⟨q, 2, none⟩ = some (.int .i64 65536)) (first | exact ⟨c1, c2⟩ | go_keep) (fail)
        go_wp2_with fail
        refine (flush_any Y B q kb bb o xs S _ hput0 (by omega)).mono ?_
        rintro e w3 ⟨rfl, o', h3, ho', hk3⟩
        have hB3 : PhB Y B w w3 q kb bb sb off (S ++ xs) ps 0 := ⟨⟨o', by simpa using h3, (hfW1.block (hk3.block sb hfW1.lt hfW1.n1 hfW1.n3 hfW1.n4) (fresh_ne ho' hfW1.lt hfW1.n4) hk3.size).drop 0⟩, hbW1.trans (hput0.kept3 hk3)⟩
        have hm3 : w3.cell? ⟨q, 2, none⟩ = some (.int .i64 0) := h3.cells.2.2.1
        clear hcp hput0 hfW1 hbW1 c0 c1 c2 c3 fz hr1 br1 hk3 ho' h3
        go_wp2_with fail
        go_roundw
        case rel => exact Or.inr (Or.inl ⟨by simp, by simp, hB3⟩)
        case measure =>
          unfold left
          rw [hm0.out, if_pos hm3, if_neg (by simp)]
          simp only [sliceLen]
          omega
      · have i4 : ¬ 65536 = n := by omega
        have hmin : (Lib.byteCells (ps.take k)).length = Nat.min len (65536 - n) := by
          have hm : Nat.min len (65536 - n) = 65536 - n := Nat.min_eq_right (by omega)
          rw [byteCells_len, hlt, hm]; omega
        have hcp := run_copy_cells (P := Tryd.prog) w1.drew 24 24 3 5 kb n (65536 - n) (65536 - n) ⟨sb, off, none⟩ len cap (Lib.byteCells (ps.take k)) Tryd.underlying24 hinfo5 hmin (hf1d.take k)
          (fun j hj => by rw [byteCells_len, hlt] at hj; have := (hr1d.thr (n + j) (by omega)).1; simpa using this) (fun j hj => by rw [byteCells_len, hlt] at hj; have := (hr1d.thr (n + j) (by omega)).2; simpa using this) (one_byteCells _)
        rw [byteCells_len, hlt] at hcp
        have hbk := (hbq (Lib.byteCells (ps.take k))).trans hr1.blk
        rw [hn.out] at hbk
        obtain ⟨d0, d1, d2, d3, dz⟩ := qcells hbk
        have hfW1 := hfW (Lib.byteCells (ps.take k)) (.int .i64 ((n : Int) + (k : Int)))
        have hbW1 := hbW (Lib.byteCells (ps.take k)) (.int .i64 ((n : Int) + (k : Int)))
        generalize w1.drew.setCells kb n (Lib.byteCells (ps.take k)) = W at hcp hput d0 d1 d2 d3 dz hfW1 hbW1
        clear hfW hbW hbq hbk hmin hf1 hf1d
        go_wp2_with fail
        go_region_held3 (fun w' => w'.cell? ⟨q, 1, none⟩ = some (.slice (some ⟨kb, 0, none⟩) 65536 65536) ∧ w'.cell? ⟨q, 2, none⟩ = some (.int .i64 (n : Int))) (first | exact ⟨c1, c2⟩ | exact ⟨d1, d2⟩ | go_keep) (fail)
        go_wp2_with fail
        refine (flush_any Y B q kb bb o (xs ++ ps.take k) S _ hput (by omega)).mono ?_
        rintro e w3 ⟨rfl, o', h3, ho', hk3⟩
        have hB3 : PhB Y B w w3 q kb bb sb off (S ++ xs) ps k := ⟨⟨o', by rw [List.append_assoc]; exact h3, (hfW1.block (hk3.block sb hfW1.lt hfW1.n1 hfW1.n3 hfW1.n4) (fresh_ne ho' hfW1.lt hfW1.n4) hk3.size).drop k⟩, hbW1.trans (hput.kept3 hk3)⟩
        have hm3 : w3.cell? ⟨q, 2, none⟩ = some (.int .i64 0) := h3.cells.2.2.1
        clear hcp hput d0 d1 d2 d3 dz hfW1 hbW1 c0 c1 c2 c3 fz hr1 hr1d br1 hk3 ho' h3
        go_wp2_with fail
        go_roundw
        case rel => exact Or.inr (Or.inl ⟨rfl, by simp, hB3⟩)
        case measure =>
          unfold left
          rw [hm0.out, if_pos hm3, if_neg (by simp; omega)]
          simp only [sliceLen]
          omega
    · obtain ⟨⟨o', hr, hfr⟩, br⟩ := hB
      clear h hf
      obtain ⟨r, hr0⟩ : ∃ r, Hid (len - k = r) := ⟨_, rfl⟩
      have hrk : r + k = len := by have := hr0.out; omega
      have hr1' : 1 ≤ r := by omega
      rw [hr0.out]
      have hm0 : Hid (wr.cell? ⟨q, 2, none⟩ = some (.int .i64 0)) := by show _ = _; exact hr.cells.2.2.1
      have hdl : (ps.drop k).length = r := by rw [List.length_drop, hl]; omega
      have htd : S ++ xs ++ ps.take k ++ ps.drop k = S ++ xs ++ ps := by rw [List.append_assoc (S ++ xs), List.take_append_drop]
      have htl : (S ++ xs ++ ps.take k).length ≤ 1048576 * 4 := by rw [List.length_append, List.length_append, List.length_take, hn.out]; omega
      go_wp2_with fail
      refine (avail_any Y B q kb bb o' [] _ wr hr).mono ?_
      rintro e w1 ⟨rfl, m1, hw1⟩
      have hr1 : BW Y B w1 q kb bb o' [] (S ++ xs ++ ps.take k) := by rw [hw1]; exact hr.draws m1
      have br1 : Below B w w1 := by rw [hw1]; exact br.trans (below_draws _ _ _)
      have hf1 : Far w1 q kb bb o' sb (off + k) (ps.drop k) := by rw [hw1]; exact hfr.block rfl hfr.n4 (Nat.le_refl _)
      clear hw1 hr br hfr
      obtain ⟨c0, c1, c2, c3, fz⟩ := hr1.cells
      have c2' : w1.cell? ⟨q, 2, none⟩ = some (.int .i64 0) := c2
      clear c2
      by_cases hbig : 65536 < r
      · have q1 : decide (65536 < (r : Int)) = true := by simp; omega
        have hm := fun wx => meth81 (some ⟨bb, 0, none⟩) wx
        go_wp2_with fail
        refine (buffered_any Y B q kb bb o' [] _ w1 hr1).mono ?_
        rintro e w2 ⟨rfl, hw2⟩
        subst w2
        go_wp2_with fail
        refine (bwrite_any bb r (cap - k) o' (S ++ xs ++ ps.take k) (ps.drop k) ⟨sb, off + k, none⟩ w1 hr1.buf hdl hr1' hf1.cells hf1.n3 (by omega)).mono ?_
        rintro e w2 ⟨rfl, o2, hbf2, ho2, hk2⟩
        obtain ⟨hS, hSb⟩ := hr1.sunk hbf2 ho2 hk2
        rw [htd] at hS
        have hq2 := (hk2.block q (heap_lt hr1.blk) hr1.ne2 hr1.ne4).trans hr1.blk
        obtain ⟨d0, d1, d2, d3, dz⟩ := qcells hq2
        have hC : PhC Y B w (w2.setCell ⟨q, 0, none⟩ .nilIface) q kb bb (S ++ xs) ps := ⟨⟨o2, hS⟩, br1.trans hSb⟩
        have hm3 : (w2.setCell ⟨q, 0, none⟩ .nilIface).cell? ⟨q, 2, none⟩ = some (.int .i64 0) := hS.cells.2.2.1
        have ikr : (k : Int) + (r : Int) = (len : Int) := by omega
        have j0 : (0 : Int) ≤ (r : Int) := by omega
        clear hS hSb hq2 hbf2 ho2 hk2 hf1 hr1 br1 c0 c1 c2' c3 fz
        by_cases hcc : cap - k = r
        · go_wp2_with fail
          go_roundw
          case rel => exact Or.inr (Or.inr ⟨_, _, by first | rfl | simp, by first | rfl | simp [ikr], hC⟩)
          case measure =>
            unfold left
            rw [if_pos hm3, if_pos hm0.out]
            simp only [sliceLen]
            omega
        · go_wp2_with fail
          go_roundw
          case rel => exact Or.inr (Or.inr ⟨_, _, by first | rfl | simp, by first | rfl | simp [ikr], hC⟩)
          case measure =>
            unfold left
            rw [if_pos hm3, if_pos hm0.out]
            simp only [sliceLen]
            omega
      · have q1 : decide (65536 < (r : Int)) = false := by simp; omega
        have hr1d : BW Y B w1.drew q kb bb o' [] (S ++ xs ++ ps.take k) := hr1.draws 1
        have hf1d : Far w1.drew q kb bb o' sb (off + k) (ps.drop k) := hf1.block rfl hf1.n4 (Nat.le_refl _)
        have hql := heap_lt hr1.blk
        have hmin : (Lib.byteCells (ps.drop k)).length = Nat.min r 65536 := by
          have hm : Nat.min r 65536 = r := Nat.min_eq_left (by omega)
          rw [byteCells_len, hdl, hm]
        have hcp := run_copy_cells (P := Tryd.prog) w1.drew 24 24 3 5 kb 0 65536 65536 ⟨sb, off + k, none⟩ r (cap - k) (Lib.byteCells (ps.drop k)) Tryd.underlying24 hinfo5 hmin hf1d.cells
          (fun j hj => by rw [byteCells_len, hdl] at hj; exact (hr1d.thr j (by omega)).1) (fun j hj => by rw [byteCells_len, hdl] at hj; exact (hr1d.thr j (by omega)).2) (one_byteCells _)
        rw [byteCells_len, hdl] at hcp
        have hput := hr1d.puts (ps.drop k) (by rw [hdl]; simp; omega)
        rw [hdl, List.nil_append] at hput
        have hput' : BW Y B ((w1.drew.setCells kb 0 (Lib.byteCells (ps.drop k))).setCell ⟨q, 2, none⟩ (.int .i64 (r : Int))) q kb bb o' (ps.drop k) (S ++ xs ++ ps.take k) := by simpa using hput
        have hbk := (setCells_other (w := w1.drew) (k := 0) (vs := Lib.byteCells (ps.drop k)) hr1.ne1 hql).trans hr1.blk
        obtain ⟨d0, d1, d2, d3, dz⟩ := qcells hbk
        have d2' : (w1.drew.setCells kb 0 (Lib.byteCells (ps.drop k))).cell? ⟨q, 2, none⟩ = some (.int .i64 0) := d2
        have hbe : ∀ v, Below B w ((w1.drew.setCells kb 0 (Lib.byteCells (ps.drop k))).setCell ⟨q, 2, none⟩ v) := fun v => (below_setCells hr1.b2 _ _ _ _ br1.drew).setCell (p := ⟨q, 2, none⟩) hr1.b1 _
        clear d2 hput hbk
        generalize w1.drew.setCells kb 0 (Lib.byteCells (ps.drop k)) = W at hcp hput' hbe d0 d1 d2' d3 dz
        have hO : ∀ W', BW Y B W' q kb bb o' (ps.drop k) (S ++ xs ++ ps.take k) → Out Y B W' q kb bb (S ++ xs ++ ps) := fun W' hW' => ⟨o', _, _, hW', htd⟩
        go_wp2_with fail
        go_region_held3 (fun w' => w'.cell? ⟨q, 1, none⟩ = some (.slice (some ⟨kb, 0, none⟩) 65536 65536) ∧ w'.cell? ⟨q, 2, none⟩ = some (.int .i64 0)) (first | exact ⟨c1, c2'⟩ | exact ⟨d1, d2'⟩ | go_keep) (fail)
        go_wp2_with fail
        go_ret2
        exact ⟨⟨_, rfl⟩, hO _ hput', hbe _⟩
    · obtain ⟨⟨o', hr⟩, br⟩ := hC
      clear h hf
      go_wp2_with fail
      refine (avail_any Y B q kb bb o' [] _ wr hr).mono ?_
      rintro e w1 ⟨rfl, m1, hw1⟩
      have hr1 : BW Y B w1 q kb bb o' [] (S ++ xs ++ ps) := by rw [hw1]; exact hr.draws m1
      have br1 : Below B w w1 := by rw [hw1]; exact br.trans (below_draws _ _ _)
      clear hw1 hr br
      obtain ⟨c0, c1, c2, c3, fz⟩ := hr1.cells
      have c2' : w1.cell? ⟨q, 2, none⟩ = some (.int .i64 0) := c2
      clear c2
      have hr1d : BW Y B w1.drew q kb bb o' [] (S ++ xs ++ ps) := hr1.draws 1
      have hcp := fun d => run_copy_none (P := Tryd.prog) w1.drew 24 24 3 5 d ad' 65536 65536 0 c' Tryd.underlying24 hinfo5 (Nat.zero_min _)
      have hput0 : BW Y B (w1.drew.setCell ⟨q, 2, none⟩ (.int .i64 0)) q kb bb o' [] (S ++ xs ++ ps) := by simpa [Lib.byteCells, World.setCells] using hr1d.puts [] (by simp)
      have hO : Out Y B (w1.drew.setCell ⟨q, 2, none⟩ (.int .i64 0)) q kb bb (S ++ xs ++ ps) := ⟨o', [], _, hput0, by simp⟩
      have hbe : Below B w (w1.drew.setCell ⟨q, 2, none⟩ (.int .i64 0)) := br1.drew.setCell (p := ⟨q, 2, none⟩) hr1.b1 _
      clear hput0 hr1d
      go_wp2_with fail
      go_region_held3 (fun w' => w'.cell? ⟨q, 1, none⟩ = some (.slice (some ⟨kb, 0, none⟩) 65536 65536) ∧ w'.cell? ⟨q, 2, none⟩ = some (.int .i64 0)) (first | exact ⟨c1, c2'⟩ | go_keep) (fail)
      go_wp2_with fail
      go_ret2
      exact ⟨⟨_, rfl⟩, hO, hbe⟩

end Go.Proofs.Qxb6612590aDoor
