import Derived.Test.Qxb6612590aDoorOver
import Derived.Lib.LazyBuf
namespace Go.Proofs.Qxb6612590aDoor
open Go.RowKit
set_option linter.unusedSimpArgs false
set_option linter.unusedVariables false
attribute [local go_sem ↓] Go.wp_at_zero Go.wp_at_succ

theorem size5 (w : World) : (Go.sizeOf 5).run Tryd.prog w = .ok 1 w := by
  obtain ⟨i, hi, _, hs, _⟩ := info5_parts
  simp [sizeOf, typeInfo, hi, hs]

/-- 'copy(dst, s)', s a string: as many bytes as go. -/
theorem copy_str (w : World) (b o dLen dCap m : Nat) (t : ByteArray) (hm : Nat.min t.size dLen = m)
    (hc : ∀ j, j < m → (w.cell? ⟨b, o + j, none⟩).isSome = true ∧ w.frozen? ⟨b, o + j, none⟩ = false) :
    (Builtin.copy_ #[24, 9] 3 #[.slice (some ⟨b, o, none⟩) dLen dCap, .string t]).run Tryd.prog w = .ok (goInt m) (w.setCells b o (Lib.byteCells (t.data.toList.take m))) := by
  have hl : (Lib.byteCells (t.data.toList.take m)).length = m := by
    rw [byteCells_len, List.length_take]
    have h1 : m ≤ t.size := by rw [← hm]; exact Nat.min_le_left _ _
    have h2 : t.size = t.data.toList.length := Lib.size_eq t
    omega
  have hst := run_storeCells_cells (P := Tryd.prog) b o (Lib.byteCells (t.data.toList.take m)) 0 w (by rw [hl]; intro j hj; simpa using (hc j hj).1) (by rw [hl]; intro j hj; simpa using (hc j hj).2) (one_byteCells _)
  have e : List.take m (List.map (fun b : UInt8 => Value.int IntKind.u8 (b.toNat : Int)) t.data.toList) = Lib.byteCells (t.data.toList.take m) := by simp [Lib.byteCells]
  simp [Builtin.copy_, run_underlying Tryd.underlying24, Builtin.lenOf, Builtin.firstCells, size5, hm]
  rw [← List.map_take] at *
  rw [show List.map (fun b : UInt8 => Value.int IntKind.u8 (b.toNat : Int)) (List.take m t.data.toList) = Lib.byteCells (t.data.toList.take m) from rfl, hst]
  rfl

set_option maxHeartbeats 2000000 in
set_option maxRecDepth 100000 in
/-- WriteString("\\r\\n") where there is room. -/
theorem crlf_fit (Y : List (Nat × Obj)) (B q kb bb : Nat) (o : Option Nat) (xs S : List UInt8) (w : World) (h : BW Y B w q kb bb o xs S) (hfit : xs.length + 2 ≤ 65536) :
    Calls Tryd.prog 23 #[.pointer (some ⟨q, 0, none⟩), .string ⟨#[13, 10]⟩] w fun e w' => (∃ v, e = .returned v) ∧ BW Y B w' q kb bb o (xs ++ [13, 10]) S ∧ Below B w w' := by
  obtain ⟨n, hn⟩ : ∃ n, Hid (xs.length = n) := ⟨_, rfl⟩
  rw [hn.out] at hfit
  go_enter Tryd.func23, Tryd.ntmps23
  go_wp2_with fail
  go_loopw [1, 6, 7, 8] (fun sv s6 s7 nv wr => sv = .string ⟨#[13, 10]⟩ ∧ s6 = .nilIface ∧ s7 = .bool true ∧ nv = .int .i64 0 ∧ ∃ m, wr = w.drewN m) (fun _ _ _ _ _ => 0)
  case atStart => exact ⟨rfl, rfl, rfl, rfl, 0, rfl⟩
  case round =>
    obtain ⟨rfl, rfl, rfl, rfl, m, hwr⟩ := hrel
    have hr : BW Y B wr q kb bb o xs S := by rw [hwr]; exact h.draws m
    have br : Below B w wr := by rw [hwr]; exact below_draws _ _ _
    clear hwr h
    have q1 : decide (65536 - (n : Int) < 2) = false := by simp; omega
    go_wp2_with fail
    refine (avail_any Y B q kb bb o xs S wr hr).mono ?_
    rintro e w1 ⟨rfl, m1, hw1⟩
    rw [hn.out]
    have hr1 : BW Y B w1 q kb bb o xs S := by rw [hw1]; exact hr.draws m1
    have br1 : Below B w w1 := by rw [hw1]; exact br.trans (below_draws _ _ _)
    clear hw1 hr br
    obtain ⟨c0, c1, c2, c3, fz⟩ := hr1.cells
    rw [hn.out] at c2
    have hr1d : BW Y B w1.drew q kb bb o xs S := hr1.draws 1
    have hql := heap_lt hr1.blk
    have hcp := copy_str w1.drew kb n (65536 - n) (65536 - n) 2 ⟨#[13, 10]⟩ (Nat.min_eq_left (by show 2 ≤ _; omega)) (fun j hj => by have := hr1d.thr (n + j) (by omega); simpa using this)
    have hput := hr1d.puts [13, 10] (by rw [hn.out]; exact hfit)
    rw [hn.out] at hput
    have hput' : BW Y B ((w1.drew.setCells kb n (Lib.byteCells ((⟨#[13, 10]⟩ : ByteArray).data.toList.take 2))).setCell ⟨q, 2, none⟩ (.int .i64 ((n : Int) + 2))) q kb bb o (xs ++ [13, 10]) S := hput
    have hbk := (setCells_other (w := w1.drew) (k := n) (vs := Lib.byteCells ((⟨#[13, 10]⟩ : ByteArray).data.toList.take 2)) hr1.ne1 hql).trans hr1.blk
    rw [hn.out] at hbk
    obtain ⟨d0, d1, d2, d3, dz⟩ := qcells hbk
    have hbe : ∀ v, Below B w ((w1.drew.setCells kb n (Lib.byteCells ((⟨#[13, 10]⟩ : ByteArray).data.toList.take 2))).setCell ⟨q, 2, none⟩ v) := fun v => (below_setCells hr1.b2 _ _ _ _ br1.drew).setCell (p := ⟨q, 2, none⟩) hr1.b1 _
    have i0 : (0 : Int) ≤ (n : Int) := by omega
    have i1 : (n : Int) ≤ 65536 := by omega
    have i2 : ¬ 65536 = n := by omega
    clear hput hbk
    generalize w1.drew.setCells kb n (Lib.byteCells ((⟨#[13, 10]⟩ : ByteArray).data.toList.take 2)) = W at hcp hput' hbe d0 d1 d2 d3 dz
    go_wp2_with fail
    go_region_held3 (fun w' => w'.cell? ⟨q, 1, none⟩ = some (.slice (some ⟨kb, 0, none⟩) 65536 65536) ∧ w'.cell? ⟨q, 2, none⟩ = some (.int .i64 (n : Int))) (first | exact ⟨c1, c2⟩ | exact ⟨d1, d2⟩ | go_keep) (fail)
    go_wp2_with fail
    go_ret2
    exact ⟨⟨_, rfl⟩, hput', hbe _⟩

end Go.Proofs.Qxb6612590aDoor
