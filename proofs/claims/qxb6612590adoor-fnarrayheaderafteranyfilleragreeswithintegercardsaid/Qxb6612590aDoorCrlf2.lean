import Derived.Test.Qxb6612590aDoorCrlf
namespace Go.Proofs.Qxb6612590aDoor
open Go.RowKit
set_option linter.unusedSimpArgs false
set_option linter.unusedVariables false
attribute [local go_sem ↓] Go.wp_at_zero Go.wp_at_succ

structure PhS (Y : List (Nat × Obj)) (B : Nat) (w wr : World) (q kb bb : Nat) (O : List UInt8) : Prop where
  ex : ∃ o', BW Y B wr q kb bb o' [] O
  bel : Below B w wr

set_option maxHeartbeats 4000000 in
set_option maxRecDepth 100000 in
/-- WriteString("\\r\\n") where there is no room for both: k bytes go first. -/
theorem crlf_over (Y : List (Nat × Obj)) (B q kb bb : Nat) (o : Option Nat) (xs S : List UInt8) (k : Nat) (t : ByteArray) (ht : t = ⟨((#[13, 10] : Array UInt8).toList.drop k).toArray⟩) (hk2 : k < 2) (w : World) (h : BW Y B w q kb bb o xs S) (hk : xs.length + k = 65536) (hlim : S.length ≤ 1048576 * 4) :
    Calls Tryd.prog 23 #[.pointer (some ⟨q, 0, none⟩), .string ⟨#[13, 10]⟩] w fun e w' => (∃ v, e = .returned v) ∧ Out Y B w' q kb bb (S ++ xs ++ [13, 10]) ∧ Below B w w' := by
  obtain ⟨n, hn⟩ : ∃ n, Hid (xs.length = n) := ⟨_, rfl⟩
  rw [hn.out] at hk
  go_enter Tryd.func23, Tryd.ntmps23
  go_wp2_with fail
  go_loopw [1, 6, 7, 8] (fun sv s6 s7 nv wr => s6 = .nilIface ∧ s7 = .bool true ∧ ((sv = .string ⟨#[13, 10]⟩ ∧ nv = .int .i64 0 ∧ ∃ m, wr = w.drewN m) ∨ (sv = .string t ∧ nv = .int .i64 (k : Int) ∧ PhS Y B w wr q kb bb (S ++ xs ++ [13, 10].take k)))) (fun _ _ _ _ wr => left q .nilIface wr)
  case atStart => exact ⟨rfl, rfl, Or.inl ⟨rfl, rfl, 0, rfl⟩⟩
  case round =>
    obtain ⟨rfl, rfl, hrel⟩ := hrel
    rcases hrel with ⟨rfl, rfl, m, hwr⟩ | ⟨rfl, rfl, hB⟩
    · have hr : BW Y B wr q kb bb o xs S := by rw [hwr]; exact h.draws m
      have br : Below B w wr := by rw [hwr]; exact below_draws _ _ _
      have hm0 : Hid (wr.cell? ⟨q, 2, none⟩ = some (.int .i64 (n : Int))) := by show _ = _; rw [hr.cells.2.2.1, hn.out]
      clear hwr h
      have q1 : decide (65536 - (n : Int) < 2) = true := by simp; omega
      have q2 : ((n : Int) == 0) = false := by simp; omega
      go_wp2_with fail
      refine (avail_any Y B q kb bb o xs S wr hr).mono ?_
      rintro e w1 ⟨rfl, m1, hw1⟩
      rw [hn.out]
      have hr1 : BW Y B w1 q kb bb o xs S := by rw [hw1]; exact hr.draws m1
      have br1 : Below B w w1 := by rw [hw1]; exact br.trans (below_draws _ _ _)
      clear hw1 hr br
      obtain ⟨c0, c1, c2, c3, fz⟩ := hr1.cells
      rw [hn.out] at c2
      go_wp2_with fail
      refine (buffered_any Y B q kb bb o xs S w1 hr1).mono ?_
      rintro e w2 ⟨rfl, hw2⟩
      subst w2
      rw [hn.out]
      go_wp2_with fail
      refine (buffered_any Y B q kb bb o xs S w1 hr1).mono ?_
      rintro e w2 ⟨rfl, hw2⟩
      subst w2
      rw [hn.out]
      have hr1d : BW Y B w1.drew q kb bb o xs S := hr1.draws 1
      have hql := heap_lt hr1.blk
      have i0 : (0 : Int) ≤ (n : Int) := by omega
      have i1 : (n : Int) ≤ 65536 := by omega
      have hbW : ∀ vs v, Below B w ((w1.drew.setCells kb n vs).setCell ⟨q, 2, none⟩ v) := fun vs v => (below_setCells hr1.b2 _ _ _ _ br1.drew).setCell (p := ⟨q, 2, none⟩) hr1.b1 _
      have hcase : k = 0 ∨ k = 1 := by omega
      rcases hcase with rfl | rfl
      · have hn65 : n = 65536 := by omega
        subst hn65
        subst ht
        have hcp : ∀ d, (Builtin.copy_ #[24, 9] 3 #[.slice (some ⟨kb, d, none⟩) 0 0, .string ⟨#[13, 10]⟩]).run Tryd.prog w1.drew = .ok (goInt 0) w1.drew := fun d => copy_str w1.drew kb d 0 0 0 ⟨#[13, 10]⟩ rfl (fun j hj => absurd hj (Nat.not_lt_zero _))
        have hput0 : BW Y B (w1.drew.setCell ⟨q, 2, none⟩ (.int .i64 65536)) q kb bb o xs S := by
          have := hr1d.puts [] (by rw [hn.out]; simp)
          rw [hn.out] at this
          simpa [Lib.byteCells, World.setCells] using this
        have hbW1 : Below B w (w1.drew.setCell ⟨q, 2, none⟩ (.int .i64 65536)) := hbW [] _
        clear hbW hr1d
        go_wp2_with fail
        go_region_held3 (fun w' => w'.cell? ⟨q, 1, none⟩ = some (.slice (some ⟨kb, 0, none⟩) 65536 65536) ∧ w'.cell? ⟨q, 2, none⟩ = some (.int .i64 65536)) (first | exact ⟨c1, c2⟩ | go_keep) (fail)
        go_wp2_with fail
        refine (flush_any Y B q kb bb o xs S _ hput0 (by omega)).mono ?_
        rintro e w3 ⟨rfl, o', h3, ho', hk3⟩
        have hB3 : PhS Y B w w3 q kb bb (S ++ xs ++ [13, 10].take 0) := ⟨⟨o', by simpa using h3⟩, hbW1.trans (hput0.kept3 hk3)⟩
        have hm3 : w3.cell? ⟨q, 2, none⟩ = some (.int .i64 0) := h3.cells.2.2.1
        clear hcp hput0 hbW1 c0 c1 c2 c3 fz hr1 br1 hk3 ho' h3
        go_wp2_with fail
        go_roundw
        case rel => exact ⟨rfl, rfl, Or.inr ⟨by first | rfl | simp, by first | rfl | simp, hB3⟩⟩
        case measure =>
          unfold left
          rw [hm0.out, if_pos hm3, if_neg (by simp)]
          simp only [sliceLen]
          omega
      · have i4 : ¬ 65536 = n := by omega
        have hn65 : n = 65535 := by omega
        subst hn65
        subst ht
        have hcp : (Builtin.copy_ #[24, 9] 3 #[.slice (some ⟨kb, 65535, none⟩) 1 1, .string ⟨#[13, 10]⟩]).run Tryd.prog w1.drew = .ok (goInt 1) (w1.drew.setCells kb 65535 (Lib.byteCells [13])) := copy_str w1.drew kb 65535 1 1 1 ⟨#[13, 10]⟩ rfl (fun j hj => by have := hr1d.thr (65535 + j) (by omega); simpa using this)
        have hput : BW Y B ((w1.drew.setCells kb 65535 (Lib.byteCells [13])).setCell ⟨q, 2, none⟩ (.int .i64 65536)) q kb bb o (xs ++ [13]) S := by
          have := hr1d.puts [13] (by rw [hn.out]; simp)
          rw [hn.out] at this
          exact this
        have hbk := (setCells_other (w := w1.drew) (k := 65535) (vs := Lib.byteCells [13]) hr1.ne1 hql).trans hr1.blk
        rw [hn.out] at hbk
        obtain ⟨d0, d1, d2, d3, dz⟩ := qcells hbk
        have hbW1 := hbW (Lib.byteCells [13]) (.int .i64 65536)
        clear hbW hr1d hbk
        generalize w1.drew.setCells kb 65535 (Lib.byteCells [13]) = W at hcp hput d0 d1 d2 d3 dz hbW1
        have d2' : W.cell? ⟨q, 2, none⟩ = some (.int .i64 65535) := d2
        have c2' : w1.cell? ⟨q, 2, none⟩ = some (.int .i64 65535) := c2
        clear d2 c2
        go_wp2_with fail
        go_region_held3 (fun w' => w'.cell? ⟨q, 1, none⟩ = some (.slice (some ⟨kb, 0, none⟩) 65536 65536) ∧ w'.cell? ⟨q, 2, none⟩ = some (.int .i64 65535)) (first | exact ⟨c1, c2'⟩ | exact ⟨d1, d2'⟩ | go_keep) (fail)
        go_wp2_with fail
        refine (flush_any Y B q kb bb o (xs ++ [13]) S _ hput (by omega)).mono ?_
        rintro e w3 ⟨rfl, o', h3, ho', hk3⟩
        have hB3 : PhS Y B w w3 q kb bb (S ++ xs ++ [13, 10].take 1) := ⟨⟨o', by simpa using h3⟩, hbW1.trans (hput.kept3 hk3)⟩
        have hm3 : w3.cell? ⟨q, 2, none⟩ = some (.int .i64 0) := h3.cells.2.2.1
        clear hcp hput hbW1 c0 c1 c2' c3 fz hr1 br1 hk3 ho' h3 d0 d1 d2' d3 dz
        go_wp2_with fail
        go_roundw
        case rel => exact ⟨rfl, rfl, Or.inr ⟨by first | rfl | simp, by first | rfl | simp, hB3⟩⟩
        case measure =>
          unfold left
          rw [hm0.out, if_pos hm3, if_neg (by simp)]
          simp only [sliceLen]
          omega
    · obtain ⟨⟨o', hr⟩, br⟩ := hB
      clear h
      have hcase : k = 0 ∨ k = 1 := by omega
      rcases hcase with rfl | rfl
      · have ht' : t = ⟨#[13, 10]⟩ := ht
        subst ht'
        clear ht
        go_wp2_with fail
        refine (avail_any Y B q kb bb o' [] _ wr hr).mono ?_
        rintro e w1 ⟨rfl, m1, hw1⟩
        have hr1 : BW Y B w1 q kb bb o' [] (S ++ xs ++ [13, 10].take 0) := by rw [hw1]; exact hr.draws m1
        have br1 : Below B w w1 := by rw [hw1]; exact br.trans (below_draws _ _ _)
        clear hw1 hr br
        obtain ⟨c0, c1, c2, c3, fz⟩ := hr1.cells
        have c2' : w1.cell? ⟨q, 2, none⟩ = some (.int .i64 0) := c2
        clear c2
        have hr1d : BW Y B w1.drew q kb bb o' [] (S ++ xs ++ [13, 10].take 0) := hr1.draws 1
        have hql := heap_lt hr1.blk
        have hcp : (Builtin.copy_ #[24, 9] 3 #[.slice (some ⟨kb, 0, none⟩) 65536 65536, .string ⟨#[13, 10]⟩]).run Tryd.prog w1.drew = .ok (goInt 2) (w1.drew.setCells kb 0 (Lib.byteCells [13, 10])) := copy_str w1.drew kb 0 65536 65536 2 ⟨#[13, 10]⟩ rfl (fun j hj => hr1d.thr j (by omega))
        have hput : BW Y B ((w1.drew.setCells kb 0 (Lib.byteCells [13, 10])).setCell ⟨q, 2, none⟩ (.int .i64 2)) q kb bb o' [13, 10] (S ++ xs ++ [13, 10].take 0) := by
          have := hr1d.puts [13, 10] (by simp)
          simpa using this
        have hbk := (setCells_other (w := w1.drew) (k := 0) (vs := Lib.byteCells [13, 10]) hr1.ne1 hql).trans hr1.blk
        obtain ⟨d0, d1, d2, d3, dz⟩ := qcells hbk
        have hbW1 : ∀ v, Below B w ((w1.drew.setCells kb 0 (Lib.byteCells [13, 10])).setCell ⟨q, 2, none⟩ v) := fun v => (below_setCells hr1.b2 _ _ _ _ br1.drew).setCell (p := ⟨q, 2, none⟩) hr1.b1 _
        clear hr1d hbk
        generalize w1.drew.setCells kb 0 (Lib.byteCells [13, 10]) = W at hcp hput d0 d1 d2 d3 dz hbW1
        have d2' : W.cell? ⟨q, 2, none⟩ = some (.int .i64 0) := d2
        clear d2
        have hO : ∀ W', BW Y B W' q kb bb o' [13, 10] (S ++ xs ++ [13, 10].take 0) → Out Y B W' q kb bb (S ++ xs ++ [13, 10]) := fun W' hW' => ⟨o', _, _, hW', by simp⟩
        go_wp2_with fail
        go_region_held3 (fun w' => w'.cell? ⟨q, 1, none⟩ = some (.slice (some ⟨kb, 0, none⟩) 65536 65536) ∧ w'.cell? ⟨q, 2, none⟩ = some (.int .i64 0)) (first | exact ⟨c1, c2'⟩ | exact ⟨d1, d2'⟩ | go_keep) (fail)
        go_wp2_with fail
        go_ret2
        exact ⟨⟨_, rfl⟩, hO _ hput, hbW1 _⟩
      · have ht' : t = ⟨#[10]⟩ := ht
        subst ht'
        clear ht
        go_wp2_with fail
        refine (avail_any Y B q kb bb o' [] _ wr hr).mono ?_
        rintro e w1 ⟨rfl, m1, hw1⟩
        have hr1 : BW Y B w1 q kb bb o' [] (S ++ xs ++ [13, 10].take 1) := by rw [hw1]; exact hr.draws m1
        have br1 : Below B w w1 := by rw [hw1]; exact br.trans (below_draws _ _ _)
        clear hw1 hr br
        obtain ⟨c0, c1, c2, c3, fz⟩ := hr1.cells
        have c2' : w1.cell? ⟨q, 2, none⟩ = some (.int .i64 0) := c2
        clear c2
        have hr1d : BW Y B w1.drew q kb bb o' [] (S ++ xs ++ [13, 10].take 1) := hr1.draws 1
        have hql := heap_lt hr1.blk
        have hcp : (Builtin.copy_ #[24, 9] 3 #[.slice (some ⟨kb, 0, none⟩) 65536 65536, .string ⟨#[10]⟩]).run Tryd.prog w1.drew = .ok (goInt 1) (w1.drew.setCells kb 0 (Lib.byteCells [10])) := copy_str w1.drew kb 0 65536 65536 1 ⟨#[10]⟩ rfl (fun j hj => hr1d.thr j (by omega))
        have hput : BW Y B ((w1.drew.setCells kb 0 (Lib.byteCells [10])).setCell ⟨q, 2, none⟩ (.int .i64 1)) q kb bb o' [10] (S ++ xs ++ [13, 10].take 1) := by
          have := hr1d.puts [10] (by simp)
          simpa using this
        have hbk := (setCells_other (w := w1.drew) (k := 0) (vs := Lib.byteCells [10]) hr1.ne1 hql).trans hr1.blk
        obtain ⟨d0, d1, d2, d3, dz⟩ := qcells hbk
        have hbW1 : ∀ v, Below B w ((w1.drew.setCells kb 0 (Lib.byteCells [10])).setCell ⟨q, 2, none⟩ v) := fun v => (below_setCells hr1.b2 _ _ _ _ br1.drew).setCell (p := ⟨q, 2, none⟩) hr1.b1 _
        clear hr1d hbk
        generalize w1.drew.setCells kb 0 (Lib.byteCells [10]) = W at hcp hput d0 d1 d2 d3 dz hbW1
        have d2' : W.cell? ⟨q, 2, none⟩ = some (.int .i64 0) := d2
        clear d2
        have hO : ∀ W', BW Y B W' q kb bb o' [10] (S ++ xs ++ [13, 10].take 1) → Out Y B W' q kb bb (S ++ xs ++ [13, 10]) := fun W' hW' => ⟨o', _, _, hW', by simp⟩
        go_wp2_with fail
        go_region_held3 (fun w' => w'.cell? ⟨q, 1, none⟩ = some (.slice (some ⟨kb, 0, none⟩) 65536 65536) ∧ w'.cell? ⟨q, 2, none⟩ = some (.int .i64 0)) (first | exact ⟨c1, c2'⟩ | exact ⟨d1, d2'⟩ | go_keep) (fail)
        go_wp2_with fail
        go_ret2
        exact ⟨⟨_, rfl⟩, hO _ hput, hbW1 _⟩

/-- WriteString("\\r\\n"). -/
theorem crlf_any (Y : List (Nat × Obj)) (B q kb bb : Nat) (O : List UInt8) (w : World) (h : Out Y B w q kb bb O) (hlim : O.length ≤ 1048576 * 4) :
    Calls Tryd.prog 23 #[.pointer (some ⟨q, 0, none⟩), .string ⟨#[13, 10]⟩] w fun e w' => (∃ v, e = .returned v) ∧ Out Y B w' q kb bb (O ++ [13, 10]) ∧ Below B w w' := by
  obtain ⟨o, xs, S, hb, rfl⟩ := h
  rw [List.length_append] at hlim
  have hle := hb.le
  by_cases hfit : xs.length + 2 ≤ 65536
  · exact (crlf_fit Y B q kb bb o xs S w hb hfit).mono fun e w' ⟨he, h1, h2⟩ => ⟨he, ⟨o, xs ++ [13, 10], S, h1, by simp⟩, h2⟩
  · exact crlf_over Y B q kb bb o xs S (65536 - xs.length) _ rfl (by omega) w hb (by omega) (by omega)

end Go.Proofs.Qxb6612590aDoor
