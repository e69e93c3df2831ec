import Derived.Test.Qxb6612590aDoorBuf
namespace Go.Proofs.Qxb6612590aDoor
open Go.RowKit
set_option linter.unusedSimpArgs false
set_option linter.unusedVariables false
attribute [local go_sem ↓] Go.wp_at_zero Go.wp_at_succ

theorem Kept.alloc {b : Nat} {w w' : World} (h : Kept b w w') (o : Obj) : Kept b w (w'.alloc o) :=
  ⟨h.os, h.tape, h.output, by rw [Deep.nblk_alloc]; have := h.size; omega, fun k hk hb => (Deep.blk_alloc_lt _ _ _ (Nat.lt_of_lt_of_le hk h.size)).trans (h.block k hk hb)⟩

theorem make64 (n : Nat) (hn : n ≤ 64) (w : World) : (Instr.makeSlice 24 (.int .i64 (n : Int)) (.int .i64 64)).run Tryd.prog w = .ok (.slice (some ⟨w.heap.size, 0, none⟩) n 64) (w.alloc (.cells (madeCells #[.int .u8 0] 64) 5)) := by
  obtain ⟨i, hi, hz, hs, hb⟩ := info5_parts
  have hr := run_make (P := Tryd.prog) w 24 5 i _ Tryd.underlying24 hi hz .i64 .i64 n 64 (by omega) (by omega) (by rw [hb]; omega) (by omega)
  simp only [Int.toNat_natCast, hs, Value.cells] at hr
  simpa using hr

set_option maxHeartbeats 2000000 in
set_option maxRecDepth 100000 in
theorem grow_nil_small (b n : Nat) (lr : Int) (w : World) (hbk : w.heap[b]? = some (.cells #[.slice none 0 0, .int .i64 0, .int .i8 lr] 45 (0, 0))) (hn : 1 ≤ n) (h64 : n ≤ 64) :
    Calls Tryd.prog 84 #[.pointer (some ⟨b, 0, none⟩), .int .i64 n] w fun e w' => e = .returned (.int .i64 ((0 : Nat) : Int)) ∧ Grown w w' b w.heap.size 0 n lr [] := by
  have hnil := fun wx => Lib.run_eql_slice_nil (P := Tryd.prog) wx 24 5 none 0 0 0 0 Tryd.underlying24
  have hmk := make64 n h64
  have hb := heap_lt hbk
  have c0 : w.cell? ⟨b, 0, none⟩ = some (.slice none 0 0) := by rw [heap_cell hbk]; rfl
  have c1 : w.cell? ⟨b, 1, none⟩ = some (.int .i64 0) := by rw [heap_cell hbk]; rfl
  go_enter Tryd.func84, Tryd.ntmps84
  go_wp2_with fail
  refine (blen_any b 0 0 _ w c0 c1 (by omega)).mono ?_
  rintro e w1 ⟨rfl, m, hw1⟩
  have hh : w1.heap = w.heap := by rw [hw1]; rfl
  have hk1 : Below w.heap.size w w1 := by rw [hw1]; exact below_draws _ _ _
  have hbk1 : w1.heap[b]? = some (.cells #[.slice none 0 0, .int .i64 0, .int .i8 lr] 45 (0, 0)) := by rw [hh]; exact hbk
  have hs1 : Hid (w1.heap.size = w.heap.size) := by show _ = _; rw [hh]
  clear hw1 hh c0 c1 hbk
  have c0 : w1.cell? ⟨b, 0, none⟩ = some (.slice none 0 0) := by rw [heap_cell hbk1]; rfl
  have c1 : w1.cell? ⟨b, 1, none⟩ = some (.int .i64 0) := by rw [heap_cell hbk1]; rfl
  have q0 : decide ((n : Int) ≤ 64) = true := by simp; omega
  go_wp2_with fail
  refine (Tryd.Buffer_tryGrow_none b _ 0 0 n _ c0 (by omega) (by unfold maxLen; omega) (by omega)).mono ?_
  rintro e w2 ⟨rfl, hw⟩
  subst w2
  have hb1 := heap_lt hbk1
  have hal : ∀ o, (w1.alloc o).heap[b]? = some (.cells #[.slice none 0 0, .int .i64 0, .int .i8 lr] 45 (0, 0)) := fun o => (Deep.blk_alloc_lt _ _ _ hb1).trans hbk1
  have k0 : ∀ o, (w1.alloc o).cell? ⟨b, 0, none⟩ = some (.slice none 0 0) := fun o => by rw [heap_cell (hal o)]; rfl
  have e0 : ∀ o, (w1.alloc o).frozen? ⟨b, 0, none⟩ = false := fun o => heap_frozen (hal o) 0
  go_wp2_with fail
  go_ret
  refine ⟨rfl, ⟨64, madeCells #[.int .u8 0] 64, ?_, ?_, size_madeCells _ _, rfl, by omega, by unfold maxLen; omega⟩, ?_, Nat.le_refl _⟩
  · rw [Deep.blk_alloc_lt _ _ _ (by simpa using hb1), heap_set hbk1 0 _, hs1.out, Nat.zero_add]; rfl
  · have hz : (w1.setCell ⟨b, 0, none⟩ (.slice (some ⟨w1.heap.size, 0, none⟩) n 64)).heap.size = w.heap.size := by rw [← hs1.out]; simp
    rw [← hz]; exact Deep.blk_alloc_new _ _
  · exact ((Kept.of_below (b := b) hk1).set 0 _).alloc _

/-- The Buffer at b holds S; o: its own row. -/
def Bf (w : World) (b : Nat) (o : Option Nat) (S : List UInt8) : Prop := ∃ lr : Int, match o with
  | none => S = [] ∧ w.heap[b]? = some (.cells #[.slice none 0 0, .int .i64 0, .int .i8 lr] 45 (0, 0))
  | some g => 1 ≤ S.length ∧ g ≠ b ∧ ∃ cap cur, w.heap[b]? = some (.cells #[.slice (some ⟨g, 0, none⟩) S.length cap, .int .i64 0, .int .i8 lr] 45 (0, 0)) ∧ w.heap[g]? = some (.cells cur 5 (0, 0)) ∧ cur.size = cap ∧ S.length ≤ cap ∧ cap ≤ maxLen ∧ cur.toList.take S.length = Lib.byteCells S

/-- All that was there stands, but block b and the row o. -/
structure Kept2 (b : Nat) (o : Option Nat) (w w' : World) : Prop where
  os : w'.os = w.os
  tape : w'.tape = w.tape
  output : w'.output = w.output
  size : w.heap.size ≤ w'.heap.size
  block : ∀ k, k < w.heap.size → k ≠ b → o ≠ some k → w'.heap[k]? = w.heap[k]?

theorem Kept.two {b : Nat} {w w' : World} (h : Kept b w w') (o : Option Nat) : Kept2 b o w w' := ⟨h.os, h.tape, h.output, h.size, fun k hk hb _ => h.block k hk hb⟩

theorem copy_end {w W : World} {b g l n cap : Nat} {lr : Int} {cells : Array Value} {S xs : List UInt8} {o : Option Nat} (hbk : W.heap[b]? = some (.cells #[.slice (some ⟨g, 0, none⟩) (l + n) cap, .int .i64 0, .int .i8 lr] 45 (0, 0))) (hg : W.heap[g]? = some (.cells cells 5 (0, 0)))
    (hcs : cells.size = cap) (htk : cells.toList.take l = Lib.byteCells S) (hle : l + n ≤ cap) (hcm : cap ≤ maxLen) (hl : S.length = l) (hn : xs.length = n) (hn1 : 1 ≤ n) (hgb : g ≠ b) (hk : Kept b w W) (hog : o = some g ∨ w.heap.size ≤ g) :
    Bf (W.setRow g (cells.toList.take l ++ Lib.byteCells xs ++ cells.toList.drop (l + (Lib.byteCells xs).length)).toArray) b (some g) (S ++ xs) ∧ Kept2 b o w (W.setRow g (cells.toList.take l ++ Lib.byteCells xs ++ cells.toList.drop (l + (Lib.byteCells xs).length)).toArray) := by
  have hlen : (S ++ xs).length = l + n := by rw [List.length_append, hl, hn]
  have hbl : (Lib.byteCells xs).length = n := by rw [byteCells_len, hn]
  have htl : (cells.toList.take l).length = l := by rw [htk, byteCells_len, hl]
  refine ⟨⟨lr, ?_⟩, hk.os, hk.tape, hk.output, by have := hk.size; simpa using this, fun k hk1 hk2 hk3 => ?_⟩
  · show 1 ≤ (S ++ xs).length ∧ g ≠ b ∧ _
    refine ⟨by omega, hgb, cap, _, ?_, setRow_heap W g _ _ 5 (0, 0) hg, ?_, by omega, hcm, ?_⟩
    · rw [setRow_other _ _ _ _ (Ne.symm hgb), hlen]; exact hbk
    · simp [hbl, hcs]; omega
    · rw [hlen, List.toList_toArray, List.take_append_of_le_length (by rw [List.length_append, htl, hbl]; omega), List.take_of_length_le (by rw [List.length_append, htl, hbl]; omega), htk, byteCells_app]
  · have : k ≠ g := by
      rcases hog with h | h
      · intro e; subst e; exact hk3 h
      · omega
    rw [setRow_other _ _ _ _ this]; exact hk.block k hk1 hk2

theorem hinfo5 : (Tryd.prog.info? 5).map (·.size) = some 1 := by
  obtain ⟨i, hi, _, hs, _⟩ := info5_parts
  rw [hi]; simp [hs]

theorem ne_add {a : Addr} {j b : Nat} (h : a.block ≠ b) : (a.add j).block ≠ b := by
  unfold Addr.add; split <;> exact h

theorem cell_kept {b : Nat} {w W : World} (h : Kept b w W) {a : Addr} {v : Value} (hc : w.cell? a = some v) (hb : a.block ≠ b) : W.cell? a = some v := by
  have hl := World.block_lt_of_cell? _ _ hc
  have := h.block a.block hl hb
  simp only [World.cell?] at hc ⊢
  rw [this]; exact hc

set_option maxHeartbeats 2000000 in
set_option maxRecDepth 100000 in
theorem bwrite_row (b g cap n c : Nat) (lr : Int) (cur : Array Value) (S xs : List UInt8) (a : Addr) (w : World) (hn : xs.length = n) (hn1 : 1 ≤ n) (hS1 : 1 ≤ S.length) (hgb : g ≠ b)
    (hbk : w.heap[b]? = some (.cells #[.slice (some ⟨g, 0, none⟩) S.length cap, .int .i64 0, .int .i8 lr] 45 (0, 0))) (hg : w.heap[g]? = some (.cells cur 5 (0, 0))) (hcs : cur.size = cap) (hlc : S.length ≤ cap) (hcm : cap ≤ maxLen) (htk : cur.toList.take S.length = Lib.byteCells S)
    (hsrc : ∀ j u, (Lib.byteCells xs)[j]? = some u → w.cell? (a.add j) = some u) (hab : a.block ≠ b) (hlim : S.length + n ≤ 140737488355328) :
    Calls Tryd.prog 81 #[.pointer (some ⟨b, 0, none⟩), .slice (some a) n c] w fun e w' => e = .returned (.tuple #[.int .i64 (n : Int), .nilIface]) ∧ ∃ o', Bf w' b o' (S ++ xs) ∧ (o' = some g ∨ ∃ g', o' = some g' ∧ w.heap.size ≤ g') ∧ Kept2 b (some g) w w' := by
  obtain ⟨l, hl⟩ : ∃ l, Hid (S.length = l) := ⟨_, rfl⟩
  rw [hl.out] at hbk hlc htk hlim hS1
  have hb := heap_lt hbk
  have hglt := heap_lt hg
  have c2 : w.cell? ⟨b, 2, none⟩ = some (.int .i8 lr) := by rw [heap_cell hbk]; rfl
  have f2 := heap_frozen hbk 2
  have hbk1 : (w.setCell ⟨b, 2, none⟩ (.int .i8 0)).heap[b]? = some (.cells #[.slice (some ⟨g, 0, none⟩) l cap, .int .i64 0, .int .i8 0] 45 (0, 0)) := by rw [heap_set hbk 2 _]; rfl
  have hg1 : (w.setCell ⟨b, 2, none⟩ (.int .i8 0)).heap[g]? = some (.cells cur 5 (0, 0)) := by rw [heap_set_other (Ne.symm hgb)]; exact hg
  have kp1 : Kept b w (w.setCell ⟨b, 2, none⟩ (.int .i8 0)) := (Kept.of_below (Below.refl _ _)).set 2 _
  have c0 : (w.setCell ⟨b, 2, none⟩ (.int .i8 0)).cell? ⟨b, 0, none⟩ = some (.slice (some ⟨g, 0, none⟩) l cap) := by rw [heap_cell hbk1]; rfl
  have f0 := heap_frozen hbk1 0
  have hcm' := hcm
  unfold maxLen at hcm'
  by_cases hroom : n ≤ cap - l
  · go_enter Tryd.func81, Tryd.ntmps81
    go_wp2_with fail
    refine (Tryd.Buffer_tryGrow_room b _ l cap n _ c0 f0 hlc hcm hroom).mono ?_
    rintro e W ⟨rfl, hW⟩
    have hbkW : W.heap[b]? = some (.cells #[.slice (some ⟨g, 0, none⟩) (l + n) cap, .int .i64 0, .int .i8 0] 45 (0, 0)) := by rw [hW, heap_set hbk1 0 _]; rfl
    have hgW : W.heap[g]? = some (.cells cur 5 (0, 0)) := by rw [hW, heap_set_other (Ne.symm hgb)]; exact hg1
    have kpW : Kept b w W := by rw [hW]; exact kp1.set 0 _
    clear hW c0 f0 hbk1 hg1 kp1 c2 f2 hbk hg
    have d0 : W.cell? ⟨b, 0, none⟩ = some (.slice (some ⟨g, 0, none⟩) (l + n) cap) := by rw [heap_cell hbkW]; rfl
    have hsrcW : ∀ j u, (Lib.byteCells xs)[j]? = some u → W.cell? (a.add j) = some u := fun j u hj => cell_kept kpW (hsrc j u hj) (ne_add hab)
    have hcp := run_copy_row (P := Tryd.prog) W 24 24 3 5 g l n (cap - l) a n c cur 5 (Lib.byteCells xs) Tryd.underlying24 hinfo5 hgW (by rw [byteCells_len, hn]; exact (Nat.min_self n).symm) hsrcW (by rw [byteCells_len, hn, hcs]; omega) (one_byteCells xs)
    have hend := copy_end (o := some g) hbkW hgW hcs htk (by omega) hcm hl.out hn hn1 hgb kpW (Or.inl rfl)
    rw [byteCells_len, hn] at hcp hend
    generalize (List.take l cur.toList ++ Lib.byteCells xs ++ List.drop (l + n) cur.toList).toArray = Y at hcp hend
    clear hsrcW hsrc hgW hbkW
    go_wp2_with fail
    go_ret2
    exact ⟨rfl, some g, hend.1, Or.inl rfl, hend.2⟩
  · have hone : ∀ v ∈ cur.toList.take l, v.oneCell' = true := by rw [htk]; exact one_byteCells S
    have hsz1 : (w.setCell ⟨b, 2, none⟩ (.int .i8 0)).heap.size = w.heap.size := by simp
    go_enter Tryd.func81, Tryd.ntmps81
    go_wp2_with fail
    refine (Tryd.Buffer_tryGrow_none b _ l cap n _ c0 hlc hcm (by omega)).mono ?_
    rintro e W0 ⟨rfl, hW0⟩
    subst W0
    go_wp2_with fail
    refine (grow_row b g l cap n 0 cur _ hbk1 hg1 hlc hcs hone hS1 hn1 (by omega) hlim).mono ?_
    rintro e W ⟨rfl, hG⟩
    obtain ⟨⟨cap2, cells, hbkW, hgW, hcs2, htk2, hle2, hcm2⟩, kpW0, -⟩ := hG
    have kpW : Kept b w W := kp1.trans kpW0
    clear c0 f0 hbk1 hg1 kp1 c2 f2 hbk hg kpW0
    rw [hsz1] at hbkW hgW
    have d0 : W.cell? ⟨b, 0, none⟩ = some (.slice (some ⟨w.heap.size, 0, none⟩) (l + n) cap2) := by rw [heap_cell hbkW]; rfl
    have hsrcW : ∀ j u, (Lib.byteCells xs)[j]? = some u → W.cell? (a.add j) = some u := fun j u hj => cell_kept kpW (hsrc j u hj) (ne_add hab)
    have hcp := run_copy_row (P := Tryd.prog) W 24 24 3 5 w.heap.size l n (cap2 - l) a n c cells 5 (Lib.byteCells xs) Tryd.underlying24 hinfo5 hgW (by rw [byteCells_len, hn]; exact (Nat.min_self n).symm) hsrcW (by rw [byteCells_len, hn, hcs2]; omega) (one_byteCells xs)
    have hend := copy_end (o := some g) hbkW hgW hcs2 (htk2.trans htk) (by omega) hcm2 hl.out hn hn1 (by omega) kpW (Or.inr (Nat.le_refl _))
    rw [byteCells_len, hn] at hcp hend
    generalize (List.take l cells.toList ++ Lib.byteCells xs ++ List.drop (l + n) cells.toList).toArray = Y at hcp hend
    have hcm3 := hcm2
    unfold maxLen at hcm3
    clear hsrcW hsrc hgW hbkW htk2
    go_wp2_with fail
    go_ret2
    exact ⟨rfl, some w.heap.size, hend.1, Or.inr ⟨_, rfl, Nat.le_refl _⟩, hend.2⟩

set_option maxHeartbeats 2000000 in
set_option maxRecDepth 100000 in
theorem bwrite_nil (b n c : Nat) (lr : Int) (xs : List UInt8) (a : Addr) (w : World) (hn : xs.length = n) (hn1 : 1 ≤ n)
    (hbk : w.heap[b]? = some (.cells #[.slice none 0 0, .int .i64 0, .int .i8 lr] 45 (0, 0)))
    (hsrc : ∀ j u, (Lib.byteCells xs)[j]? = some u → w.cell? (a.add j) = some u) (hab : a.block ≠ b) (hlim : n ≤ 140737488355328) :
    Calls Tryd.prog 81 #[.pointer (some ⟨b, 0, none⟩), .slice (some a) n c] w fun e w' => e = .returned (.tuple #[.int .i64 (n : Int), .nilIface]) ∧ ∃ o', Bf w' b o' xs ∧ (o' = none ∨ ∃ g', o' = some g' ∧ w.heap.size ≤ g') ∧ Kept2 b none w w' := by
  have hb := heap_lt hbk
  have c2 : w.cell? ⟨b, 2, none⟩ = some (.int .i8 lr) := by rw [heap_cell hbk]; rfl
  have f2 := heap_frozen hbk 2
  have hbk1 : (w.setCell ⟨b, 2, none⟩ (.int .i8 0)).heap[b]? = some (.cells #[.slice none 0 0, .int .i64 0, .int .i8 0] 45 (0, 0)) := by rw [heap_set hbk 2 _]; rfl
  have kp1 : Kept b w (w.setCell ⟨b, 2, none⟩ (.int .i8 0)) := (Kept.of_below (Below.refl _ _)).set 2 _
  have c0 : (w.setCell ⟨b, 2, none⟩ (.int .i8 0)).cell? ⟨b, 0, none⟩ = some (.slice none 0 0) := by rw [heap_cell hbk1]; rfl
  have hsz1 : (w.setCell ⟨b, 2, none⟩ (.int .i8 0)).heap.size = w.heap.size := by simp
  have hgrow : Calls Tryd.prog 84 #[.pointer (some ⟨b, 0, none⟩), .int .i64 n] (w.setCell ⟨b, 2, none⟩ (.int .i8 0)) fun e w' => e = .returned (.int .i64 ((0 : Nat) : Int)) ∧ Grown (w.setCell ⟨b, 2, none⟩ (.int .i8 0)) w' b (w.setCell ⟨b, 2, none⟩ (.int .i8 0)).heap.size 0 n 0 [] := by
    by_cases h64 : n ≤ 64
    · exact grow_nil_small b n 0 _ hbk1 hn1 h64
    · exact grow_nil_big b n 0 _ hbk1 (by omega) hlim
  go_enter Tryd.func81, Tryd.ntmps81
  go_wp2_with fail
  refine (Tryd.Buffer_tryGrow_none b _ 0 0 n _ c0 (by omega) (by unfold maxLen; omega) (by omega)).mono ?_
  rintro e W0 ⟨rfl, hW0⟩
  subst W0
  go_wp2_with fail
  refine hgrow.mono ?_
  rintro e W ⟨rfl, hG⟩
  obtain ⟨⟨cap2, cells, hbkW, hgW, hcs2, htk2, hle2, hcm2⟩, kpW0, -⟩ := hG
  have kpW : Kept b w W := kp1.trans kpW0
  clear c0 hbk1 kp1 c2 f2 hbk kpW0 hgrow
  rw [hsz1] at hbkW hgW
  have d0 : W.cell? ⟨b, 0, none⟩ = some (.slice (some ⟨w.heap.size, 0, none⟩) n cap2) := by rw [heap_cell hbkW]; simp
  have hsrcW : ∀ j u, (Lib.byteCells xs)[j]? = some u → W.cell? (a.add j) = some u := fun j u hj => cell_kept kpW (hsrc j u hj) (ne_add hab)
  have hcp := run_copy_row (P := Tryd.prog) W 24 24 3 5 w.heap.size 0 n cap2 a n c cells 5 (Lib.byteCells xs) Tryd.underlying24 hinfo5 hgW (by rw [byteCells_len, hn]; exact (Nat.min_self n).symm) hsrcW (by rw [byteCells_len, hn, hcs2]; omega) (one_byteCells xs)
  have hend := copy_end (o := none) (S := []) hbkW hgW hcs2 htk2 (by omega) hcm2 rfl hn hn1 (by omega) kpW (Or.inr (Nat.le_refl _))
  rw [byteCells_len, hn] at hcp hend
  rw [List.nil_append] at hend
  generalize (List.take 0 cells.toList ++ Lib.byteCells xs ++ List.drop (0 + n) cells.toList).toArray = Y at hcp hend
  have hcm3 := hcm2
  unfold maxLen at hcm3
  clear hsrcW hsrc hgW hbkW htk2
  go_wp2_with fail
  go_ret2
  exact ⟨rfl, some w.heap.size, hend.1, Or.inr ⟨_, rfl, Nat.le_refl _⟩, hend.2⟩

/-- (*bytes.Buffer).Write: the bytes are appended; all but the Buffer and its row stands. -/
theorem bwrite_any (b n c : Nat) (o : Option Nat) (S xs : List UInt8) (a : Addr) (w : World) (hB : Bf w b o S) (hn : xs.length = n) (hn1 : 1 ≤ n)
    (hsrc : ∀ j u, (Lib.byteCells xs)[j]? = some u → w.cell? (a.add j) = some u) (hab : a.block ≠ b) (hlim : S.length + n ≤ 140737488355328) :
    Calls Tryd.prog 81 #[.pointer (some ⟨b, 0, none⟩), .slice (some a) n c] w fun e w' => e = .returned (.tuple #[.int .i64 (n : Int), .nilIface]) ∧ ∃ o', Bf w' b o' (S ++ xs) ∧ (o' = o ∨ ∃ g', o' = some g' ∧ w.heap.size ≤ g') ∧ Kept2 b o w w' := by
  obtain ⟨lr, h⟩ := hB
  cases o with
  | none =>
    obtain ⟨rfl, hbk⟩ := h
    rw [List.nil_append]
    exact bwrite_nil b n c lr xs a w hn hn1 hbk hsrc hab (by simpa using hlim)
  | some g =>
    obtain ⟨hS1, hgb, cap, cur, hbk, hg, hcs, hlc, hcm, htk⟩ := h
    exact bwrite_row b g cap n c lr cur S xs a w hn hn1 hS1 hgb hbk hg hcs hlc hcm htk hsrc hab hlim

end Go.Proofs.Qxb6612590aDoor
