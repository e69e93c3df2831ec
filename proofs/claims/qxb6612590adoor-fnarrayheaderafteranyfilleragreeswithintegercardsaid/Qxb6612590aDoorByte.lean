import Derived.Test.Qxb6612590aDoorFlush
namespace Go.Proofs.Qxb6612590aDoor
open Go.RowKit
set_option linter.unusedSimpArgs false
set_option linter.unusedVariables false
attribute [local go_sem ↓] Go.wp_at_zero Go.wp_at_succ

theorem BW.draws {Y : List (Nat × Obj)} {B : Nat} {w : World} {q kb bb : Nat} {o : Option Nat} {xs S : List UInt8} (h : BW Y B w q kb bb o xs S) (m : Nat) : BW Y B (w.drewN m) q kb bb o xs S :=
  ⟨h.blk, h.le, h.rng, h.thr, h.buf, h.ne1, h.ne2, h.ne3, h.ne4, h.ne5, h.kbl, h.b1, h.b2, h.b3, h.b4, h.bw, h.bys⟩

/-! ### Available, Buffered, AvailableBuffer -/
theorem avail_any (Y : List (Nat × Obj)) (B q kb bb : Nat) (o : Option Nat) (xs S : List UInt8) (w : World) (h : BW Y B w q kb bb o xs S) :
    Calls Tryd.prog 33 #[.pointer (some ⟨q, 0, none⟩)] w fun e w' => e = .returned (.int .i64 (65536 - (xs.length : Int))) ∧ ∃ m, w' = w.drewN m := by
  obtain ⟨c0, c1, c2, c3, fz⟩ := h.cells
  have hle := h.le
  obtain ⟨n, hn⟩ : ∃ n, Hid (xs.length = n) := ⟨_, rfl⟩
  rw [hn.out] at c2 hle ⊢
  go_enter Tryd.func33, Tryd.ntmps33
  go_wp2
  go_quiet (fail)
  go_wp2
  go_ret
  exact ⟨by simp, _, rfl⟩

theorem buffered_any (Y : List (Nat × Obj)) (B q kb bb : Nat) (o : Option Nat) (xs S : List UInt8) (w : World) (h : BW Y B w q kb bb o xs S) :
    Calls Tryd.prog 34 #[.pointer (some ⟨q, 0, none⟩)] w fun e w' => e = .returned (.int .i64 (xs.length : Int)) ∧ w' = w := by
  obtain ⟨c0, c1, c2, c3, fz⟩ := h.cells
  go_enter Tryd.func34, Tryd.ntmps34
  go_wp2
  go_ret
  exact ⟨rfl, rfl⟩

theorem availBuf_any (Y : List (Nat × Obj)) (B q kb bb : Nat) (o : Option Nat) (xs S : List UInt8) (w : World) (h : BW Y B w q kb bb o xs S) :
    Calls Tryd.prog 31 #[.pointer (some ⟨q, 0, none⟩)] w fun e w' => (∃ off, e = .returned (.slice (some ⟨kb, off, none⟩) 0 (65536 - xs.length)) ∧ (xs.length < 65536 → off = xs.length)) ∧ ∃ m, w' = w.drewN m := by
  obtain ⟨c0, c1, c2, c3, fz⟩ := h.cells
  have hle := h.le
  obtain ⟨n, hn⟩ : ∃ n, Hid (xs.length = n) := ⟨_, rfl⟩
  rw [hn.out] at c2 hle ⊢
  have i0 : (0 : Int) ≤ (n : Int) := by omega
  have i1 : (n : Int) ≤ 65536 := by omega
  by_cases hf : 65536 = n
  · subst hf
    go_enter Tryd.func31, Tryd.ntmps31
    go_wp2
    go_quiet (fail)
    go_wp2
    go_ret
    exact ⟨⟨_, rfl, fun h => absurd h (by omega)⟩, _, rfl⟩
  · go_enter Tryd.func31, Tryd.ntmps31
    go_wp2
    go_quiet (fail)
    go_wp2
    go_ret
    exact ⟨⟨n, rfl, fun _ => rfl⟩, _, rfl⟩

/-- Of the Writer only this counts: what went out and what lies in the row make O. -/
def Out (Y : List (Nat × Obj)) (B : Nat) (w : World) (q kb bb : Nat) (O : List UInt8) : Prop := ∃ o xs S, BW Y B w q kb bb o xs S ∧ S ++ xs = O

/-! ### WriteByte -/
theorem BW.put {Y : List (Nat × Obj)} {B : Nat} {w : World} {q kb bb : Nat} {o : Option Nat} {xs S : List UInt8} (h : BW Y B w q kb bb o xs S) (c : UInt8) (hlt : xs.length < 65536) :
    BW Y B ((w.setCell ⟨kb, xs.length, none⟩ (.int .u8 (c.toNat : Int))).setCell ⟨q, 2, none⟩ (.int .i64 ((xs.length : Int) + 1))) q kb bb o (xs ++ [c]) S := by
  have e : w.setCell ⟨kb, xs.length, none⟩ (.int .u8 (c.toNat : Int)) = w.setCells kb xs.length (Lib.byteCells [c]) := by simp [Lib.byteCells, World.setCells]
  have hkb : ∀ (W : World), ((W.setCell ⟨q, 2, none⟩ (.int .i64 ((xs.length : Int) + 1))).heap[kb]?) = W.heap[kb]? := fun W => heap_set_other h.ne1
  have hr1 : (w.setCells kb xs.length (Lib.byteCells [c])).rangeAt kb 0 (Lib.byteCells xs) := World.rangeAt_setCells_apart h.rng _ _ _ (by right; left; rw [byteCells_len]; omega)
  have hr2 : (w.setCells kb xs.length (Lib.byteCells [c])).rangeAt kb xs.length (Lib.byteCells [c]) := World.rangeAt_setCells_same _ _ _ _ (fun j hj => by
    have hj0 : j = 0 := by simp [Lib.byteCells] at hj; exact hj
    subst hj0
    have := h.thr xs.length hlt
    simpa using this)
  have hql := heap_lt h.blk
  refine ⟨?_, by simp; omega, ?_, ?_, ?_, h.ne1, h.ne2, h.ne3, h.ne4, h.ne5, by simpa using h.kbl, h.b1, h.b2, h.b3, h.b4, by simpa using h.bw, fun p hp => by
    obtain ⟨e1, n1, n2, n3, n4, n5⟩ := h.bys p hp
    exact ⟨(heap_set_other (Ne.symm n1)).trans ((heap_set_other (Ne.symm n2)).trans e1), n1, n2, n3, n4, by simpa using n5⟩⟩
  · rw [heap_set (by rw [heap_set_other (Ne.symm h.ne1)]; exact h.blk) 2 _]; simp
  · rw [e]
    refine range_block (w := w.setCells kb xs.length (Lib.byteCells [c])) ?_ (hkb _)
    intro j v hj
    rw [byteCells_app, List.getElem?_append] at hj
    split at hj
    · exact hr1 j v hj
    · rename_i hge
      rw [byteCells_len] at hj hge
      have := hr2 (j - xs.length) v hj
      rw [show xs.length + (j - xs.length) = 0 + j by omega] at this
      exact this
  · rw [e]; exact there_block (World.there_setCells h.thr _ _ _) (hkb _)
  · exact bf_block (bf_block h.buf (heap_set_other h.ne3) (fun g e2 => heap_set_other (fun e3 => h.ne5 (by rw [e2, e3])))) (heap_set_other h.ne2) (fun g e2 => heap_set_other (fun e3 => h.ne4 (by rw [e2, e3])))

theorem BW.put_below {Y : List (Nat × Obj)} {B : Nat} {w : World} {q kb bb : Nat} {o : Option Nat} {xs S : List UInt8} (h : BW Y B w q kb bb o xs S) (v u : Value) (k i : Nat) : Below B w ((w.setCell ⟨kb, k, none⟩ v).setCell ⟨q, i, none⟩ u) :=
  ((Below.refl _ _).setCell (p := ⟨kb, k, none⟩) h.b2 _).setCell (p := ⟨q, i, none⟩) h.b1 _

set_option maxHeartbeats 2000000 in
set_option maxRecDepth 100000 in
/-- WriteByte where there is room. -/
theorem byte_room (Y : List (Nat × Obj)) (B q kb bb : Nat) (o : Option Nat) (xs S : List UInt8) (c : UInt8) (t : Int) (ht : (c.toNat : Int) = t) (w : World) (h : BW Y B w q kb bb o xs S) (hlt : xs.length < 65536) :
    Calls Tryd.prog 22 #[.pointer (some ⟨q, 0, none⟩), .int .u8 t] w fun e w' => e = .returned .nilIface ∧ BW Y B w' q kb bb o (xs ++ [c]) S ∧ Below B w w' := by
  obtain ⟨n, hn⟩ : ∃ n, Hid (xs.length = n) := ⟨_, rfl⟩
  obtain ⟨c0, c1, c2, c3, fz⟩ := h.cells
  rw [hn.out] at c2 hlt
  have q1 : decide (65536 - (n : Int) ≤ 0) = false := by simp; omega
  go_enter Tryd.func22, Tryd.ntmps22
  go_wp2_with fail
  refine (avail_any Y B q kb bb o xs S w h).mono ?_
  rintro e w1 ⟨rfl, m, hw1⟩
  rw [hn.out]
  have h1 : BW Y B w1 q kb bb o xs S := by rw [hw1]; exact h.draws m
  have b1 : Below B w w1 := by rw [hw1]; exact below_draws _ _ _
  clear hw1 c0 c1 c2 c3 fz h
  obtain ⟨c0, c1, c2, c3, fz⟩ := h1.cells
  rw [hn.out] at c2
  have h1d : BW Y B w1.drew q kb bb o xs S := h1.draws 1
  have ht1 := h1.thr n (by rw [← hn.out] at hlt ⊢; exact hlt)
  rw [Nat.zero_add] at ht1
  obtain ⟨v0, k0⟩ := Option.isSome_iff_exists.1 ht1.1
  have k1 := ht1.2
  have i0 : (0 : Int) ≤ (n : Int) := by omega
  have i1 : (n : Int) < 65536 := by omega
  have nq := h1.ne1
  have nk : kb ≠ q := Ne.symm nq
  have s1 : ∀ v, (w1.setCell ⟨kb, n, none⟩ v).cell? ⟨q, 1, none⟩ = some (.slice (some ⟨kb, 0, none⟩) 65536 65536) := fun v => by rw [World.cell?_setCell_other _ _ _ _ (fun e => nk (congrArg Addr.block e))]; exact c1
  have s2 : ∀ v, (w1.setCell ⟨kb, n, none⟩ v).cell? ⟨q, 2, none⟩ = some (.int .i64 (n : Int)) := fun v => by rw [World.cell?_setCell_other _ _ _ _ (fun e => nk (congrArg Addr.block e))]; exact c2
  have hput := h1d.put c (by rw [hn.out]; omega)
  rw [hn.out, ht] at hput
  have hbe : ∀ v u, Below B w ((w1.drew.setCell ⟨kb, n, none⟩ v).setCell ⟨q, 2, none⟩ u) := fun v u => b1.drew.trans (h1d.put_below v u n 2)
  go_wp2_with fail
  go_region_held3 (fun w' => w'.cell? ⟨q, 1, none⟩ = some (.slice (some ⟨kb, 0, none⟩) 65536 65536) ∧ w'.cell? ⟨q, 2, none⟩ = some (.int .i64 (n : Int))) (first | exact ⟨c1, c2⟩ | exact ⟨s1 _, s2 _⟩ | go_keep) (fail)
  go_wp2_with fail
  go_ret
  exact ⟨rfl, hput, hbe _ _⟩

end Go.Proofs.Qxb6612590aDoor
