import Derived.Test.Qxb6612590aDoorByte
namespace Go.Proofs.Qxb6612590aDoor
open Go.RowKit
set_option linter.unusedSimpArgs false
set_option linter.unusedVariables false
attribute [local go_sem ↓] Go.wp_at_zero Go.wp_at_succ

theorem BW.kept3 {Y : List (Nat × Obj)} {B : Nat} {w w' : World} {q kb bb : Nat} {o : Option Nat} {xs S : List UInt8} (h : BW Y B w q kb bb o xs S) (hk : Kept3 q bb o w w') : Below B w w' := hk.below h.b1 h.b3 h.b4 h.bw

set_option maxHeartbeats 2000000 in
set_option maxRecDepth 100000 in
/-- WriteByte where the row is full. -/
theorem byte_full (Y : List (Nat × Obj)) (B q kb bb : Nat) (o : Option Nat) (xs S : List UInt8) (c : UInt8) (t : Int) (ht : (c.toNat : Int) = t) (w : World) (h : BW Y B w q kb bb o xs S) (hf : xs.length = 65536) (hlim : S.length ≤ 1048576 * 64) :
    Calls Tryd.prog 22 #[.pointer (some ⟨q, 0, none⟩), .int .u8 t] w fun e w' => e = .returned .nilIface ∧ ∃ o', BW Y B w' q kb bb o' [c] (S ++ xs) ∧ Below B w w' := by
  obtain ⟨c0, c1, c2, c3, fz⟩ := h.cells
  go_enter Tryd.func22, Tryd.ntmps22
  go_wp2_with fail
  refine (avail_any Y B q kb bb o xs S w h).mono ?_
  rintro e w1 ⟨rfl, m, hw1⟩
  rw [hf]
  have h1 : BW Y B w1 q kb bb o xs S := by rw [hw1]; exact h.draws m
  have b1 : Below B w w1 := by rw [hw1]; exact below_draws _ _ _
  clear hw1 c0 c1 c2 c3 fz h
  obtain ⟨c0, c1, c2, c3, fz⟩ := h1.cells
  go_wp2_with fail
  refine (flush_any Y B q kb bb o xs S w1 h1 hlim).mono ?_
  rintro e w2 ⟨rfl, o', h2, ho', hk2⟩
  have b2 : Below B w w2 := b1.trans (h1.kept3 hk2)
  clear c0 c1 c2 c3 fz h1 hk2 ho' b1
  obtain ⟨c0, c1, c2, c3, fz⟩ := h2.cells
  have h2d : BW Y B w2.drew q kb bb o' [] (S ++ xs) := h2.draws 1
  have ht1 := h2.thr 0 (by omega)
  obtain ⟨v0, k0⟩ := Option.isSome_iff_exists.1 ht1.1
  have k1 := ht1.2
  rw [Nat.add_zero] at k0 k1
  have nq := h2.ne1
  have nk : kb ≠ q := Ne.symm nq
  have c2' : w2.cell? ⟨q, 2, none⟩ = some (.int .i64 0) := c2
  have s1 : ∀ v, (w2.setCell ⟨kb, 0, none⟩ v).cell? ⟨q, 1, none⟩ = some (.slice (some ⟨kb, 0, none⟩) 65536 65536) := fun v => by rw [World.cell?_setCell_other _ _ _ _ (fun e => nk (congrArg Addr.block e))]; exact c1
  have s2 : ∀ v, (w2.setCell ⟨kb, 0, none⟩ v).cell? ⟨q, 2, none⟩ = some (.int .i64 0) := fun v => by rw [World.cell?_setCell_other _ _ _ _ (fun e => nk (congrArg Addr.block e))]; exact c2
  have hput : BW Y B ((w2.drew.setCell ⟨kb, 0, none⟩ (.int .u8 t)).setCell ⟨q, 2, none⟩ (.int .i64 1)) q kb bb o' [c] (S ++ xs) := by
    have := h2d.put c (by simp)
    rw [ht] at this
    simpa using this
  have hbe : ∀ v u, Below B w ((w2.drew.setCell ⟨kb, 0, none⟩ v).setCell ⟨q, 2, none⟩ u) := fun v u => b2.drew.trans (h2d.put_below v u 0 2)
  clear c2
  go_wp2_with fail
  go_region_held3 (fun w' => w'.cell? ⟨q, 1, none⟩ = some (.slice (some ⟨kb, 0, none⟩) 65536 65536) ∧ w'.cell? ⟨q, 2, none⟩ = some (.int .i64 0)) (first | exact ⟨c1, c2'⟩ | exact ⟨s1 _, s2 _⟩ | go_keep) (fail)
  go_wp2_with fail
  go_ret
  exact ⟨rfl, o', hput, hbe _ _⟩

/-- WriteByte. -/
theorem byte_any (Y : List (Nat × Obj)) (B q kb bb : Nat) (O : List UInt8) (c : UInt8) (t : Int) (ht : (c.toNat : Int) = t) (w : World) (h : Out Y B w q kb bb O) (hlim : O.length ≤ 1048576 * 4) :
    Calls Tryd.prog 22 #[.pointer (some ⟨q, 0, none⟩), .int .u8 t] w fun e w' => e = .returned .nilIface ∧ Out Y B w' q kb bb (O ++ [c]) ∧ Below B w w' := by
  obtain ⟨o, xs, S, hb, rfl⟩ := h
  rw [List.length_append] at hlim
  by_cases hlt : xs.length < 65536
  · exact (byte_room Y B q kb bb o xs S c t ht w hb hlt).mono fun e w' ⟨he, h1, h2⟩ => ⟨he, ⟨o, xs ++ [c], S, h1, by simp⟩, h2⟩
  · have := hb.le
    exact (byte_full Y B q kb bb o xs S c t ht w hb (by omega) (by omega)).mono fun e w' ⟨he, o', h1, h2⟩ => ⟨he, ⟨o', [c], S ++ xs, h1, by simp⟩, h2⟩

end Go.Proofs.Qxb6612590aDoor
