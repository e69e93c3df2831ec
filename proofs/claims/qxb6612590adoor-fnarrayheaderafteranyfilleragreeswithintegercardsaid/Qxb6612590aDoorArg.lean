import Derived.Test.Qxb6612590aDoorCrlf2
namespace Go.Proofs.Qxb6612590aDoor
open Go.RowKit
set_option linter.unusedSimpArgs false
set_option linter.unusedVariables false
attribute [local go_sem ↓] Go.wp_at_zero Go.wp_at_succ

set_option maxHeartbeats 2000000 in
set_option maxRecDepth 100000 in
/-- Write of no byte. -/
theorem write_empty (Y : List (Nat × Obj)) (B q kb bb : Nat) (o : Option Nat) (xs S : List UInt8) (ad : Option Addr) (cap : Nat) (w : World) (h : BW Y B w q kb bb o xs S) (hlt : xs.length < 65536) :
    Calls Tryd.prog 29 #[.pointer (some ⟨q, 0, none⟩), .slice ad 0 cap] w fun e w' => (∃ v, e = .returned v) ∧ BW Y B w' q kb bb o xs S ∧ Below B w w' := by
  obtain ⟨n, hn⟩ : ∃ n, Hid (xs.length = n) := ⟨_, rfl⟩
  rw [hn.out] at hlt
  go_enter Tryd.func29, Tryd.ntmps29
  go_wp2_with fail
  go_loopw [1, 4] (fun pv nv wr => pv = .slice ad 0 cap ∧ nv = .int .i64 0 ∧ ∃ m, wr = w.drewN m) (fun _ _ _ => 0)
  case atStart => exact ⟨rfl, rfl, 0, rfl⟩
  case round =>
    obtain ⟨rfl, rfl, m, hwr⟩ := hrel
    have hr : BW Y B wr q kb bb o xs S := by rw [hwr]; exact h.draws m
    have br : Below B w wr := by rw [hwr]; exact below_draws _ _ _
    clear hwr h
    have q1 : decide (65536 - (n : Int) < 0) = false := by simp; omega
    go_wp2_with fail
    refine (avail_any Y B q kb bb o xs S wr hr).mono ?_
    rintro e w1 ⟨rfl, m1, hw1⟩
    rw [hn.out]
    have hr1 : BW Y B w1 q kb bb o xs S := by rw [hw1]; exact hr.draws m1
    have br1 : Below B w w1 := by rw [hw1]; exact br.trans (below_draws _ _ _)
    clear hw1 hr br
    obtain ⟨c0, c1, c2, c3, fz⟩ := hr1.cells
    rw [hn.out] at c2
    have hr1d : BW Y B w1.drew q kb bb o xs S := hr1.draws 1
    have hcp := fun d => run_copy_none (P := Tryd.prog) w1.drew 24 24 3 5 d ad (65536 - n) (65536 - n) 0 cap Tryd.underlying24 hinfo5 (Nat.zero_min _)
    have hput0 : BW Y B (w1.drew.setCell ⟨q, 2, none⟩ (.int .i64 (n : Int))) q kb bb o xs S := by
      have := hr1d.puts [] (by rw [hn.out]; simp; omega)
      rw [hn.out] at this
      simpa [Lib.byteCells, World.setCells] using this
    have hbe : Below B w (w1.drew.setCell ⟨q, 2, none⟩ (.int .i64 (n : Int))) := br1.drew.setCell (p := ⟨q, 2, none⟩) hr1.b1 _
    have i0 : (0 : Int) ≤ (n : Int) := by omega
    have i1 : (n : Int) ≤ 65536 := by omega
    have i2 : ¬ 65536 = n := by omega
    go_wp2_with fail
    go_region_held3 (fun w' => w'.cell? ⟨q, 1, none⟩ = some (.slice (some ⟨kb, 0, none⟩) 65536 65536) ∧ w'.cell? ⟨q, 2, none⟩ = some (.int .i64 (n : Int))) (first | exact ⟨c1, c2⟩ | go_keep) (fail)
    go_wp2_with fail
    go_ret2
    exact ⟨⟨_, rfl⟩, hput0, hbe⟩

/-- Write of an argument's bytes (its memory lies below B); something lies in the row, which is not full. -/
theorem write_arg (Y : List (Nat × Obj)) (B q kb bb : Nat) (o : Option Nat) (xs S fs : List UInt8) (ad : Option Addr) (len cap : Nat) (w : World) (h : BW Y B w q kb bb o xs S) (hf : In w ad len cap fs) (hB : 0 < len → ∀ a, ad = some a → a.block < B) (hcap : len ≤ cap) (hcm : cap ≤ 9223372036854775807) (hx : 1 ≤ xs.length) (hlt : xs.length < 65536) (hlim : S.length + xs.length + len ≤ 1048576 * 4) :
    Calls Tryd.prog 29 #[.pointer (some ⟨q, 0, none⟩), .slice ad len cap] w fun e w' => (∃ v, e = .returned v) ∧ Out Y B w' q kb bb (S ++ xs ++ fs) ∧ Below B w w' := by
  have hl := hf.lenEq
  by_cases h0 : len = 0
  · subst h0
    have hfs : fs = [] := List.eq_nil_of_length_eq_zero hl
    subst hfs
    exact (write_empty Y B q kb bb o xs S ad cap w h hlt).mono fun e w' ⟨he, h1, h2⟩ => ⟨he, ⟨o, xs, S, h1, by simp⟩, h2⟩
  · obtain ⟨sb, off, e, c⟩ := hf.reads 0 (by omega)
    subst e
    have hsb : sb < B := hB (by omega) _ rfl
    by_cases hfit : xs.length + len ≤ 65536
    · exact (write_fit Y B q kb bb o xs S fs ⟨sb, off, none⟩ len cap w h hl (by omega) hfit hf.news).mono fun e w' ⟨he, h1, h2⟩ => ⟨he, ⟨o, xs ++ fs, S, h1, by simp⟩, h2⟩
    · have hb1 := h.b1
      have hb2 := h.b2
      have hb3 := h.b3
      have hfar : Far w q kb bb o sb off fs := ⟨fun j u hj => by have := hf.news j u hj; rw [Go.WideShapes.add_plain] at this; exact this, by omega, by omega, by omega, fun e => by have := h.b4 sb e; omega, by have := h.bw; omega⟩
      exact write_over Y B q kb bb sb off o xs S fs len cap w h hfar hl hcap hcm hx (by omega) hlim

end Go.Proofs.Qxb6612590aDoor
