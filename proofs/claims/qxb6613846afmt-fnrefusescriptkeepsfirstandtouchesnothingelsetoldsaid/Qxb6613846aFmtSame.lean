import Derived.Test.Qxb6613846aFmtNew
namespace Go.Proofs.Qxb6613846aFmt
open Go.RowKit
set_option linter.unusedSimpArgs false
set_option linter.unusedVariables false

theorem Scr.more {w : World} {p : Nat} {n u : ByteArray} {ca : Option Addr} {cl cc : Nat} {oa : Option Addr} {ol oc : Nat} {nx fl : Int} {rv : Value} (h : Scr w p n u ca cl cc oa ol oc nx fl rv) :
    w.cell? ⟨p, 0, none⟩ = some (.string n) ∧ w.cell? ⟨p, 1, none⟩ = some (.string u) ∧ w.cell? ⟨p, 3, none⟩ = some (.slice oa ol oc) ∧ w.cell? ⟨p, 4, none⟩ = some (.int .i64 nx) := by
  have h' := h
  unfold Scr at h'
  exact ⟨by simp [World.cell?, h'], by simp [World.cell?, h'], by simp [World.cell?, h'], by simp [World.cell?, h']⟩

section
variable (p : Nat) (n u : ByteArray) (ca : Option Addr) (cl cc : Nat) (oa : Option Addr) (ol oc : Nat) (nx fl : Int) (rv : Value) (w : World)
theorem name_any (hs : Scr w p n u ca cl cc oa ol oc nx fl rv) : Calls Tryf.prog 16 #[.pointer (some ⟨p, 0, none⟩)] w fun e w' => e = .returned (.string n) ∧ w' = w := by
  obtain ⟨s0, s1, s3, s4⟩ := hs.more
  go_enter Tryf.func16, Tryf.ntmps16
  go_wp2_with fail
  go_ret
  exact ⟨rfl, rfl⟩
theorem unmet_any (hs : Scr w p n u ca cl cc oa ol oc nx fl rv) : Calls Tryf.prog 17 #[.pointer (some ⟨p, 0, none⟩)] w fun e w' => e = .returned (.string u) ∧ w' = w := by
  obtain ⟨s0, s1, s3, s4⟩ := hs.more
  go_enter Tryf.func17, Tryf.ntmps17
  go_wp2_with fail
  go_ret
  exact ⟨rfl, rfl⟩
theorem next_any (hs : Scr w p n u ca cl cc oa ol oc nx fl rv) : Calls Tryf.prog 18 #[.pointer (some ⟨p, 0, none⟩)] w fun e w' => e = .returned (.int .i64 nx) ∧ w' = w := by
  obtain ⟨s0, s1, s3, s4⟩ := hs.more
  go_enter Tryf.func18, Tryf.ntmps18
  go_wp2_with fail
  go_ret
  exact ⟨rfl, rfl⟩
theorem getc_any (hs : Scr w p n u ca cl cc oa ol oc nx fl rv) : Calls Tryf.prog 20 #[.pointer (some ⟨p, 0, none⟩)] w fun e w' => e = .returned (.slice ca cl cc) ∧ w' = w := by
  obtain ⟨s2, s5, s6, sf, sp⟩ := hs.cell
  go_enter Tryf.func20, Tryf.ntmps20
  go_wp2_with fail
  go_ret
  exact ⟨rfl, rfl⟩
theorem geto_any (hs : Scr w p n u ca cl cc oa ol oc nx fl rv) : Calls Tryf.prog 22 #[.pointer (some ⟨p, 0, none⟩)] w fun e w' => e = .returned (.slice oa ol oc) ∧ w' = w := by
  obtain ⟨s0, s1, s3, s4⟩ := hs.more
  go_enter Tryf.func22, Tryf.ntmps22
  go_wp2_with fail
  go_ret
  exact ⟨rfl, rfl⟩
end

set_option maxHeartbeats 2000000 in
set_option maxRecDepth 100000 in
theorem sameChs_any (ad bd : Option Addr) (len ca cb : Nat) (P R : Nat → Int) (V : Nat → ByteArray) (w : World) (ha : Chs w ad len P R V) (hb : Chs w bd len P R V) (hn : ad.isNone = bd.isNone) (hlen : len ≤ 1048576) :
    Calls Tryf.prog 19 #[.slice ad len ca, .slice bd len cb] w fun e w' => e = .returned (.bool true) ∧ ∃ n, w' = w.drewN n := by
  have hnila := fun wx => Lib.run_eql_slice_nil (P := Tryf.prog) wx 44 63 ad len ca 0 0 Tryf.underlying44
  have hnilb := fun wx => Lib.run_eql_slice_nil (P := Tryf.prog) wx 22 50 bd len cb 0 0 Tryf.underlying22
  rw [hn] at hnila
  clear hn
  go_enter Tryf.func19, Tryf.ntmps19
  go_wp2
  go_loopw [5] (fun i wr => ∃ j n : Nat, j ≤ len ∧ i = .int .i64 j ∧ wr = w.drewN n) (fun i _ => len - (intOf i).toNat)
  case atStart => exact ⟨0, 0, Nat.zero_le _, rfl, rfl⟩
  case round =>
    obtain ⟨j, n, hj, rfl, rfl⟩ := hrel
    by_cases hlt : j < len
    · obtain ⟨b, off, rfl, c0, c1, c2⟩ := ha.cells j hlt
      obtain ⟨b', off', rfl, d0, d1, d2⟩ := hb.cells j hlt
      obtain ⟨x, hx⟩ : ∃ z, Hid (P j = z) := ⟨_, rfl⟩
      obtain ⟨y, hy⟩ : ∃ z, Hid (R j = z) := ⟨_, rfl⟩
      obtain ⟨v, hv⟩ : ∃ z, Hid (V j = z) := ⟨_, rfl⟩
      rw [hx.out] at c0 d0
      rw [hy.out] at c1 d1
      rw [hv.out] at c2 d2
      have i0 : (0 : Int) ≤ (j : Int) := by omega
      have i1 : (j : Int) < (len : Int) := by omega
      go_wp2
      go_quiet (fail)
      go_wp2
      go_roundw
      case rel => exact ⟨j + 1, _, by omega, by go_num, rfl⟩
      case measure => simp [intOf]; omega
    · go_wp2
      go_ret
      exact ⟨rfl, n, rfl⟩

end Go.Proofs.Qxb6613846aFmt
