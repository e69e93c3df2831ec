import Derived.Test.Qxb6613846aPtrs
namespace Go.Proofs.Qxb6613846a
open Go.RowKit
set_option linter.unusedSimpArgs false

theorem mem_getD {α : Type} (l : List α) (i : Nat) (d : α) (h : i < l.length) : l.getD i d ∈ l := by
  rw [List.getD_eq_getElem?_getD, List.getElem?_eq_getElem h]; exact List.getElem_mem h

theorem small_of {cs : List (Option Cr)} (h : ∀ i, i < cs.length → ∀ c, cs.getD i none = some c → c.len ≤ 1048576) : ∀ c, some c ∈ cs → c.len ≤ 1048576 := fun c hc => by
  obtain ⟨i, hi, e⟩ := List.getElem_of_mem hc
  exact h i hi c (by rw [List.getD_eq_getElem?_getD, List.getElem?_eq_getElem hi, e]; rfl)

set_option maxHeartbeats 1000000 in
set_option maxRecDepth 100000 in
theorem ptrBytes_any (ad : Option Addr) (len cap : Nat) (cs : List (Option Cr)) (w : World) (hp : Ptrs w ad len cs) (hlen : len ≤ 1048576) (hsm : ∀ c, some c ∈ cs → c.len ≤ 1048576) :
    Calls Try.prog 20 #[.slice ad len cap] w fun e w' => ∃ t : Int, e = .returned (.int .i64 t) ∧ 0 ≤ t ∧ t ≤ 1048577 ∧ w' = w := by
  have hl2 : Hid (cs.length = len) := hp.length
  go_enter Try.func20, Try.ntmps20
  go_wp2_with (go_at_call 25; refine (add_any _ _ _ _ (by omega) (by omega) (by omega) (by omega)).mono ?_; rintro e w1 ⟨t, rfl, t0, t1, -, hw⟩; subst hw)
  go_loop [3, 4] (fun tv k => ∃ (j : Nat) (u : Int), j ≤ len ∧ k = .int .i64 j ∧ tv = .int .i64 u ∧ 0 ≤ u ∧ u ≤ 1048577) (fun _ k => len - (intOf k).toNat)
  case atStart => exact ⟨0, t, Nat.zero_le _, rfl, rfl, t0, t1⟩
  case round =>
    obtain ⟨j, u, hj, rfl, rfl, u0, u1⟩ := hrel
    by_cases hlt : j < len
    · by_cases hu : u ≤ 1048576
      · obtain ⟨b, off, rfl, hcell⟩ := hp.cells j hlt
        have i0 : (0 : Int) ≤ (j : Int) := by omega
        have i1 : (j : Int) < (len : Int) := by omega
        cases hx : cs.getD j none with
        | none =>
          rw [hx] at hcell
          clear hx
          unfold PtrCell at hcell
          go_wp2_with fail
          go_round
          case rel => exact ⟨j + 1, u, by omega, by go_num, rfl, u0, u1⟩
          case measure => simp [intOf]; omega
        | some c =>
          rw [hx] at hcell
          obtain ⟨pb, po, hc, hcr⟩ := hcell
          have hcl : c.len ≤ 1048576 := hsm c (by rw [← hx]; exact mem_getD _ _ _ (by rw [hl2.out]; exact hlt))
          clear hx
          obtain ⟨cp, cr, cad, clen, ccap⟩ := c
          obtain ⟨-, -, d2, -⟩ := hcr
          dsimp only at d2 hcl
          go_wp2_with fail
          refine (add_any _ _ _ _ (by omega) (by omega) (by omega) (by omega)).mono ?_
          rintro e w2 ⟨u2, rfl, u20, u21, -, hw⟩
          subst hw
          go_wp2_with fail
          refine (add_any _ _ _ _ (by omega) (by omega) (by omega) (by omega)).mono ?_
          rintro e w3 ⟨u3, rfl, u30, u31, -, hw⟩
          subst hw
          go_wp2_with fail
          go_round
          case rel => exact ⟨j + 1, u3, by omega, by go_num, rfl, u30, u31⟩
          case measure => simp [intOf]; omega
      · go_wp2_with fail
        go_ret
        exact ⟨u, rfl, u0, u1, rfl⟩
    · go_wp2_with fail
      go_ret
      exact ⟨u, rfl, u0, u1, rfl⟩

/-- A bool comes back; where it is true, P holds. -/
def BoolOut (e : Ending) (P : Prop) : Prop := ∃ b : Bool, e = .returned (.bool b) ∧ (b = true → P)

/-- What the bound by program gives where it says true. -/
def Bounded (len : Nat) (cs : List (Option Cr)) : Prop := len ≤ 1048576 ∧ ∀ i, i < len → ∀ c, cs.getD i none = some c → c.len ≤ 1048576

set_option maxHeartbeats 1000000 in
set_option maxRecDepth 100000 in
theorem bytesS_any (ad : Option Addr) (len cap : Nat) (cs : List (Option Cr)) (r cut : Int) (w : World) (hp : Ptrs w ad len cs) (hml : len ≤ maxLen) (hcm : ∀ c, some c ∈ cs → c.len ≤ maxLen) :
    Calls Try.prog 19 #[.slice ad len cap, .int .i64 r, .int .i64 cut] w fun e w' => BoolOut e (Bounded len cs) ∧ w' = w := by
  have hl2 : Hid (cs.length = len) := hp.length
  unfold maxLen at hml hcm
  by_cases hlen : len ≤ 1048576
  · go_enter Try.func19, Try.ntmps19
    go_wp2_with fail
    go_loop [7, 8] (fun nv k => ∃ (j : Nat) (u : Int), j ≤ len ∧ k = .int .i64 j ∧ nv = .int .i64 u ∧ 0 ≤ u ∧ u ≤ 1048576 ∧ Hid (∀ i, i < j → ∀ c, cs.getD i none = some c → c.len ≤ 1048576)) (fun _ k => len - (intOf k).toNat)
    case atStart => exact ⟨0, _, Nat.zero_le _, rfl, rfl, by omega, by omega, fun i hi => absurd hi (Nat.not_lt_zero _)⟩
    case round =>
      obtain ⟨j, u, hj, rfl, rfl, u0, u1, hbd⟩ := hrel
      by_cases hlt : j < len
      · obtain ⟨b, off, rfl, hcell⟩ := hp.cells j hlt
        have i0 : (0 : Int) ≤ (j : Int) := by omega
        have i1 : (j : Int) < (len : Int) := by omega
        cases hx : cs.getD j none with
        | none =>
          rw [hx] at hcell
          have hbd2 : Hid (∀ i, i < j + 1 → ∀ c, cs.getD i none = some c → c.len ≤ 1048576) := fun i hi c hc => by
            rcases Nat.lt_or_ge i j with h | h
            · exact hbd.out i h c hc
            · have : i = j := by omega
              subst this; rw [hx] at hc; cases hc
          clear hx
          unfold PtrCell at hcell
          go_wp2_with fail
          go_round
          case rel => exact ⟨j + 1, u, by omega, by go_num, rfl, u0, u1, hbd2⟩
          case measure => simp [intOf]; omega
        | some c =>
          rw [hx] at hcell
          obtain ⟨pb, po, hc, hcr⟩ := hcell
          have hcm2 := hcm c (by rw [← hx]; exact mem_getD _ _ _ (by rw [hl2.out]; exact hlt))
          have hbd2 : c.len ≤ 1048576 → Hid (∀ i, i < j + 1 → ∀ c, cs.getD i none = some c → c.len ≤ 1048576) := fun hle i hi c' hc' => by
            rcases Nat.lt_or_ge i j with h | h
            · exact hbd.out i h c' hc'
            · have : i = j := by omega
              subst this; rw [hx] at hc'; cases hc'; exact hle
          clear hx hcm
          obtain ⟨cp, cr, cad, clen, ccap⟩ := c
          obtain ⟨-, -, d2, -⟩ := hcr
          dsimp only at d2 hcm2 hbd2
          by_cases hcl : clen ≤ 1048576
          · replace hbd2 := hbd2 hcl
            by_cases hs : u + (clen : Int) ≤ 1048576
            · go_wp2_with fail
              go_round
              case rel => exact ⟨j + 1, u + clen, by omega, by go_num, rfl, by omega, by omega, hbd2⟩
              case measure => simp [intOf]; omega
            · go_wp2_with fail
              go_ret
              exact ⟨⟨false, rfl, fun h => by cases h⟩, rfl⟩
          · clear hbd2
            go_wp2_with fail
            go_ret
            exact ⟨⟨false, rfl, fun h => by cases h⟩, rfl⟩
      · go_wp2_with fail
        go_ret
        exact ⟨⟨true, rfl, fun _ => ⟨hlen, fun i hi => hbd.out i (by omega)⟩⟩, rfl⟩
  · go_enter Try.func19, Try.ntmps19
    go_wp2_with fail
    go_ret
    exact ⟨⟨false, rfl, fun h => by cases h⟩, rfl⟩

end Go.Proofs.Qxb6613846a
