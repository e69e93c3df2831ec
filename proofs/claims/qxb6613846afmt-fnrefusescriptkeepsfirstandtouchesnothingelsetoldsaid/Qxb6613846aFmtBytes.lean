import Derived.Test.Qxb6613846aFmtLeaves
namespace Go.Proofs.Qxb6613846aFmt
open Go.RowKit
set_option linter.unusedSimpArgs false
set_option linter.unusedVariables false

set_option maxHeartbeats 1000000 in
theorem strsBytes_any (t : Int) (ad : Option Addr) (len cap : Nat) (S : Nat → ByteArray) (w : World) (hi : Strs w ad len S) (hS : ∀ i, i < len → (S i).size ≤ maxLen) (ht : 0 ≤ t) (hml : len ≤ maxLen) :
    Calls Tryf.prog 7 #[.int .i64 t, .slice ad len cap] w fun e w' => ∃ u : Int, e = .returned (.int .i64 u) ∧ 0 ≤ u ∧ u ≤ 1048577 ∧ w' = w := by
  unfold maxLen at hml
  go_enter Tryf.func7, Tryf.ntmps7
  go_wp2_with fail
  refine (add_any _ _ _ _ (by omega) (by omega) (by omega) (by omega)).mono ?_
  rintro e w1 ⟨u, rfl, u0, u1, -, hw⟩
  subst w1
  go_wp2_with fail
  go_loop [0, 5] (fun tv k => ∃ (j : Nat) (u : Int), j ≤ len ∧ k = .int .i64 j ∧ tv = .int .i64 u ∧ 0 ≤ u ∧ u ≤ 1048577) (fun _ k => len - (intOf k).toNat)
  case atStart => exact ⟨0, u, Nat.zero_le _, rfl, rfl, u0, u1⟩
  case round =>
    obtain ⟨j, v, hj, rfl, rfl, v0, v1⟩ := hrel
    by_cases hlt : j < len
    · by_cases hv : v ≤ 1048576
      · obtain ⟨b, off, rfl, c0⟩ := hi.cells j hlt
        have hs := hS j hlt
        obtain ⟨s, hz⟩ : ∃ z, Hid (S j = z) := ⟨_, rfl⟩
        rw [hz.out] at c0 hs
        unfold maxLen at hs
        have i0 : (0 : Int) ≤ (j : Int) := by omega
        have i1 : (j : Int) < (len : Int) := by omega
        go_wp2_with fail
        refine (add_any _ _ _ _ (by omega) (by omega) (by omega) (by omega)).mono ?_
        rintro e w2 ⟨u2, rfl, u20, u21, -, hw⟩
        subst w2
        go_wp2_with fail
        go_round
        case rel => exact ⟨j + 1, u2, by omega, by go_num, rfl, u20, u21⟩
        case measure => simp [intOf]; omega
      · go_wp2_with fail
        go_ret
        exact ⟨v, rfl, v0, v1, rfl⟩
    · go_wp2_with fail
      go_ret
      exact ⟨v, rfl, v0, v1, rfl⟩

set_option maxHeartbeats 1000000 in
theorem chsBytes_any (t : Int) (ad : Option Addr) (len cap : Nat) (P R : Nat → Int) (V : Nat → ByteArray) (w : World) (hi : Chs w ad len P R V) (hV : ∀ i, i < len → (V i).size ≤ maxLen) (ht : 0 ≤ t) (hml : len ≤ maxLen) :
    Calls Tryf.prog 23 #[.int .i64 t, .slice ad len cap] w fun e w' => ∃ u : Int, e = .returned (.int .i64 u) ∧ 0 ≤ u ∧ u ≤ 1048577 ∧ w' = w := by
  unfold maxLen at hml
  go_enter Tryf.func23, Tryf.ntmps23
  go_wp2_with fail
  refine (add_any _ _ _ _ (by omega) (by omega) (by omega) (by omega)).mono ?_
  rintro e w1 ⟨u, rfl, u0, u1, -, hw⟩
  subst w1
  go_wp2_with fail
  go_loop [0, 5] (fun tv k => ∃ (j : Nat) (u : Int), j ≤ len ∧ k = .int .i64 j ∧ tv = .int .i64 u ∧ 0 ≤ u ∧ u ≤ 1048577) (fun _ k => len - (intOf k).toNat)
  case atStart => exact ⟨0, u, Nat.zero_le _, rfl, rfl, u0, u1⟩
  case round =>
    obtain ⟨j, v, hj, rfl, rfl, v0, v1⟩ := hrel
    by_cases hlt : j < len
    · by_cases hv : v ≤ 1048576
      · obtain ⟨b, off, rfl, -, -, c0⟩ := hi.cells j hlt
        have hs := hV j hlt
        obtain ⟨s, hz⟩ : ∃ z, Hid (V j = z) := ⟨_, rfl⟩
        rw [hz.out] at c0 hs
        unfold maxLen at hs
        have i0 : (0 : Int) ≤ (j : Int) := by omega
        have i1 : (j : Int) < (len : Int) := by omega
        go_wp2_with fail
        refine (add_any _ _ _ _ (by omega) (by omega) (by omega) (by omega)).mono ?_
        rintro e w2 ⟨u2, rfl, u20, u21, -, hw⟩
        subst w2
        go_wp2_with fail
        go_round
        case rel => exact ⟨j + 1, u2, by omega, by go_num, rfl, u20, u21⟩
        case measure => simp [intOf]; omega
      · go_wp2_with fail
        go_ret
        exact ⟨v, rfl, v0, v1, rfl⟩
    · go_wp2_with fail
      go_ret
      exact ⟨v, rfl, v0, v1, rfl⟩

set_option maxHeartbeats 1000000 in
theorem scrBytes_any (n u : ByteArray) (ca oa : Option Addr) (cl cc ol oc : Nat) (nx fl : Int) (rs : Bool) (P R : Nat → Int) (V : Nat → ByteArray) (w : World) (hi : Chs w ca cl P R V) (hV : ∀ i, i < cl → (V i).size ≤ maxLen) (hcl : cl ≤ maxLen) (hol : ol ≤ maxLen) (hn : n.size ≤ maxLen) (hu : u.size ≤ maxLen) :
    Calls Tryf.prog 6 #[.agg #[.string n, .string u, .slice ca cl cc, .slice oa ol oc, .int .i64 nx, .int .i64 fl, .bool rs]] w fun e w' => ∃ u : Int, e = .returned (.int .i64 u) ∧ 0 ≤ u ∧ u ≤ 1048577 ∧ Below w.heap.size w w' := by
  unfold maxLen at hol hn hu
  go_enter Tryf.func6, Tryf.ntmps6
  go_wp2_with fail
  refine (add_any _ _ _ _ (by omega) (by omega) (by omega) (by omega)).mono ?_
  rintro e w1 ⟨u1, rfl, u10, u11, -, hw⟩
  subst w1
  go_wp2_with fail
  refine (add_any _ _ _ _ (by omega) (by omega) (by omega) (by omega)).mono ?_
  rintro e w1 ⟨u2, rfl, u20, u21, -, hw⟩
  subst w1
  go_wp2_with fail
  refine (chsBytes_any _ _ _ _ P R V _ (hi.below ((Below.refl _ _).alloc (Nat.le_refl _) _)) hV (by omega) hcl).mono ?_
  rintro e w1 ⟨u3, rfl, u30, u31, hw⟩
  subst w1
  go_wp2_with fail
  refine (add_any _ _ _ _ (by omega) (by omega) (by omega) (by omega)).mono ?_
  rintro e w1 ⟨u4, rfl, u40, u41, -, hw⟩
  subst w1
  go_wp2_with fail
  go_ret
  exact ⟨u4, rfl, u40, u41, (Below.refl _ _).alloc (Nat.le_refl _) _⟩

def OutB (e : Ending) (P : Prop) : Prop := ∃ b : Bool, e = .returned (.bool b) ∧ (b = true → P)
theorem outB_false (P : Prop) : OutB (.returned (.bool false)) P := ⟨false, rfl, fun h => by cases h⟩

def InDom (fl : Int) (cl : Nat) : Prop := 0 ≤ fl ∧ fl ≤ (cl : Int)

set_option maxHeartbeats 1000000 in
theorem domain_any (n u : ByteArray) (ca oa : Option Addr) (cl cc ol oc : Nat) (nx fl : Int) (rs : Bool) (w : World) :
    Calls Tryf.prog 8 #[.agg #[.string n, .string u, .slice ca cl cc, .slice oa ol oc, .int .i64 nx, .int .i64 fl, .bool rs]] w fun e w' => OutB e (InDom fl cl) ∧ Below w.heap.size w w' := by
  by_cases h0 : fl < 0
  · go_enter Tryf.func8, Tryf.ntmps8
    go_wp2_with fail
    go_ret
    exact ⟨outB_false _, (Below.refl _ _).alloc (Nat.le_refl _) _⟩
  · by_cases h1 : (cl : Int) < fl
    · go_enter Tryf.func8, Tryf.ntmps8
      go_wp2_with fail
      go_ret
      exact ⟨outB_false _, (Below.refl _ _).alloc (Nat.le_refl _) _⟩
    · cases rs with
      | false =>
        go_enter Tryf.func8, Tryf.ntmps8
        go_wp2_with fail
        go_ret
        exact ⟨⟨true, rfl, fun _ => ⟨by omega, by omega⟩⟩, (Below.refl _ _).alloc (Nat.le_refl _) _⟩
      | true =>
        by_cases h2 : fl = (cl : Int)
        · go_enter Tryf.func8, Tryf.ntmps8
          go_wp2_with fail
          go_ret
          exact ⟨outB_false _, (Below.refl _ _).alloc (Nat.le_refl _) _⟩
        · go_enter Tryf.func8, Tryf.ntmps8
          go_wp2_with fail
          go_ret
          exact ⟨⟨true, rfl, fun _ => ⟨by omega, by omega⟩⟩, (Below.refl _ _).alloc (Nat.le_refl _) _⟩

end Go.Proofs.Qxb6613846aFmt
