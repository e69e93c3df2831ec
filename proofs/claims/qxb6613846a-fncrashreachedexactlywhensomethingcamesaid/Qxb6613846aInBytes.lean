import Derived.Test.Qxb6613846aInbox
namespace Go.Proofs.Qxb6613846a
open Go.RowKit
set_option linter.unusedSimpArgs false
set_option linter.unusedVariables false

set_option maxHeartbeats 1000000 in
theorem strsBytes_any (t : Int) (ad : Option Addr) (len cap : Nat) (w : World) (hi : Strs w ad len) (ht : 0 ≤ t) (hml : len ≤ maxLen) :
    Calls Try.prog 34 #[.int .i64 t, .slice ad len cap] w fun e w' => ∃ u : Int, e = .returned (.int .i64 u) ∧ 0 ≤ u ∧ u ≤ 1048577 ∧ w' = w := by
  unfold maxLen at hml
  go_enter Try.func34, Try.ntmps34
  go_wp2_with fail
  refine (add_any _ _ _ _ (by omega) (by omega) (by omega) (by omega)).mono ?_
  rintro e w1 ⟨u, rfl, u0, u1, -, hw⟩
  subst w1
  go_wp2_with fail
  go_loop [0, 5] (fun tv k => ∃ (j : Nat) (u : Int), j ≤ len ∧ k = .int .i64 j ∧ tv = .int .i64 u ∧ 0 ≤ u ∧ u ≤ 1048577) (fun _ k => len - (intOf k).toNat)
  case atStart => exact ⟨0, u, Nat.zero_le _, rfl, rfl, u0, u1⟩
  case round =>
    obtain ⟨j, v, hj, rfl, rfl, v0, v1⟩ := hrel
    by_cases hlt : j < len
    · by_cases hv : v ≤ 1048576
      · obtain ⟨b, off, s, rfl, c0, hs⟩ := hi.cells j hlt
        unfold maxLen at hs
        have i0 : (0 : Int) ≤ (j : Int) := by omega
        have i1 : (j : Int) < (len : Int) := by omega
        go_wp2_with fail
        refine (add_any _ _ _ _ (by omega) (by omega) (by omega) (by omega)).mono ?_
        rintro e w2 ⟨u2, rfl, u20, u21, -, hw⟩
        subst w2
        go_wp2_with fail
        go_round
        case rel => exact ⟨j + 1, u2, by omega, by go_num, rfl, u20, u21⟩
        case measure => simp [intOf]; omega
      · go_wp2_with fail
        go_ret
        exact ⟨v, rfl, v0, v1, rfl⟩
    · go_wp2_with fail
      go_ret
      exact ⟨v, rfl, v0, v1, rfl⟩

set_option maxHeartbeats 1000000 in
theorem inboxBytes_any (ad td bd : Option Addr) (len cap n tcap bl bcap : Nat) (Ls : Nat → Nat) (v : ByteArray) (w : World) (hi : Strs w ad len) (hr : Rws w td n Ls) (hml : len ≤ maxLen) (hmn : n ≤ maxLen) (hmL : ∀ i, i < n → Ls i ≤ maxLen) (hmb : bl ≤ maxLen) (hmv : v.size ≤ maxLen) :
    Calls Try.prog 28 #[.slice ad len cap, .slice td n tcap, .slice bd bl bcap, .string v] w fun e w' => ∃ u : Int, e = .returned (.int .i64 u) ∧ 0 ≤ u ∧ u ≤ 1048577 ∧ w' = w := by
  go_enter Try.func28, Try.ntmps28
  go_wp2_with fail
  refine (strsBytes_any _ _ _ _ _ hi (by omega) hml).mono ?_
  rintro e w1 ⟨u, rfl, u0, u1, hw⟩
  subst w1
  unfold maxLen at hmn hmb hmv
  go_wp2_with fail
  refine (add_any _ _ _ _ (by omega) (by omega) (by omega) (by omega)).mono ?_
  rintro e w1 ⟨u2, rfl, u20, u21, -, hw⟩
  subst w1
  go_wp2_with fail
  go_loop [9, 10] (fun tv k => ∃ (j : Nat) (u : Int), j ≤ n ∧ k = .int .i64 j ∧ tv = .int .i64 u ∧ 0 ≤ u ∧ u ≤ 1048577) (fun _ k => n - (intOf k).toNat)
  case atStart => exact ⟨0, u2, Nat.zero_le _, rfl, rfl, u20, u21⟩
  case round =>
    obtain ⟨j, v2, hj, rfl, rfl, v0, v1⟩ := hrel
    by_cases hlt : j < n
    · by_cases hv : v2 ≤ 1048576
      · obtain ⟨b, off, rad, rcap, rfl, c0, hs⟩ := hr.cells j hlt
        have i0 : (0 : Int) ≤ (j : Int) := by omega
        have i1 : (j : Int) < (n : Int) := by omega
        go_wp2_with fail
        refine (strsBytes_any _ _ _ _ _ hs v0 (hmL j hlt)).mono ?_
        rintro e w2 ⟨u3, rfl, u30, u31, hw⟩
        subst w2
        go_wp2_with fail
        go_round
        case rel => exact ⟨j + 1, u3, by omega, by go_num, rfl, u30, u31⟩
        case measure => simp [intOf]; omega
      · go_wp2_with fail
        refine (add_any _ _ _ _ (by omega) (by omega) (by omega) (by omega)).mono ?_
        rintro e w1 ⟨u3, rfl, u30, u31, -, hw⟩
        subst w1
        go_wp2_with fail
        refine (add_any _ _ _ _ (by omega) (by omega) (by omega) (by omega)).mono ?_
        rintro e w1 ⟨u4, rfl, u40, u41, -, hw⟩
        subst w1
        go_wp2_with fail
        go_ret
        exact ⟨u4, rfl, u40, u41, rfl⟩
    · go_wp2_with fail
      refine (add_any _ _ _ _ (by omega) (by omega) (by omega) (by omega)).mono ?_
      rintro e w1 ⟨u3, rfl, u30, u31, -, hw⟩
      subst w1
      go_wp2_with fail
      refine (add_any _ _ _ _ (by omega) (by omega) (by omega) (by omega)).mono ?_
      rintro e w1 ⟨u4, rfl, u40, u41, -, hw⟩
      subst w1
      go_wp2_with fail
      go_ret
      exact ⟨u4, rfl, u40, u41, rfl⟩

def OutB (e : Ending) (P : Prop) : Prop := ∃ b : Bool, e = .returned (.bool b) ∧ (b = true → P)
def SmallIn (len n bl : Nat) (Ls : Nat → Nat) : Prop := len ≤ 1048576 ∧ n ≤ 1048576 ∧ bl ≤ 1048576 ∧ ∀ i, i < n → Ls i ≤ 1048576

theorem outB_false (P : Prop) : OutB (.returned (.bool false)) P := ⟨false, rfl, fun h => by cases h⟩

set_option maxHeartbeats 2000000 in
set_option maxRecDepth 100000 in
theorem bytesC_any (ad td bd : Option Addr) (len cap n tcap bl bcap : Nat) (Ls : Nat → Nat) (k : Bool) (ix : Int) (v : ByteArray) (w : World) (hi : Strs w ad len) (hr : Rws w td n Ls) (hml : len ≤ maxLen) (hmn : n ≤ maxLen) (hmL : ∀ i, i < n → Ls i ≤ maxLen) (hmb : bl ≤ maxLen) (hmv : v.size ≤ maxLen) :
    Calls Try.prog 27 #[.slice ad len cap, .slice td n tcap, .bool k, .slice bd bl bcap, .int .i64 ix, .string v] w fun e w' => OutB e (SmallIn len n bl Ls) ∧ w' = w := by
  unfold maxLen at hml hmn hmb hmv
  by_cases hlen : len ≤ 1048576
  · go_enter Try.func27, Try.ntmps27
    go_wp2_with fail
    go_loop [13, 14] (fun tv q => ∃ (j : Nat) (u : Int), j ≤ len ∧ q = .int .i64 j ∧ tv = .int .i64 u ∧ 0 ≤ u ∧ u ≤ 1048576) (fun _ q => len - (intOf q).toNat)
    case atStart => exact ⟨0, _, Nat.zero_le _, rfl, rfl, by omega, by omega⟩
    case round =>
      obtain ⟨j, u, hj, rfl, rfl, u0, u1⟩ := hrel
      by_cases hlt : j < len
      · obtain ⟨b, off, s, rfl, c0, hs⟩ := hi.cells j hlt
        unfold maxLen at hs
        have i0 : (0 : Int) ≤ (j : Int) := by omega
        have i1 : (j : Int) < (len : Int) := by omega
        by_cases hs1 : s.size ≤ 1048576
        · by_cases hs2 : u + (s.size : Int) ≤ 1048576
          · go_wp2_with fail
            go_round
            case rel => exact ⟨j + 1, u + s.size, by omega, by go_num, rfl, by omega, by omega⟩
            case measure => simp [intOf]; omega
          · go_wp2_with fail
            go_ret
            exact ⟨outB_false _, rfl⟩
        · go_wp2_with fail
          go_ret
          exact ⟨outB_false _, rfl⟩
      · by_cases hn1 : n ≤ 1048576
        · by_cases hn2 : u + (n : Int) ≤ 1048576
          · have d1 : decide (1048576 < u + (n : Int)) = false := by simp; omega
            have d2 : decide (1048576 < n) = false := by simp; omega
            go_wp2_with fail
            go_loop [13, 15] (fun tv q => ∃ (j : Nat) (u : Int), j ≤ n ∧ q = .int .i64 j ∧ tv = .int .i64 u ∧ 0 ≤ u ∧ u ≤ 1048576 ∧ Hid (∀ i, i < j → Ls i ≤ 1048576)) (fun _ q => n - (intOf q).toNat)
            case atStart => exact ⟨0, _, Nat.zero_le _, rfl, rfl, by omega, by omega, fun i hi => absurd hi (Nat.not_lt_zero _)⟩
            case round =>
              clear hlt hj d1 hn2 u0 u1
              obtain ⟨j, u, hj, rfl, rfl, u0, u1, hbd⟩ := hrel
              by_cases hlt : j < n
              · obtain ⟨b, off, rad, rcap, rfl, c0, hs⟩ := hr.cells j hlt
                have hLm := hmL j hlt
                unfold maxLen at hLm
                obtain ⟨L, hL⟩ : ∃ L, Hid (Ls j = L) := ⟨_, rfl⟩
                rw [hL.out] at c0 hs hLm
                have i0 : (0 : Int) ≤ (j : Int) := by omega
                have i1 : (j : Int) < (n : Int) := by omega
                by_cases hL1 : L ≤ 1048576
                · have hbd2 : Hid (∀ i, i < j + 1 → Ls i ≤ 1048576) := fun i hi => by
                    rcases Nat.lt_or_ge i j with h | h
                    · exact hbd.out i h
                    · have : i = j := by omega
                      subst this; rw [hL.out]; exact hL1
                  by_cases hL2 : u + (L : Int) ≤ 1048576
                  · go_wp2_with fail
                    go_loop [13, 16] (fun tv q => ∃ (m : Nat) (u : Int), m ≤ L ∧ q = .int .i64 m ∧ tv = .int .i64 u ∧ 0 ≤ u ∧ u ≤ 1048576) (fun _ q => L - (intOf q).toNat)
                    case atStart => exact ⟨0, _, Nat.zero_le _, rfl, rfl, by omega, by omega⟩
                    case round =>
                      obtain ⟨m, u', hm, rfl, rfl, u0', u1'⟩ := hrel
                      by_cases hltm : m < L
                      · obtain ⟨b2, off2, s, rfl, c2, hs2⟩ := hs.cells m hltm
                        unfold maxLen at hs2
                        have i2 : (0 : Int) ≤ (m : Int) := by omega
                        have i3 : (m : Int) < (L : Int) := by omega
                        by_cases hs1 : s.size ≤ 1048576
                        · by_cases hs3 : u' + (s.size : Int) ≤ 1048576
                          · go_wp2_with fail
                            go_round
                            case rel => exact ⟨m + 1, u' + s.size, by omega, by go_num, rfl, by omega, by omega⟩
                            case measure => simp [intOf]; omega
                          · go_wp2_with fail
                            go_ret
                            exact ⟨outB_false _, rfl⟩
                        · go_wp2_with fail
                          go_ret
                          exact ⟨outB_false _, rfl⟩
                      · go_wp2_with fail
                        go_round
                        case rel => exact ⟨j + 1, u', by omega, by go_num, rfl, u0', u1', hbd2⟩
                        case measure => simp [intOf]; omega
                  · go_wp2_with fail
                    go_ret
                    exact ⟨outB_false _, rfl⟩
                · go_wp2_with fail
                  go_ret
                  exact ⟨outB_false _, rfl⟩
              · by_cases hb1 : bl ≤ 1048576
                · by_cases hb2 : u + (bl : Int) ≤ 1048576
                  · by_cases hv1 : v.size ≤ 1048576
                    · by_cases hv2 : u + (bl : Int) + (v.size : Int) ≤ 1048576
                      · go_wp2_with fail
                        go_ret
                        exact ⟨⟨true, rfl, fun _ => ⟨hlen, hn1, hb1, fun i hi => hbd.out i (by omega)⟩⟩, rfl⟩
                      · go_wp2_with fail
                        go_ret
                        exact ⟨outB_false _, rfl⟩
                    · go_wp2_with fail
                      go_ret
                      exact ⟨outB_false _, rfl⟩
                  · go_wp2_with fail
                    go_ret
                    exact ⟨outB_false _, rfl⟩
                · go_wp2_with fail
                  go_ret
                  exact ⟨outB_false _, rfl⟩
          · go_wp2_with fail
            go_ret
            exact ⟨outB_false _, rfl⟩
        · go_wp2_with fail
          go_ret
          exact ⟨outB_false _, rfl⟩
  · go_enter Try.func27, Try.ntmps27
    go_wp2_with fail
    go_ret
    exact ⟨outB_false _, rfl⟩

end Go.Proofs.Qxb6613846a
