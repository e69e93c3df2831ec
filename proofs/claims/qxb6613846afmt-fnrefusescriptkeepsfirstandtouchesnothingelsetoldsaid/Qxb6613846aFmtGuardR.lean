import Derived.Test.Qxb6613846aFmtBytes
namespace Go.Proofs.Qxb6613846aFmt
open Go.RowKit
set_option linter.unusedSimpArgs false
set_option linter.unusedVariables false

def SmallR (cl ol il len : Nat) (S : Nat → ByteArray) : Prop := cl ≤ 1048576 ∧ ol ≤ 1048576 ∧ il ≤ 1048576 ∧ len ≤ 1048576 ∧ ∀ i, i < len → (S i).size ≤ 1048576

theorem bel2 (w : World) (o1 o2 : Obj) : Below w.heap.size w ((w.alloc o1).alloc o2) :=
  ((Below.refl _ _).alloc (Nat.le_refl _) o1).alloc (by rw [Deep.nblk_alloc]; omega) o2

set_option maxHeartbeats 2000000 in
set_option maxRecDepth 100000 in
theorem guardR_any (n u : ByteArray) (ca oa : Option Addr) (cl cc ol oc : Nat) (nx fl : Int) (rs : Bool) (xa : Option Addr) (il ic : Nat) (ia : Bool) (ir ip : Int) (pa : Option Addr) (len cap : Nat) (P R : Nat → Int) (V S : Nat → ByteArray) (w : World)
    (hi : Chs w ca cl P R V) (hs : Strs w pa len S) (hV : ∀ i, i < cl → (V i).size ≤ maxLen) (hS : ∀ i, i < len → (S i).size ≤ maxLen) (hcl : cl ≤ maxLen) (hol : ol ≤ maxLen) (hil : il ≤ maxLen) (hlen : len ≤ maxLen) (hn : n.size ≤ maxLen) (hu : u.size ≤ maxLen) :
    Calls Tryf.prog 14 #[.agg #[.string n, .string u, .slice ca cl cc, .slice oa ol oc, .int .i64 nx, .int .i64 fl, .bool rs], .slice xa il ic, .agg #[.bool ia, .int .i64 ir, .int .i64 ip], .slice pa len cap] w
      fun e w' => OutB e (SmallR cl ol il len S) ∧ Below w.heap.size w w' := by
  unfold maxLen at hcl hol hil hlen hn hu
  have fin := bel2 w
  by_cases h1 : n.size ≤ 1048576
  case neg =>
    go_enter Tryf.func14, Tryf.ntmps14
    go_wp2_with fail
    go_ret
    exact ⟨outB_false _, fin _ _⟩
  by_cases h2 : u.size ≤ 1048576
  case neg =>
    go_enter Tryf.func14, Tryf.ntmps14
    go_wp2_with fail
    go_ret
    exact ⟨outB_false _, fin _ _⟩
  by_cases h3 : (n.size : Int) + (u.size : Int) ≤ 1048576
  case neg =>
    go_enter Tryf.func14, Tryf.ntmps14
    go_wp2_with fail
    go_ret
    exact ⟨outB_false _, fin _ _⟩
  by_cases h4 : cl ≤ 1048576
  case neg =>
    go_enter Tryf.func14, Tryf.ntmps14
    go_wp2_with fail
    go_ret
    exact ⟨outB_false _, fin _ _⟩
  by_cases h5 : (n.size : Int) + (u.size : Int) + (cl : Int) ≤ 1048576
  case neg =>
    go_enter Tryf.func14, Tryf.ntmps14
    go_wp2_with fail
    go_ret
    exact ⟨outB_false _, fin _ _⟩
  go_enter Tryf.func14, Tryf.ntmps14
  go_wp2_with fail
  go_loop [9, 10] (fun tv q => ∃ (j : Nat) (u : Int), j ≤ cl ∧ q = .int .i64 j ∧ tv = .int .i64 u ∧ 0 ≤ u ∧ u ≤ 1048576) (fun _ q => cl - (intOf q).toNat)
  case atStart => exact ⟨0, _, Nat.zero_le _, rfl, rfl, by omega, by omega⟩
  case round =>
    clear h1 h2 h3 h5
    obtain ⟨j, x, hj, rfl, rfl, x0, x1⟩ := hrel
    by_cases hlt : j < cl
    · obtain ⟨b, off, rfl, -, -, c0⟩ := hi.cells j hlt
      have hsz := hV j hlt
      obtain ⟨s, hz⟩ : ∃ z, Hid (V j = z) := ⟨_, rfl⟩
      rw [hz.out] at c0 hsz
      unfold maxLen at hsz
      have c1 : ∀ o1 o2, ((w.alloc o1).alloc o2).cell? ⟨b, off + j * 3 + 2, none⟩ = some (.string s) := fun o1 o2 => cell_later (fin o1 o2) c0
      have i0 : (0 : Int) ≤ (j : Int) := by omega
      have i1 : (j : Int) < (cl : Int) := by omega
      by_cases hs1 : s.size ≤ 1048576
      case neg =>
        go_wp2_with fail
        go_ret
        exact ⟨outB_false _, fin _ _⟩
      by_cases hs2 : x + (s.size : Int) ≤ 1048576
      case neg =>
        go_wp2_with fail
        go_ret
        exact ⟨outB_false _, fin _ _⟩
      go_wp2_with fail
      go_round
      case rel => exact ⟨j + 1, x + s.size, by omega, by go_num, rfl, by omega, by omega⟩
      case measure => simp [intOf]; omega
    · by_cases k1 : ol ≤ 1048576
      case neg =>
        go_wp2_with fail
        go_ret
        exact ⟨outB_false _, fin _ _⟩
      by_cases k2 : x + (ol : Int) ≤ 1048576
      case neg =>
        go_wp2_with fail
        go_ret
        exact ⟨outB_false _, fin _ _⟩
      by_cases k5 : il ≤ 1048576
      case neg =>
        go_wp2_with fail
        go_ret
        exact ⟨outB_false _, fin _ _⟩
      by_cases k6 : x + (ol : Int) + (il : Int) ≤ 1048576
      case neg =>
        go_wp2_with fail
        go_ret
        exact ⟨outB_false _, fin _ _⟩
      by_cases k3 : len ≤ 1048576
      case neg =>
        go_wp2_with fail
        go_ret
        exact ⟨outB_false _, fin _ _⟩
      by_cases k4 : x + (ol : Int) + (il : Int) + (len : Int) ≤ 1048576
      case neg =>
        go_wp2_with fail
        go_ret
        exact ⟨outB_false _, fin _ _⟩
      go_wp2_with fail
      go_loop [9, 11] (fun tv q => ∃ (j : Nat) (u : Int), j ≤ len ∧ q = .int .i64 j ∧ tv = .int .i64 u ∧ 0 ≤ u ∧ u ≤ 1048576 ∧ Hid (∀ i, i < j → (S i).size ≤ 1048576)) (fun _ q => len - (intOf q).toNat)
      case atStart => exact ⟨0, _, Nat.zero_le _, rfl, rfl, by omega, by omega, fun i hi => absurd hi (Nat.not_lt_zero _)⟩
      case round =>
        clear k2 k4 k6 hlt hj x0 x1
        obtain ⟨m, y, hm, rfl, rfl, y0, y1, hbd⟩ := hrel
        by_cases hlt : m < len
        · obtain ⟨b, off, rfl, c0⟩ := hs.cells m hlt
          have hsz := hS m hlt
          obtain ⟨s, hz⟩ : ∃ z, Hid (S m = z) := ⟨_, rfl⟩
          rw [hz.out] at c0 hsz
          unfold maxLen at hsz
          have c1 : ∀ o1 o2, ((w.alloc o1).alloc o2).cell? ⟨b, off + m, none⟩ = some (.string s) := fun o1 o2 => cell_later (fin o1 o2) c0
          have i0 : (0 : Int) ≤ (m : Int) := by omega
          have i1 : (m : Int) < (len : Int) := by omega
          by_cases hs1 : s.size ≤ 1048576
          case neg =>
            go_wp2_with fail
            go_ret
            exact ⟨outB_false _, fin _ _⟩
          have hbd2 : Hid (∀ i, i < m + 1 → (S i).size ≤ 1048576) := fun i hi => by
            rcases Nat.lt_or_ge i m with h | h
            · exact hbd.out i h
            · have : i = m := by omega
              subst this; rw [hz.out]; exact hs1
          by_cases hs2 : y + (s.size : Int) ≤ 1048576
          case neg =>
            go_wp2_with fail
            go_ret
            exact ⟨outB_false _, fin _ _⟩
          go_wp2_with fail
          go_round
          case rel => exact ⟨m + 1, y + s.size, by omega, by go_num, rfl, by omega, by omega, hbd2⟩
          case measure => simp [intOf]; omega
        · go_wp2_with fail
          go_ret
          exact ⟨⟨true, rfl, fun _ => ⟨h4, k1, k5, k3, fun i hi => hbd.out i (by omega)⟩⟩, fin _ _⟩

end Go.Proofs.Qxb6613846aFmt
