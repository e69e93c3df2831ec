import Derived.Test.Qxb6613846aFmtFacts
import Derived.Test.Qxb6613846aFmtShelf
import Derived.Test.Qxb6613846aFmtChoices
namespace Go.Proofs.Qxb6613846aFmt
open Go.RowKit Go.Extern.Stop Go.Stop Go.Extern
set_option linter.unusedSimpArgs false
set_option linter.unusedVariables false
attribute [local go_sem] call29 call33 guard fmt0 fmt0r fmt1 fmt1r fmt2 fmt2r fmt2z fmt2zr op9_false op9_true op48_false op48_true op3_false op3_true ptr69 elem69 isError69

/-! ### errors.New -/
theorem errNew (s : ByteArray) (w : World) : Calls Tryf.prog 28 #[.string s] w fun e w' => e = .returned (.iface 69 (.pointer (some ⟨w.heap.size, 0, none⟩))) ∧ Below w.heap.size w w' := by
  go_enter Tryf.func28, Tryf.ntmps28
  go_wp2_with fail
  go_ret
  exact ⟨rfl, (Below.refl _ _).alloc (Nat.le_refl _) _⟩

/-! ### fmt.Errorf -/
set_option maxHeartbeats 1000000 in
theorem errorf_any (F : Interp) (k : Nat) (a b c : ByteArray) (d : Int) (w : World) (hF : F.answers w.tape)
    (c0 : w.cell? ⟨k, 0, none⟩ = some (.iface 48 (.string a))) (c1 : w.cell? ⟨k, 1, none⟩ = some (.iface 9 (.string b))) (c2 : w.cell? ⟨k, 2, none⟩ = some (.iface 9 (.string c))) (c3 : w.cell? ⟨k, 3, none⟩ = some (.iface 3 (.int .i64 d))) :
    Calls Tryf.prog 30 #[.string ⟨#[37, 115, 32, 105, 115, 32, 110, 111, 116, 32, 111, 110, 101, 32, 111, 102, 32, 37, 115, 44, 32, 37, 115, 32, 105, 110, 32, 114, 111, 117, 110, 100, 32, 37, 100]⟩, .slice (some ⟨k, 0, none⟩) 4 4] w
      fun e w' => ∃ q, e = .returned (.iface 69 (.pointer (some q))) ∧ Below w.heap.size w w' := by
  have hF' := answers_open hF
  go_enter Tryf.func30, Tryf.ntmps30
  go_wp2_with fail
  go_ret
  exact ⟨_, rfl, ((Below.refl _ _).alloc (Nat.le_refl _) _).drew⟩

/-! ### JoinJSON -/
theorem join_le (sep : List UInt8) : ∀ (xs : List (List UInt8)) (N : Nat), (∀ x ∈ xs, x.length ≤ N) → (Lib.join xs sep).length ≤ xs.length * (sep.length + N)
  | [], N, _ => by simp [Lib.join_nil]
  | x :: r, N, h => by
    have hl : ∀ (ys : List (List UInt8)), (∀ y ∈ ys, y.length ≤ N) → Lib.lens ys ≤ ys.length * N := by
      intro ys
      induction ys with
      | nil => intro _; simp [Lib.lens]
      | cons y ys ih =>
        intro hy
        have := ih (fun z hz => hy z (List.mem_cons_of_mem _ hz))
        have h1 := hy y (List.mem_cons_self ..)
        simp only [Lib.lens, List.map_cons, List.sum_cons, List.length_cons, Nat.add_mul] at this ⊢
        omega
    rw [Lib.join_length]
    have := hl (x :: r) h
    simp only [List.length_cons, Nat.mul_add] at this ⊢
    have e1 : sep.length * r.length ≤ (r.length + 1) * sep.length := by rw [Nat.mul_comm]; exact Nat.mul_le_mul_right _ (by omega)
    omega

set_option maxHeartbeats 1000000 in
theorem wr32 (s : ByteArray) (w : World) : Calls Tryf.prog 32 #[.string s] w fun e w' => e = .returned (.string s) ∧ w' = w := by
  go_enter Tryf.func32, Tryf.ntmps32
  go_wp2_with fail
  go_ret
  exact ⟨rfl, rfl⟩

def Stringy (e : Ending) : Prop := ∃ x : ByteArray, e = .returned (.string x)

set_option maxHeartbeats 1000000 in
theorem joinJSON_any (ad : Option Addr) (len cap : Nat) (S : Nat → ByteArray) (w : World) (hi : Strs w ad len S) (hlen : len ≤ 1048576) (hS : ∀ i, i < len → (S i).size ≤ 1048576) :
    Calls Tryf.prog 31 #[.slice ad len cap, .func (.func 32) #[] #[], .string ⟨#[44, 32]⟩] w fun e w' => Stringy e ∧ Below w.heap.size w w' := by
  have hmk := run_make_row' (P := Tryf.prog) 28 9 (.string ⟨#[]⟩) 16 Tryf.underlying28 info9 rfl .i64 .i64 len (by omega) (by omega)
  go_enter Tryf.func31, Tryf.ntmps31
  go_wp2_with fail
  go_loopw [15] (fun i wr => ∃ j : Nat, j ≤ len ∧ i = .int .i64 j ∧ wr.rowIs w.heap.size 9 len (fun m => .string (if m < j then S m else ⟨#[]⟩)) ∧ Below w.heap.size w wr) (fun i _ => len - (intOf i).toNat)
  case atStart => exact ⟨0, Nat.zero_le _, rfl, (World.rowIs_made w (.string ⟨#[]⟩) len 9).congr (fun m _ => by simp), (Below.refl _ _).alloc (Nat.le_refl _) _⟩
  case round =>
    obtain ⟨j, hj, rfl, hrow, hbel⟩ := hrel
    by_cases hlt : j < len
    · obtain ⟨b, off, rfl, c0⟩ := hi.cells j hlt
      replace c0 := cell_later hbel c0
      have r0 := hrow.cell hlt
      have f0 := hrow.frozen j
      rw [if_neg (Nat.lt_irrefl j)] at r0
      obtain ⟨z, hz⟩ : ∃ z, Hid (S j = z) := ⟨_, rfl⟩
      rw [hz.out] at c0
      have i0 : (0 : Int) ≤ (j : Int) := by omega
      have i1 : (j : Int) < (len : Int) := by omega
      have hnew : ∀ v, v = z → (wr.setCell ⟨w.heap.size, j, none⟩ (.string v)).rowIs w.heap.size 9 len (fun m => .string (if m < j + 1 then S m else ⟨#[]⟩)) := fun v hv => by
        subst hv
        refine (hrow.set j _).congr fun m _ => ?_
        by_cases hm : m = j
        · subst hm; rw [if_pos rfl, if_pos (by omega), hz.out]
        · rw [if_neg hm]
          by_cases hm2 : m < j
          · rw [if_pos hm2, if_pos (by omega)]
          · rw [if_neg hm2, if_neg (by omega)]
      go_wp2_with fail
      refine (wr32 _ _).mono ?_
      rintro e w1 ⟨rfl, hw⟩
      subst w1
      go_wp2_with fail
      go_roundw
      case rel => exact ⟨j + 1, by omega, by go_num, hnew _ rfl, hbel.setCell (Nat.le_refl _) _⟩
      case measure => simp [intOf]; omega
    · have hj' : j = len := by omega
      subst hj'
      have hl : ((List.range j).map S).length = j := by simp
      have hjoin := Tryf.strings_Join w.heap.size 0 j ((List.range j).map S) ⟨#[44, 32]⟩ wr (fun m x hm => by
          rw [List.getElem?_map] at hm
          obtain ⟨k, hk, rfl⟩ := Option.map_eq_some_iff.1 hm
          have hk1 := List.getElem?_eq_some_iff.1 hk
          obtain ⟨hk2, hk3⟩ := hk1
          simp at hk2 hk3
          subst hk3
          have := hrow.cell hk2
          rw [if_pos hk2] at this
          rw [Nat.zero_add]; exact this) hrow.lt (by rw [hl]; omega) (by rw [hl]; omega) (by
          refine Nat.le_trans (join_le _ _ 1048576 ?_) ?_
          · intro x hx
            simp at hx
            obtain ⟨m, hm, rfl⟩ := hx
            have := hS m hm
            simpa using this
          · simp
            have : j * (2 + 1048576) ≤ 1048576 * (2 + 1048576) := Nat.mul_le_mul_right _ hlen
            omega)
      rw [hl] at hjoin
      go_wp2_with fail
      refine hjoin.mono ?_
      rintro e w1 ⟨rfl, hb1⟩
      go_wp2_with fail
      go_ret
      exact ⟨⟨_, rfl⟩, hbel.trans (hb1.mono hbel.size)⟩

/-- The object that 'refuse' turns. -/
def Scr (w : World) (p : Nat) (n u : ByteArray) (ca : Option Addr) (cl cc : Nat) (oa : Option Addr) (ol oc : Nat) (nx fl : Int) (rv : Value) : Prop :=
  w.heap[p]? = some (.cells #[.string n, .string u, .slice ca cl cc, .slice oa ol oc, .int .i64 nx, .int .i64 fl, rv] 61 (0, 0))

def Rv (b : Bool) (v : Value) : Prop := match b with
  | false => v = .nilIface
  | true => ∃ q, v = .iface 69 (.pointer (some q))

theorem Scr.cell {w : World} {p : Nat} {n u : ByteArray} {ca : Option Addr} {cl cc : Nat} {oa : Option Addr} {ol oc : Nat} {nx fl : Int} {rv : Value} (h : Scr w p n u ca cl cc oa ol oc nx fl rv) :
    w.cell? ⟨p, 2, none⟩ = some (.slice ca cl cc) ∧ w.cell? ⟨p, 5, none⟩ = some (.int .i64 fl) ∧ w.cell? ⟨p, 6, none⟩ = some rv ∧ (∀ k, w.frozen? ⟨p, k, none⟩ = false) ∧ p < w.heap.size := by
  have h' := h
  unfold Scr at h'
  refine ⟨by simp [World.cell?, h'], by simp [World.cell?, h'], by simp [World.cell?, h'], fun k => by simp [World.frozen?, h'], ?_⟩
  exact (Array.getElem?_eq_some_iff.1 h').1

theorem Scr.below {w w' : World} {p B : Nat} {n u : ByteArray} {ca : Option Addr} {cl cc : Nat} {oa : Option Addr} {ol oc : Nat} {nx fl : Int} {rv : Value} (h : Scr w p n u ca cl cc oa ol oc nx fl rv) (hb : Below B w w') (hp : p < B) : Scr w' p n u ca cl cc oa ol oc nx fl rv :=
  (hb.block p hp).trans h

theorem Scr.set5 {w : World} {p : Nat} {n u : ByteArray} {ca : Option Addr} {cl cc : Nat} {oa : Option Addr} {ol oc : Nat} {nx fl : Int} {rv : Value} (h : Scr w p n u ca cl cc oa ol oc nx fl rv) (i : Int) : Scr (w.setCell ⟨p, 5, none⟩ (.int .i64 i)) p n u ca cl cc oa ol oc nx i rv := by
  unfold Scr at h ⊢
  simp [World.setCell, Array.getElem?_modify, h]
theorem Scr.set6 {w : World} {p : Nat} {n u : ByteArray} {ca : Option Addr} {cl cc : Nat} {oa : Option Addr} {ol oc : Nat} {nx fl : Int} {rv : Value} (h : Scr w p n u ca cl cc oa ol oc nx fl rv) (v : Value) : Scr (w.setCell ⟨p, 6, none⟩ v) p n u ca cl cc oa ol oc nx fl v := by
  unfold Scr at h ⊢
  simp [World.setCell, Array.getElem?_modify, h]

end Go.Proofs.Qxb6613846aFmt
