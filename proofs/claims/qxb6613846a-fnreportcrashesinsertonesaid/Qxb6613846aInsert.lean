import Derived.Test.Qxb6613846aLawS
namespace Go.Proofs.Qxb6613846a
open Go.RowKit
set_option linter.unusedSimpArgs false
set_option linter.unusedVariables false

def BoundedI (len : Nat) (cs : List (Option Cr)) (rlen : Nat) : Prop := Bounded len cs ∧ rlen ≤ 1048576

set_option maxHeartbeats 1000000 in
set_option maxRecDepth 100000 in
theorem bytesI_any (ad : Option Addr) (len cap : Nat) (cs : List (Option Cr)) (r cut : Int) (rd : Option Addr) (rlen rcap : Nat) (w : World) (hp : Ptrs w ad len cs) (hml : len ≤ maxLen) (hcm : ∀ c, some c ∈ cs → c.len ≤ maxLen) (hrm : rlen ≤ maxLen) :
    Calls Try.prog 24 #[.slice ad len cap, .int .i64 r, .int .i64 cut, .slice rd rlen rcap] w fun e w' => BoolOut e (BoundedI len cs rlen) ∧ w' = w := by
  have hl2 : Hid (cs.length = len) := hp.length
  unfold maxLen at hml hcm hrm
  by_cases hlen : len ≤ 1048576
  · go_enter Try.func24, Try.ntmps24
    go_wp2_with fail
    go_loop [9, 10] (fun nv k => ∃ (j : Nat) (u : Int), j ≤ len ∧ k = .int .i64 j ∧ nv = .int .i64 u ∧ 0 ≤ u ∧ u ≤ 1048576 ∧ Hid (∀ i, i < j → ∀ c, cs.getD i none = some c → c.len ≤ 1048576)) (fun _ k => len - (intOf k).toNat)
    case atStart => exact ⟨0, _, Nat.zero_le _, rfl, rfl, by omega, by omega, fun i hi => absurd hi (Nat.not_lt_zero _)⟩
    case round =>
      obtain ⟨j, u, hj, rfl, rfl, u0, u1, hbd⟩ := hrel
      by_cases hlt : j < len
      · obtain ⟨b, off, rfl, hcell⟩ := hp.cells j hlt
        have i0 : (0 : Int) ≤ (j : Int) := by omega
        have i1 : (j : Int) < (len : Int) := by omega
        cases hx : cs.getD j none with
        | none =>
          rw [hx] at hcell
          have hbd2 : Hid (∀ i, i < j + 1 → ∀ c, cs.getD i none = some c → c.len ≤ 1048576) := fun i hi c hc => by
            rcases Nat.lt_or_ge i j with h | h
            · exact hbd.out i h c hc
            · have : i = j := by omega
              subst this; rw [hx] at hc; cases hc
          clear hx
          unfold PtrCell at hcell
          go_wp2_with fail
          go_round
          case rel => exact ⟨j + 1, u, by omega, by go_num, rfl, u0, u1, hbd2⟩
          case measure => simp [intOf]; omega
        | some c =>
          rw [hx] at hcell
          obtain ⟨pb, po, hc, hcr⟩ := hcell
          have hcm2 := hcm c (by rw [← hx]; exact mem_getD _ _ _ (by rw [hl2.out]; exact hlt))
          have hbd2 : c.len ≤ 1048576 → Hid (∀ i, i < j + 1 → ∀ c, cs.getD i none = some c → c.len ≤ 1048576) := fun hle i hi c' hc' => by
            rcases Nat.lt_or_ge i j with h | h
            · exact hbd.out i h c' hc'
            · have : i = j := by omega
              subst this; rw [hx] at hc'; cases hc'; exact hle
          clear hx hcm
          obtain ⟨cp, cr, cad, clen, ccap⟩ := c
          obtain ⟨-, -, d2, -⟩ := hcr
          dsimp only at d2 hcm2 hbd2
          by_cases hcl : clen ≤ 1048576
          · replace hbd2 := hbd2 hcl
            by_cases hs : u + (clen : Int) ≤ 1048576
            · go_wp2_with fail
              go_round
              case rel => exact ⟨j + 1, u + clen, by omega, by go_num, rfl, by omega, by omega, hbd2⟩
              case measure => simp [intOf]; omega
            · go_wp2_with fail
              go_ret
              exact ⟨⟨false, rfl, fun h => by cases h⟩, rfl⟩
          · clear hbd2
            go_wp2_with fail
            go_ret
            exact ⟨⟨false, rfl, fun h => by cases h⟩, rfl⟩
      · by_cases hr1 : rlen ≤ 1048576
        · by_cases hr2 : u + (rlen : Int) ≤ 1048576
          · go_wp2_with fail
            go_ret
            exact ⟨⟨true, rfl, fun _ => ⟨⟨hlen, fun i hi => hbd.out i (by omega)⟩, hr1⟩⟩, rfl⟩
          · go_wp2_with fail
            go_ret
            exact ⟨⟨false, rfl, fun h => by cases h⟩, rfl⟩
        · go_wp2_with fail
          go_ret
          exact ⟨⟨false, rfl, fun h => by cases h⟩, rfl⟩
  · go_enter Try.func24, Try.ntmps24
    go_wp2_with fail
    go_ret
    exact ⟨⟨false, rfl, fun h => by cases h⟩, rfl⟩

/-! ### The plain law -/
/-- One crash of round r put in at place a. -/
theorem insert_evs (r : Int) (cs : List (Option Cr)) (a : Nat) (ha : a ≤ cs.length) (x : Cr) (hx : x.r = r) :
    evsFrom r 0 (cs.take a ++ [some x] ++ cs.drop a) = evsFrom r 0 (cs.take a) ++ ((((a + 1 : Nat) : Int), x) :: (evsFrom r 0 (cs.drop a)).map fun e => (e.1 + ((a + 1 : Nat) : Int), e.2)) := by
  rw [evsFrom_append, evsFrom_append, List.length_append, List.length_take, Nat.min_eq_left ha, List.append_assoc]
  congr 1
  have h2 : evsFrom r (0 + a) [some x] = [(((a + 1 : Nat) : Int), x)] := by simp [evsFrom, hx]
  rw [h2]
  have h3 : 0 + (a + [some x].length) = 0 + (a + 1) := by simp
  rw [h3, evsFrom_shift]
  rfl

/-- The values of the row of pointers. -/
def PList (w : World) (xs : List Value) (cs : List (Option Cr)) : Prop := xs.length = cs.length ∧ ∀ i, i < cs.length → PtrTo w (xs.getD i (.pointer none)) (cs.getD i none)

theorem PList.snoc {w : World} {xs : List Value} {cs : List (Option Cr)} (h : PList w xs cs) {q : Value} {x : Option Cr} (hq : PtrTo w q x) : PList w (xs ++ [q]) (cs ++ [x]) := by
  refine ⟨by simp [h.1], fun i hi => ?_⟩
  rcases Nat.lt_or_ge i cs.length with h1 | h1
  · rw [getD_left _ _ _ (by rw [h.1]; exact h1), getD_left _ _ _ h1]; exact h.2 i h1
  · have : i = cs.length := by simp at hi; omega
    subst this
    have e1 : (cs ++ [x]).getD cs.length none = x := by simp [List.getD_eq_getElem?_getD]
    have e2 : (xs ++ [q]).getD cs.length (.pointer none) = q := by rw [← h.1]; simp [List.getD_eq_getElem?_getD]
    rw [e1, e2]; exact hq

theorem PtrCell.open {w : World} {b o : Nat} {x : Option Cr} (h : PtrCell w b o x) : ∃ q, w.cell? ⟨b, o, none⟩ = some (.pointer q) ∧ PtrTo w (.pointer q) x := by
  cases x with
  | none => exact ⟨none, h, rfl⟩
  | some c =>
    obtain ⟨pb, po, h1, h2⟩ := h
    exact ⟨some ⟨pb, po, none⟩, h1, pb, po, rfl, h2⟩

/-- The row that append has built, read as a slice of pointers. -/
theorem ptrs_of_own {W w : World} {B : Nat} {v : Value} {xs : List Value} {cs : List (Option Cr)} (hown : w.ownsRow B 66 1 v cs.length xs) (hp : PList W xs cs) (hb : Below W.heap.size W w) (hn : 0 < cs.length) :
    ∃ g cap, v = .slice (some ⟨g, 0, none⟩) cs.length cap ∧ Ptrs w (some ⟨g, 0, none⟩) cs.length cs := by
  obtain ⟨hl, h1 | ⟨g, cap, cur, hv, hg, hh, hcap, hm, hsz, htake⟩⟩ := hown
  · omega
  · refine ⟨g, cap, hv, rfl, fun i hi => ⟨g, 0, rfl, ?_⟩⟩
    have hc : w.cell? ⟨g, i, none⟩ = some (xs.getD i (.pointer none)) := by
      have h2 : w.cell? ⟨g, i, none⟩ = cur[i]? := by simp [World.cell?, hh]
      have h3 : xs[i]? = cur[i]? := by
        rw [← htake, List.getElem?_take, if_pos (by omega)]; simp
      rw [h2, ← h3, List.getD_eq_getElem?_getD, List.getElem?_eq_getElem (by rw [hp.1]; exact hi)]; rfl
    have hq := (hp.2 i hi).below hb
    rw [Nat.zero_add]
    cases hx : cs.getD i none with
    | none => rw [hx] at hq; show w.cell? _ = _; rw [hc, hq]
    | some c =>
      rw [hx] at hq
      obtain ⟨pb, po, e, hcr⟩ := hq
      exact ⟨pb, po, by rw [hc, e], hcr⟩

end Go.Proofs.Qxb6613846a
