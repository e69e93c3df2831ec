import Derived.Test.Qxb6613797aLog
import Derived.Deep.RegionHeld3
import Derived.Deep.DrawnRows
namespace Go.Proofs.Qxb6613797a
open Go.RowKit
open Plain
set_option linter.unusedSimpArgs false
attribute [local go_sem ↓] Go.wp_at_zero Go.wp_at_succ

/-- The slice (ad, len) holds the marks ns. -/
structure Marks (w : World) (ad : Option Addr) (len : Nat) (ns : List (Int × Int)) : Prop where
  length : ns.length = len
  le : len ≤ maxLen
  cells : ∀ i, i < len → ∃ b off, ad = some ⟨b, off, none⟩ ∧ b < w.heap.size ∧ w.cell? ⟨b, off + i * 2, none⟩ = some (.int .u32 (ns.getD i (0, 0)).1) ∧ w.cell? ⟨b, off + i * 2 + 1, none⟩ = some (.int .i64 (ns.getD i (0, 0)).2)

theorem Marks.below {w w' : World} {B : Nat} {ad : Option Addr} {len : Nat} {ns : List (Int × Int)} (h : Marks w ad len ns) (hb : Below B w w') (hB : w.heap.size ≤ B) : Marks w' ad len ns :=
  ⟨h.length, h.le, fun i hi => by
    obtain ⟨b, off, e, lt, c0, c1⟩ := h.cells i hi
    exact ⟨b, off, e, Nat.lt_of_lt_of_le lt hb.size, (hb.cell (p := ⟨b, off + i * 2, none⟩) (by show b < B; omega)).trans c0, (hb.cell (p := ⟨b, off + i * 2 + 1, none⟩) (by show b < B; omega)).trans c1⟩⟩

theorem bcell {W w1 : World} (hb : Below W.heap.size W w1) : (∀ b o, b < W.heap.size → w1.cell? ⟨b, o, none⟩ = W.cell? ⟨b, o, none⟩) ∧ (∀ b o, b < W.heap.size → w1.frozen? ⟨b, o, none⟩ = W.frozen? ⟨b, o, none⟩) :=
  ⟨fun b o h => hb.cell (p := ⟨b, o, none⟩) h, fun b o h => hb.frozen (p := ⟨b, o, none⟩) h⟩

theorem anyLe_take_succ (ns : List (Int × Int)) (j : Nat) (q : Int × Int) (h : j < ns.length) : anyLe (ns.take (j + 1)) q = (anyLe (ns.take j) q || le q.1 q.2 (ns.getD j (0, 0)).1 (ns.getD j (0, 0)).2) := by
  unfold anyLe
  rw [List.take_succ_eq_append_getElem h]
  rw [List.any_append]
  simp [List.getD_eq_getElem?_getD, h]

theorem anyLe_of_take (ns : List (Int × Int)) (j : Nat) (q : Int × Int) (h : anyLe (ns.take j) q = true) : anyLe ns q = true := by
  unfold anyLe at *
  rw [List.any_eq_true] at *
  obtain ⟨x, hx, hl⟩ := h
  exact ⟨x, List.mem_of_mem_take hx, hl⟩

set_option maxHeartbeats 1000000 in
theorem anyAtOrAfter_any (k : Bool) (s o qs qo : Int) (ad : Option Addr) (len cap : Nat) (ns : List (Int × Int)) (w : World) (hm : Marks w ad len ns) :
    Calls Try.prog 10 #[.bool k, .agg #[.int .u32 s, .int .i64 o], .slice ad len cap, .agg #[.int .u32 qs, .int .i64 qo]] w fun e w' => e = .returned (.bool (want k s o ns (qs, qo))) ∧ Below w.heap.size w w' := by
  have hlen := hm.le
  unfold maxLen at hlen
  by_cases hk : (k && le qs qo s o) = true
  · obtain ⟨rfl, hle⟩ := Bool.and_eq_true_iff.1 hk
    go_enter Try.func10, Try.ntmps10
    go_wp2_with (go_at_call 14; refine (markLE_any _ _ _ _ _).mono ?_; rintro e w' ⟨rfl, hb⟩)
    go_ret
    exact ⟨by simp [want, hle], (((Below.refl _ _).alloc (Nat.le_refl _) _).alloc (by simp) _).trans (hb.mono (by simp; omega))⟩
  · have hk' : (k && le qs qo s o) = false := by simpa using hk
    have HW : Hid (want k s o ns (qs, qo) = anyLe ns (qs, qo)) := by show want _ _ _ _ _ = _; simp [want, hk']
    have hcase : k = false ∨ (k = true ∧ le qs qo s o = false) := by cases k <;> simp_all
    clear hk hk'
    rcases hcase with rfl | ⟨rfl, hle⟩
    all_goals
      go_enter Try.func10, Try.ntmps10
      go_wp2_with (go_at_call 14; refine (markLE_any _ _ _ _ _).mono ?_; rintro e w' ⟨rfl, hb⟩)
      go_loopw [9] (fun i wr => ∃ j : Nat, j ≤ len ∧ i = .int .i64 j ∧ Hid (anyLe (ns.take j) (qs, qo) = false) ∧ Below (w.heap.size + 1 + 1) ((w.alloc (.cells #[.int .u32 s, .int .i64 o] 24)).alloc (.cells #[.int .u32 qs, .int .i64 qo] 24)) wr) (fun i _ => len - (intOf i).toNat)
      case atStart =>
        refine ⟨0, Nat.zero_le _, rfl, rfl, ?_⟩
        first | exact Below.refl _ _ | exact hb.mono (by simp)
      case round =>
        obtain ⟨j, hj, rfl, hno, hbel⟩ := hrel
        have hm' : Marks wr ad len ns := (hm.below (((Below.refl _ _).alloc (Nat.le_refl _) _).alloc (by simp) _) (Nat.le_refl _)).below hbel (by simp)
        by_cases hlt : j < len
        · obtain ⟨b, off, rfl, blt, c0, c1⟩ := hm'.cells j hlt
          obtain ⟨n0, n1, hn⟩ : ∃ n0 n1, ns.getD j (0, 0) = (n0, n1) := ⟨_, _, rfl⟩
          rw [hn] at c0 c1
          dsimp only at c0 c1
          have hs := anyLe_take_succ ns j (qs, qo) (by rw [hm.length]; exact hlt)
          rw [hn, hno.out, Bool.false_or] at hs
          have HS : Hid (anyLe (ns.take (j + 1)) (qs, qo) = le qs qo n0 n1) := hs
          clear hs hn
          have e0 : wr.cell? ⟨w.heap.size + 1, 0, none⟩ = some (.int .u32 qs) := by rw [hbel.cell (p := ⟨w.heap.size + 1, 0, none⟩) (by simp)]; simp [go_sem]
          have e1 : wr.cell? ⟨w.heap.size + 1, 1, none⟩ = some (.int .i64 qo) := by rw [hbel.cell (p := ⟨w.heap.size + 1, 1, none⟩) (by simp)]; simp [go_sem]
          have hz : w.heap.size + 1 < wr.heap.size := by have := hbel.size; simp at this; omega
          have i0 : (0 : Int) ≤ (j : Int) := by omega
          have i1 : (j : Int) < (len : Int) := by omega
          have hbel2 : ∀ w', Below wr.drew.heap.size wr.drew w' → Below (w.heap.size + 1 + 1) ((w.alloc (.cells #[.int .u32 s, .int .i64 o] 24)).alloc (.cells #[.int .u32 qs, .int .i64 qo] 24)) w' :=
            fun w' h => (hbel.drew).trans (h.mono (by show _ ≤ wr.heap.size; omega))
          cases hle2 : le qs qo n0 n1
          all_goals
            go_wp2
            go_region_held3 (fun w' => w'.cell? ⟨w.heap.size + 1, 0, none⟩ = some (.int .u32 qs) ∧ w'.cell? ⟨w.heap.size + 1, 1, none⟩ = some (.int .i64 qo) ∧ w'.cell? ⟨b, off + j * 2, none⟩ = some (.int .u32 n0) ∧ w'.cell? ⟨b, off + j * 2 + 1, none⟩ = some (.int .i64 n1)) (go_keep)
              (first | (go_at_call 14; refine (markLE_any _ _ _ _ _).mono ?_; rintro e w' ⟨rfl, hb2⟩; have s0 := cell_later hb2 e0; have s1 := cell_later hb2 e1; have s2 := cell_later hb2 c0; have s3 := cell_later hb2 c1))
            go_wp2
            first
              | (go_roundw
                 case rel => exact ⟨j + 1, by omega, by go_num, HS.out.trans hle2, hbel2 _ hb2⟩
                 case measure => simp [intOf]; omega)
              | (go_ret
                 refine ⟨?_, (((Below.refl _ _).alloc (Nat.le_refl _) _).alloc (by simp) _).trans ((hbel2 _ hb2).mono (by omega))⟩
                 rw [HW.out, anyLe_of_take ns (j + 1) _ (HS.out.trans hle2)]; rfl)
        · go_wp2
          go_ret
          have : j = len := by omega
          subst this
          refine ⟨?_, ?_⟩
          · rw [HW.out]
            have := hno.out
            rw [List.take_of_length_le (by rw [hm.length]; exact Nat.le_refl _)] at this
            rw [this]; rfl
          · exact ((((Below.refl _ _).alloc (Nat.le_refl _) _).alloc (by simp) _)).trans (hbel.mono (by omega))

end Go.Proofs.Qxb6613797a
