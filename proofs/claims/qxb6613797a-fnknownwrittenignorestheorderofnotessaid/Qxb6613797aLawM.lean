import Derived.Test.Qxb6613797aAny
import Derived.Deep.RegionHeld3
import Derived.Deep.DrawnRows
namespace Go.Proofs.Qxb6613797a
open Go.RowKit
open Plain
set_option linter.unusedSimpArgs false
attribute [local go_sem ↓] Go.wp_at_zero Go.wp_at_succ

theorem Fr.below {b B : Nat} {w w' : World} (h : Fr b w w') (h1 : B ≤ b) (h2 : B ≤ w.heap.size) : Below B w w' :=
  ⟨h.os, h.tape, h.output, h.size, fun k hk => h.block k (by omega) (by omega)⟩

theorem take_succ_fold (e : WEnd) (ns : List (Int × Int)) (j : Nat) (h : j < ns.length) : (ns.take (j + 1)).foldl note e = note ((ns.take j).foldl note e) (ns.getD j (0, 0)) := by
  rw [List.take_succ_eq_append_getElem h, List.foldl_append]
  simp [List.getD_eq_getElem?_getD, h]

/-- The two boxes ahead: the start and the mark that is asked for. -/
def W1 (w : World) (s o qs qo : Int) : World := (w.alloc (.cells #[.int .u32 s, .int .i64 o] 24)).alloc (.cells #[.int .u32 qs, .int .i64 qo] 24)

theorem W1_size (w : World) (s o qs qo : Int) : (W1 w s o qs qo).heap.size = w.heap.size + 1 + 1 := by simp [W1]
theorem W1_below (w : World) (s o qs qo : Int) : Below w.heap.size w (W1 w s o qs qo) := ((Below.refl _ _).alloc (Nat.le_refl _) _).alloc (by simp) _
theorem W1_cells {w wr : World} {s o qs qo : Int} (h : Below (w.heap.size + 1 + 1) (W1 w s o qs qo) wr) :
    wr.cell? ⟨w.heap.size, 0, none⟩ = some (.int .u32 s) ∧ wr.cell? ⟨w.heap.size, 1, none⟩ = some (.int .i64 o) ∧ wr.cell? ⟨w.heap.size + 1, 0, none⟩ = some (.int .u32 qs) ∧ wr.cell? ⟨w.heap.size + 1, 1, none⟩ = some (.int .i64 qo) := by
  refine ⟨?_, ?_, ?_, ?_⟩
  · rw [h.cell (p := ⟨w.heap.size, 0, none⟩) (by simp; omega)]; simp [W1, go_sem]
  · rw [h.cell (p := ⟨w.heap.size, 1, none⟩) (by simp; omega)]; simp [W1, go_sem]
  · rw [h.cell (p := ⟨w.heap.size + 1, 0, none⟩) (by simp)]; simp [W1, go_sem]
  · rw [h.cell (p := ⟨w.heap.size + 1, 1, none⟩) (by simp)]; simp [W1, go_sem]

set_option maxHeartbeats 400000 in
theorem lawM_out1 (k : Bool) (s o qs qo : Int) (ad : Option Addr) (len cap : Nat) (w : World) (hl : len ≤ maxLen) (hbig : 65536 < len) :
    Calls Try.prog 3 #[.bool k, .agg #[.int .u32 s, .int .i64 o], .slice ad len cap, .agg #[.int .u32 qs, .int .i64 qo]] w fun e w' => e = .returned (.bool true) ∧ Below w.heap.size w w' := by
  have hl' := hl
  unfold maxLen at hl'
  by_cases h20 : len ≤ 1048576
  all_goals
    go_enter Try.func3, Try.ntmps3
    go_wp2_with (go_at_call 5; refine (bytesM_any _ _ _ _ _ _ _ _ _ hl).mono ?_; rintro e w' ⟨rfl, hb⟩)
    go_ret
    exact ⟨rfl, (W1_below w s o qs qo).trans (hb.mono (by simp; omega))⟩

set_option maxHeartbeats 400000 in
theorem lawM_out2 (s o qs qo : Int) (ad : Option Addr) (len cap : Nat) (w : World) (hl : len ≤ maxLen) (hle : len ≤ 65536) (hso : s ≠ 0 ∨ o ≠ 0) :
    Calls Try.prog 3 #[.bool false, .agg #[.int .u32 s, .int .i64 o], .slice ad len cap, .agg #[.int .u32 qs, .int .i64 qo]] w fun e w' => e = .returned (.bool true) ∧ Below w.heap.size w w' := by
  by_cases hs : s = 0
  · subst hs
    have ho : o ≠ 0 := by omega
    have h20 : len ≤ 1048576 := by omega
    go_enter Try.func3, Try.ntmps3
    go_wp2_with (go_at_call 5; refine (bytesM_any _ _ _ _ _ _ _ _ _ hl).mono ?_; rintro e w' ⟨rfl, hb⟩; have g0 := cell_later hb (W1_cells (Below.refl _ (W1 w 0 o qs qo))).1; have g1 := cell_later hb (W1_cells (Below.refl _ (W1 w 0 o qs qo))).2.1)
    go_ret
    exact ⟨rfl, (W1_below w 0 o qs qo).trans (hb.mono (by simp; omega))⟩
  · have h20 : len ≤ 1048576 := by omega
    go_enter Try.func3, Try.ntmps3
    go_wp2_with (go_at_call 5; refine (bytesM_any _ _ _ _ _ _ _ _ _ hl).mono ?_; rintro e w' ⟨rfl, hb⟩; have g0 := cell_later hb (W1_cells (Below.refl _ (W1 w s o qs qo))).1; have g1 := cell_later hb (W1_cells (Below.refl _ (W1 w s o qs qo))).2.1)
    go_ret
    exact ⟨rfl, (W1_below w s o qs qo).trans (hb.mono (by simp; omega))⟩

/-- What the law's rest needs of the written end behind all notes. -/
structure Good (e : WEnd) (k : Bool) (s o qs qo : Int) (ns : List (Int × Int)) : Prop where
  q : knows e (qs, qo) = want k s o ns (qs, qo)
  each : ∀ j, j < ns.length → knows e (ns.getD j (0, 0)) = true
  start : k = true → knows e (s, o) = true

theorem good_fold (k : Bool) (s o qs qo : Int) (ns : List (Int × Int)) : Good (ns.foldl note ⟨s, o, k⟩) k s o qs qo ns :=
  ⟨knows_want s o k ns (qs, qo), fun j hj => knows_each _ ns _ (by rw [List.getD_eq_getElem?_getD, List.getElem?_eq_getElem hj]; exact List.getElem_mem hj), fun h => by subst h; exact knows_known s o ns⟩

set_option maxHeartbeats 1000000 in
theorem lawM_main (k : Bool) (s o qs qo : Int) (ad : Option Addr) (len cap : Nat) (ns : List (Int × Int)) (w : World) (hm : Marks w ad len ns) (hle : len ≤ 65536) (hso : k = true ∨ (s = 0 ∧ o = 0)) :
    Calls Try.prog 3 #[.bool k, .agg #[.int .u32 s, .int .i64 o], .slice ad len cap, .agg #[.int .u32 qs, .int .i64 qo]] w fun e w' => e = .returned (.bool true) ∧ Below w.heap.size w w' := by
  have hl := hm.le
  have h20 : len ≤ 1048576 := by omega
  have hm1 : Marks (W1 w s o qs qo) ad len ns := hm.below (W1_below w s o qs qo) (Nat.le_refl _)
  have hlen := hm.length
  obtain ⟨e0, he0⟩ : ∃ e0 : WEnd, Hid (e0 = ⟨s, o, k⟩) := ⟨_, rfl⟩
  have hb1 : k = true ∨ (k = false ∧ 0 ≤ s ∧ s ≤ 0 ∧ 0 ≤ o ∧ o ≤ 0) := by
    cases k
    · rcases hso with h | ⟨h1, h2⟩
      · cases h
      · subst h1 h2; exact Or.inr ⟨rfl, by omega, by omega, by omega, by omega⟩
    · left; rfl
  clear hso
  have hgood : ∀ ej, Hid (ns.foldl note e0 = ej) → Good ej k s o qs qo ns := fun ej h => by rw [← h.out, he0.out]; exact good_fold k s o qs qo ns
  rcases hb1 with rfl | ⟨rfl, hs1, hs2, ho1, ho2⟩
  all_goals
    go_enter Try.func3, Try.ntmps3
    go_wp2_with (go_at_call 5; refine (bytesM_any _ _ _ _ _ _ _ _ _ hl).mono ?_; rintro e w' ⟨rfl, hb⟩; obtain ⟨g0, g1, g2, g3⟩ := W1_cells (hb.mono (by simp)); replace hb : Below (w.heap.size + 1 + 1) (W1 w s o qs qo) w' := (hb.mono (by simp)))
    refine (toMark_any _ _ _).mono ?_
    rintro e w2 ⟨rfl, hb2⟩
    replace hb2 : Below (w.heap.size + 1 + 1) (W1 w s o qs qo) w2 := hb.trans (hb2.mono (by have := hb.size; rw [W1_size] at this; omega))
    clear hb g0 g1 g2 g3
    go_wp2_with fail
    refine (newLog_any _ _ _ _ _ _ _ _).mono ?_
    rintro e w3 ⟨g, rfl, hg, hlog, hb3⟩
    have hz2 : w.heap.size + 1 + 1 ≤ w2.heap.size := by have := hb2.size; rw [W1_size] at this; exact this
    have hgB : w.heap.size + 1 + 1 ≤ g := by omega
    replace hlog : LogAt w3 g e0 := by
      rw [he0.out]
      first
        | exact hlog
        | (have q1 : s = 0 := by omega
           rw [q1]; exact hlog)
    replace hb3 : Below (w.heap.size + 1 + 1) (W1 w s o qs qo) w3 := hb2.trans (hb3.mono hz2)
    clear hb2 hg hz2
    go_wp2_with fail
    go_loopw [10] (fun i wr => ∃ j : Nat, j ≤ len ∧ i = .int .i64 j ∧ LogAt wr g ((ns.take j).foldl note e0) ∧ Below (w.heap.size + 1 + 1) (W1 w s o qs qo) wr) (fun i _ => len - (intOf i).toNat)
    case atStart => exact ⟨0, Nat.zero_le _, rfl, hlog, hb3⟩
    case round =>
      obtain ⟨j, hj, rfl, hlg, hbel⟩ := hrel
      clear hlog hb3
      have hz : w.heap.size + 1 + 1 ≤ wr.heap.size := by have := hbel.size; rw [W1_size] at this; exact this
      have hmr : Marks wr ad len ns := hm1.below hbel (by rw [W1_size]; exact Nat.le_refl _)
      by_cases hlt : j < len
      · obtain ⟨b, off, rfl, blt, c0, c1⟩ := hmr.cells j hlt
        have hfold := take_succ_fold e0 ns j (by rw [hlen]; exact hlt)
        obtain ⟨n0, n1, hn⟩ : ∃ n0 n1, ns.getD j (0, 0) = (n0, n1) := ⟨_, _, rfl⟩
        rw [hn] at c0 c1 hfold
        dsimp only at c0 c1
        obtain ⟨ej, hej⟩ : ∃ ej, (ns.take j).foldl note e0 = ej := ⟨_, rfl⟩
        rw [hej] at hlg hfold
        have HF : Hid ((ns.take (j + 1)).foldl note e0 = note ej (n0, n1)) := hfold
        clear hn hfold hej
        go_wp2_with fail
        refine (toMark_any _ _ _).mono ?_
        rintro e w4 ⟨rfl, hb4⟩
        have hlg4 := hlg.below hb4 hlg.lt
        have hb4' : Below (w.heap.size + 1 + 1) (W1 w s o qs qo) w4 := hbel.trans (hb4.mono hz)
        have hz4 : w.heap.size + 1 + 1 ≤ w4.heap.size := by have := hb4.size; omega
        go_wp2_with fail
        refine (noteWritten_any g ej _ _ _ hlg4).mono ?_
        rintro e w5 ⟨rfl, hlg5, hf5⟩
        go_wp2_with fail
        go_roundw
        case rel => exact ⟨j + 1, by omega, by go_num, by rw [HF.out]; exact hlg5, hb4'.trans (hf5.below hgB hz4)⟩
        case measure => simp [intOf]; omega
      · have hjl : j = len := by omega
        subst hjl
        obtain ⟨ej, hej⟩ : ∃ ej, Hid ((ns.take j).foldl note e0 = ej) := ⟨_, rfl⟩
        rw [hej.out] at hlg
        have good := hgood ej (by rw [← hej.out, List.take_of_length_le (by rw [hlen]; exact Nat.le_refl _)]; rfl)
        obtain ⟨g0, g1, g2, g3⟩ := W1_cells hbel
        have hkq := good.q
        have hlgd : LogAt wr.drew g ej := hlg.drewN 1
        have hmd : Marks wr.drew ad j ns := hmr.below (Below.drew (Below.refl wr.heap.size wr)) (Nat.le_refl _)
        go_wp2_with fail
        go_region_held3 (fun w' => w'.cell? ⟨w.heap.size, 0, none⟩ = some (.int .u32 s) ∧ w'.cell? ⟨w.heap.size, 1, none⟩ = some (.int .i64 o) ∧ w'.cell? ⟨w.heap.size + 1, 0, none⟩ = some (.int .u32 qs) ∧ w'.cell? ⟨w.heap.size + 1, 1, none⟩ = some (.int .i64 qo)) (go_keep)
          (first
            | (go_at_call 7; refine (toMark_any _ _ _).mono ?_; rintro e w6 ⟨rfl, hb6⟩; have g06 := cell_later hb6 g0; have g16 := cell_later hb6 g1; have g26 := cell_later hb6 g2; have g36 := cell_later hb6 g3; have hlg6 := hlgd.below hb6 hlgd.lt; have hm6 := hmd.below hb6 (Nat.le_refl _))
            | (go_at_call 9; refine (zzKnownWritten_any g ej _ _ _ hlg6).mono ?_; rintro e w7 ⟨rfl, hb7⟩; have g07 := cell_later hb7 g06; have g17 := cell_later hb7 g16; have g27 := cell_later hb7 g26; have g37 := cell_later hb7 g36; have hlg7 := hlg6.below hb7 hlg6.lt; have hm7 := hm6.below hb7 (Nat.le_refl _))
            | (go_at_call 10; refine (anyAtOrAfter_any _ _ _ _ _ _ _ _ ns _ hm7).mono ?_; rintro e w8 ⟨rfl, hb8⟩; have g08 := cell_later hb8 g07; have g18 := cell_later hb8 g17; have g28 := cell_later hb8 g27; have g38 := cell_later hb8 g37; have hlg8 := hlg7.below hb8 hlg7.lt; have hm8 := hm7.below hb8 (Nat.le_refl _)))
        have hb9 : Below (w.heap.size + 1 + 1) (W1 w s o qs qo) w8 := hbel.drew.trans ((hb6.mono hz).trans ((hb7.mono (by have := hb6.size; have : wr.drew.heap.size = wr.heap.size := rfl; omega)).trans (hb8.mono (by have := hb6.size; have := hb7.size; have : wr.drew.heap.size = wr.heap.size := rfl; omega))))
        have hz9 : w.heap.size + 1 + 1 ≤ w8.heap.size := by have := hb9.size; rw [W1_size] at this; exact this
        clear hb6 hb7 hb8 hbel g0 g1 g2 g3 g06 g16 g26 g36 g07 g17 g27 g37 g28 g38 hlg6 hm6 hlg7 hm7 hlg hmr hlgd hmd hz
        go_wp2_with fail
        go_loopw [11] (fun i wq => ∃ m : Nat, m ≤ j ∧ i = .int .i64 m ∧ Below w8.heap.size w8 wq) (fun i _ => j - (intOf i).toNat)
        case atStart => exact ⟨0, Nat.zero_le _, rfl, Below.refl _ _⟩
        case round =>
          obtain ⟨m, hmj, rfl, hbq⟩ := hrel
          have hlq := hlg8.below hbq hlg8.lt
          have hmq := hm8.below hbq (Nat.le_refl _)
          by_cases hlt : m < j
          · obtain ⟨b, off, rfl, blt, c0, c1⟩ := hmq.cells m hlt
            have hk1 := good.each m (by rw [hlen]; exact hlt)
            obtain ⟨n0, n1, hn⟩ : ∃ n0 n1, ns.getD m (0, 0) = (n0, n1) := ⟨_, _, rfl⟩
            rw [hn] at c0 c1 hk1
            dsimp only at c0 c1
            clear hn
            go_wp2_with fail
            refine (toMark_any _ _ _).mono ?_
            rintro e w4 ⟨rfl, hb4⟩
            have hl4 := hlq.below hb4 hlq.lt
            go_wp2_with fail
            refine (zzKnownWritten_any g ej _ _ _ hl4).mono ?_
            rintro e w5 ⟨rfl, hb5⟩
            go_wp2_with fail
            go_roundw
            case rel => exact ⟨m + 1, by omega, by go_num, hbq.trans ((hb4.mono hbq.size).trans (hb5.mono (Nat.le_trans hbq.size hb4.size)))⟩
            case measure => simp [intOf]; omega
          · have e0 := cell_later hbq g08
            have e1 := cell_later hbq g18
            have hfin : ∀ w', Below wr.heap.size wr w' → Below w.heap.size w w' := fun w' h => (W1_below w s o qs qo).trans ((hb9.trans ((hbq.mono hz9).trans (h.mono (Nat.le_trans hz9 hbq.size)))).mono (by omega))
            have hks := good.start
            first
              | (go_wp2_with fail
                 go_ret
                 exact ⟨rfl, hfin _ (Below.refl _ _)⟩)
              | (replace hks := hks rfl
                 go_wp2_with fail
                 refine (toMark_any _ _ _).mono ?_
                 rintro e w4 ⟨rfl, hb4⟩
                 have hl4 := hlq.below hb4 hlq.lt
                 go_wp2_with fail
                 refine (zzKnownWritten_any g ej _ _ _ hl4).mono ?_
                 rintro e w5 ⟨rfl, hb5⟩
                 go_wp2_with fail
                 go_ret
                 exact ⟨rfl, hfin _ (hb4.trans (hb5.mono hb4.size))⟩)

end Go.Proofs.Qxb6613797a
