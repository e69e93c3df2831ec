import Derived.Test.Qxb6613797aLawM
import Derived.Deep.DrawnRows
namespace Go.Proofs.Qxb6613797a
open Go.RowKit
open Plain
set_option linter.unusedSimpArgs false

theorem LogAt.fr {w w' : World} {b g : Nat} {e : WEnd} (h : LogAt w b e) (hf : Fr g w w') (ne : b ≠ g) : LogAt w' b e := by
  have hk := hf.block b h.lt ne
  have c : ∀ i, w'.cell? ⟨b, i, none⟩ = w.cell? ⟨b, i, none⟩ := fun i => World.cell?_of_block (w := w) hk
  have f : ∀ i, w'.frozen? ⟨b, i, none⟩ = w.frozen? ⟨b, i, none⟩ := fun i => World.frozen?_of_block (w := w) hk
  exact ⟨Nat.lt_of_lt_of_le h.lt hf.size, (c 8).trans h.c8, (c 9).trans h.c9, (c 10).trans h.c10, (c 11).trans h.c11, (f 8).trans h.f8, (f 9).trans h.f9, (f 10).trans h.f10, (f 11).trans h.f11⟩

theorem drop_succ_fold (e : WEnd) (ns : List (Int × Int)) (c m : Nat) (h : c + m < ns.length) : ((ns.drop c).take (m + 1)).foldl note e = note (((ns.drop c).take m).foldl note e) (ns.getD (c + m) (0, 0)) := by
  rw [take_succ_fold e (ns.drop c) m (by simp; omega)]
  congr 1
  simp [List.getD_eq_getElem?_getD, List.getElem?_drop]

/-- What the law's rest needs of the two written ends behind all notes. -/
structure Good2 (ea eb : WEnd) (k : Bool) (s o qs qo : Int) (ns : List (Int × Int)) : Prop where
  qa : knows ea (qs, qo) = want k s o ns (qs, qo)
  qb : knows eb (qs, qo) = want k s o ns (qs, qo)
  each : ∀ j, j < ns.length → knows eb (ns.getD j (0, 0)) = true

theorem good2_fold (k : Bool) (s o qs qo : Int) (ns : List (Int × Int)) (c : Nat) : Good2 (ns.foldl note ⟨s, o, k⟩) ((ns.take c).foldl note ((ns.drop c).foldl note ⟨s, o, k⟩)) k s o qs qo ns := by
  refine ⟨knows_want s o k ns (qs, qo), ?_, fun j hj => ?_⟩
  · rw [← List.foldl_append]; exact knows_rot s o k ns c (qs, qo)
  · rw [← List.foldl_append]
    exact knows_each _ _ _ (mem_rot ns c _ (by rw [List.getD_eq_getElem?_getD, List.getElem?_eq_getElem hj]; exact List.getElem_mem hj))

set_option maxHeartbeats 400000 in
theorem lawI_out1 (k : Bool) (s o qs qo cut : Int) (ad : Option Addr) (len cap : Nat) (w : World) (hl : len ≤ maxLen) (hbig : 65536 < len) :
    Calls Try.prog 4 #[.bool k, .agg #[.int .u32 s, .int .i64 o], .slice ad len cap, .int .i64 cut, .agg #[.int .u32 qs, .int .i64 qo]] w fun e w' => e = .returned (.bool true) ∧ Below w.heap.size w w' := by
  have hl' := hl
  unfold maxLen at hl'
  by_cases h20 : len ≤ 1048576
  all_goals
    go_enter Try.func4, Try.ntmps4
    go_wp2_with (go_at_call 11; refine (bytesI_any _ _ _ _ _ _ _ _ _ _ hl).mono ?_; rintro e w' ⟨rfl, hb⟩)
    go_ret
    exact ⟨rfl, (W1_below w s o qs qo).trans (hb.mono (by simp; omega))⟩

set_option maxHeartbeats 400000 in
theorem lawI_out2 (k : Bool) (s o qs qo cut : Int) (ad : Option Addr) (len cap : Nat) (w : World) (hl : len ≤ maxLen) (hle : len ≤ 65536) (hc : cut < 0 ∨ (len : Int) < cut) :
    Calls Try.prog 4 #[.bool k, .agg #[.int .u32 s, .int .i64 o], .slice ad len cap, .int .i64 cut, .agg #[.int .u32 qs, .int .i64 qo]] w fun e w' => e = .returned (.bool true) ∧ Below w.heap.size w w' := by
  have h20 : len ≤ 1048576 := by omega
  by_cases h0 : cut < 0
  · go_enter Try.func4, Try.ntmps4
    go_wp2_with (go_at_call 11; refine (bytesI_any _ _ _ _ _ _ _ _ _ _ hl).mono ?_; rintro e w' ⟨rfl, hb⟩)
    go_ret
    exact ⟨rfl, (W1_below w s o qs qo).trans (hb.mono (by simp; omega))⟩
  · have h1 : (len : Int) < cut := by omega
    go_enter Try.func4, Try.ntmps4
    go_wp2_with (go_at_call 11; refine (bytesI_any _ _ _ _ _ _ _ _ _ _ hl).mono ?_; rintro e w' ⟨rfl, hb⟩)
    go_ret
    exact ⟨rfl, (W1_below w s o qs qo).trans (hb.mono (by simp; omega))⟩

set_option maxHeartbeats 400000 in
theorem lawI_out3 (s o qs qo cut : Int) (ad : Option Addr) (len cap : Nat) (w : World) (hl : len ≤ maxLen) (hle : len ≤ 65536) (hc0 : 0 ≤ cut) (hc1 : cut ≤ (len : Int)) (hso : s ≠ 0 ∨ o ≠ 0) :
    Calls Try.prog 4 #[.bool false, .agg #[.int .u32 s, .int .i64 o], .slice ad len cap, .int .i64 cut, .agg #[.int .u32 qs, .int .i64 qo]] w fun e w' => e = .returned (.bool true) ∧ Below w.heap.size w w' := by
  by_cases hs : s = 0
  · subst hs
    have ho : o ≠ 0 := by omega
    have h20 : len ≤ 1048576 := by omega
    go_enter Try.func4, Try.ntmps4
    go_wp2_with (go_at_call 11; refine (bytesI_any _ _ _ _ _ _ _ _ _ _ hl).mono ?_; rintro e w' ⟨rfl, hb⟩; have g0 := cell_later hb (W1_cells (Below.refl _ (W1 w 0 o qs qo))).1; have g1 := cell_later hb (W1_cells (Below.refl _ (W1 w 0 o qs qo))).2.1)
    go_ret
    exact ⟨rfl, (W1_below w 0 o qs qo).trans (hb.mono (by simp; omega))⟩
  · have h20 : len ≤ 1048576 := by omega
    go_enter Try.func4, Try.ntmps4
    go_wp2_with (go_at_call 11; refine (bytesI_any _ _ _ _ _ _ _ _ _ _ hl).mono ?_; rintro e w' ⟨rfl, hb⟩; have g0 := cell_later hb (W1_cells (Below.refl _ (W1 w s o qs qo))).1; have g1 := cell_later hb (W1_cells (Below.refl _ (W1 w s o qs qo))).2.1)
    go_ret
    exact ⟨rfl, (W1_below w s o qs qo).trans (hb.mono (by simp; omega))⟩

set_option maxHeartbeats 2000000 in
theorem lawI_main (k : Bool) (s o qs qo : Int) (c : Nat) (ad : Option Addr) (len cap : Nat) (ns : List (Int × Int)) (w : World) (hm : Marks w ad len ns) (hle : len ≤ 65536) (hcl : c ≤ len) (hso : k = true ∨ (s = 0 ∧ o = 0)) :
    Calls Try.prog 4 #[.bool k, .agg #[.int .u32 s, .int .i64 o], .slice ad len cap, .int .i64 (c : Int), .agg #[.int .u32 qs, .int .i64 qo]] w fun e w' => e = .returned (.bool true) ∧ Below w.heap.size w w' := by
  have hl := hm.le
  have h20 : len ≤ 1048576 := by omega
  have hc0 : (0 : Int) ≤ (c : Int) := by omega
  have hc1 : (c : Int) ≤ (len : Int) := by omega
  have hm1 : Marks (W1 w s o qs qo) ad len ns := hm.below (W1_below w s o qs qo) (Nat.le_refl _)
  have hlen : Hid (ns.length = len) := hm.length
  obtain ⟨e0, he0⟩ : ∃ e0 : WEnd, Hid (e0 = ⟨s, o, k⟩) := ⟨_, rfl⟩
  have hb1 : k = true ∨ (k = false ∧ 0 ≤ s ∧ s ≤ 0 ∧ 0 ≤ o ∧ o ≤ 0) := by
    cases k
    · rcases hso with h | ⟨h1, h2⟩
      · cases h
      · subst h1 h2; exact Or.inr ⟨rfl, by omega, by omega, by omega, by omega⟩
    · left; rfl
  clear hso
  have hgood : ∀ ea eb, Hid (ns.foldl note e0 = ea) → Hid ((ns.take c).foldl note ((ns.drop c).foldl note e0) = eb) → Good2 ea eb k s o qs qo ns := fun ea eb h h' => by rw [← h.out, ← h'.out, he0.out]; exact good2_fold k s o qs qo ns c
  rcases hb1 with rfl | ⟨rfl, hs1, hs2, ho1, ho2⟩
  all_goals
    go_enter Try.func4, Try.ntmps4
    go_wp2_with (go_at_call 11; refine (bytesI_any _ _ _ _ _ _ _ _ _ _ hl).mono ?_; rintro e w' ⟨rfl, hb⟩; obtain ⟨g0, g1, g2, g3⟩ := W1_cells (hb.mono (by simp)); replace hb : Below (w.heap.size + 1 + 1) (W1 w s o qs qo) w' := (hb.mono (by simp)))
    refine (toMark_any _ _ _).mono ?_
    rintro e w2 ⟨rfl, hb2⟩
    replace hb2 : Below (w.heap.size + 1 + 1) (W1 w s o qs qo) w2 := hb.trans (hb2.mono (by have := hb.size; rw [W1_size] at this; omega))
    clear hb g0 g1 g2 g3
    go_wp2_with fail
    refine (newLog_any _ _ _ _ _ _ _ _).mono ?_
    rintro e w3 ⟨ga, rfl, hga, hlga, hb3⟩
    have hz2 : w.heap.size + 1 + 1 ≤ w2.heap.size := by have := hb2.size; rw [W1_size] at this; exact this
    have hgaB : w.heap.size + 1 + 1 ≤ ga := by omega
    replace hlga : LogAt w3 ga e0 := by
      rw [he0.out]
      first
        | exact hlga
        | (have q1 : s = 0 := by omega
           rw [q1]; exact hlga)
    replace hb3 : Below (w.heap.size + 1 + 1) (W1 w s o qs qo) w3 := hb2.trans (hb3.mono hz2)
    clear hb2 hga hz2
    obtain ⟨g0, g1, g2, g3⟩ := W1_cells hb3
    go_wp2_with fail
    refine (toMark_any _ _ _).mono ?_
    rintro e w4 ⟨rfl, hb4⟩
    have hz3 : w.heap.size + 1 + 1 ≤ w3.heap.size := by have := hb3.size; rw [W1_size] at this; exact this
    replace hlga : LogAt w4 ga e0 := hlga.below hb4 hlga.lt
    replace hb4 : Below (w.heap.size + 1 + 1) (W1 w s o qs qo) w4 := hb3.trans (hb4.mono hz3)
    clear g0 g1 g2 g3 hb3 hz3
    go_wp2_with fail
    refine (newLog_any _ _ _ _ _ _ _ _).mono ?_
    rintro e w5 ⟨gb, rfl, hgb, hlgb, hb5⟩
    have hz4 : w.heap.size + 1 + 1 ≤ w4.heap.size := by have := hb4.size; rw [W1_size] at this; exact this
    have hgbB : w.heap.size + 1 + 1 ≤ gb := by omega
    have hab : ga < gb := Nat.lt_of_lt_of_le hlga.lt hgb
    replace hlga : LogAt w5 ga e0 := hlga.below hb5 hlga.lt
    replace hlgb : LogAt w5 gb e0 := by
      rw [he0.out]
      first
        | exact hlgb
        | (have q1 : s = 0 := by omega
           rw [q1]; exact hlgb)
    replace hb5 : Below (w.heap.size + 1 + 1) (W1 w s o qs qo) w5 := hb4.trans (hb5.mono hz4)
    clear hb4 hgb hz4
    go_wp2_with fail
    go_loopw [13] (fun i wr => ∃ j : Nat, j ≤ len ∧ i = .int .i64 j ∧ LogAt wr ga ((ns.take j).foldl note e0) ∧ LogAt wr gb e0 ∧ Below (w.heap.size + 1 + 1) (W1 w s o qs qo) wr) (fun i _ => len - (intOf i).toNat)
    case atStart => exact ⟨0, Nat.zero_le _, rfl, hlga, hlgb, hb5⟩
    case round =>
      obtain ⟨j, hj, rfl, hla, hlb, hbel⟩ := hrel
      clear hlga hlgb hb5
      have hz : w.heap.size + 1 + 1 ≤ wr.heap.size := by have := hbel.size; rw [W1_size] at this; exact this
      have hmr : Marks wr ad len ns := hm1.below hbel (by rw [W1_size]; exact Nat.le_refl _)
      by_cases hlt : j < len
      · obtain ⟨b, off, rfl, blt, c0, c1⟩ := hmr.cells j hlt
        have hfold := take_succ_fold e0 ns j (by rw [hlen.out]; exact hlt)
        obtain ⟨n0, n1, hn⟩ : ∃ n0 n1, ns.getD j (0, 0) = (n0, n1) := ⟨_, _, rfl⟩
        rw [hn] at c0 c1 hfold
        dsimp only at c0 c1
        obtain ⟨ej, hej⟩ : ∃ ej, (ns.take j).foldl note e0 = ej := ⟨_, rfl⟩
        rw [hej] at hla hfold
        have HF : Hid ((ns.take (j + 1)).foldl note e0 = note ej (n0, n1)) := hfold
        clear hn hfold hej
        go_wp2_with fail
        refine (toMark_any _ _ _).mono ?_
        rintro e w6 ⟨rfl, hb6⟩
        have hla6 := hla.below hb6 hla.lt
        have hlb6 := hlb.below hb6 hlb.lt
        have hb6' : Below (w.heap.size + 1 + 1) (W1 w s o qs qo) w6 := hbel.trans (hb6.mono hz)
        have hz6 : w.heap.size + 1 + 1 ≤ w6.heap.size := by have := hb6.size; omega
        go_wp2_with fail
        refine (noteWritten_any ga ej _ _ _ hla6).mono ?_
        rintro e w7 ⟨rfl, hla7, hf7⟩
        go_wp2_with fail
        go_roundw
        case rel => exact ⟨j + 1, by omega, by go_num, by rw [HF.out]; exact hla7, hlb6.fr hf7 (by omega), hb6'.trans (hf7.below hgaB hz6)⟩
        case measure => simp [intOf]; omega
      · have hjl : j = len := by omega
        obtain ⟨ea, hea⟩ : ∃ ea, Hid ((ns.take j).foldl note e0 = ea) := ⟨_, rfl⟩
        rw [hea.out] at hla
        replace hea : Hid (ns.foldl note e0 = ea) := by rw [← hea.out, List.take_of_length_le (by rw [hlen.out]; omega)]; rfl
        clear hjl hmr
        go_wp2_with fail
        go_loopw [14] (fun i wx => ∃ m : Nat, c + m ≤ len ∧ i = .int .i64 ((c + m : Nat) : Int) ∧ LogAt wx ga ea ∧ LogAt wx gb (((ns.drop c).take m).foldl note e0) ∧ Below (w.heap.size + 1 + 1) (W1 w s o qs qo) wx) (fun i _ => len - (intOf i).toNat)
        case atStart => exact ⟨0, by omega, rfl, hla, hlb, hbel⟩
        case round =>
          clear hla hlb hbel hz hlt hj
          obtain ⟨m, hj, rfl, hla, hlb, hbel⟩ := hrel
          have hz : w.heap.size + 1 + 1 ≤ wr.heap.size := by have := hbel.size; rw [W1_size] at this; exact this
          have hmr : Marks wr ad len ns := hm1.below hbel (by rw [W1_size]; exact Nat.le_refl _)
          by_cases hlt : c + m < len
          · obtain ⟨b, off, rfl, blt, c0, c1⟩ := hmr.cells (c + m) hlt
            have hfold := drop_succ_fold e0 ns c m (by rw [hlen.out]; exact hlt)
            obtain ⟨n0, n1, hn⟩ : ∃ n0 n1, ns.getD (c + m) (0, 0) = (n0, n1) := ⟨_, _, rfl⟩
            rw [hn] at c0 c1 hfold
            dsimp only at c0 c1
            obtain ⟨ej, hej⟩ : ∃ ej, ((ns.drop c).take m).foldl note e0 = ej := ⟨_, rfl⟩
            rw [hej] at hlb hfold
            have HF : Hid (((ns.drop c).take (m + 1)).foldl note e0 = note ej (n0, n1)) := hfold
            clear hn hfold hej
            obtain ⟨t, ht⟩ : ∃ t, Hid (t = c + m) := ⟨_, rfl⟩
            rw [← ht.out] at hlt c0 c1 hj ⊢
            go_wp2_with fail
            refine (toMark_any _ _ _).mono ?_
            rintro e w6 ⟨rfl, hb6⟩
            have hla6 := hla.below hb6 hla.lt
            have hlb6 := hlb.below hb6 hlb.lt
            have hb6' : Below (w.heap.size + 1 + 1) (W1 w s o qs qo) w6 := hbel.trans (hb6.mono hz)
            have hz6 : w.heap.size + 1 + 1 ≤ w6.heap.size := by have := hb6.size; omega
            go_wp2_with fail
            refine (noteWritten_any gb ej _ _ _ hlb6).mono ?_
            rintro e w7 ⟨rfl, hlb7, hf7⟩
            go_wp2_with fail
            go_roundw
            case rel => exact ⟨m + 1, by rw [← Nat.add_assoc, ← ht.out]; omega, by rw [← Nat.add_assoc, ← ht.out]; go_num, hla6.fr hf7 (by omega), by rw [HF.out]; exact hlb7, hb6'.trans (hf7.below hgbB hz6)⟩
            case measure => simp [intOf]; omega
          · obtain ⟨e2, he2⟩ : ∃ e2, Hid (((ns.drop c).take m).foldl note e0 = e2) := ⟨_, rfl⟩
            rw [he2.out] at hlb
            replace he2 : Hid ((ns.drop c).foldl note e0 = e2) := by rw [← he2.out, List.take_of_length_le (by rw [List.length_drop, hlen.out]; omega)]; rfl
            clear hmr
            obtain ⟨t, ht⟩ : ∃ t, Hid (t = c + m) := ⟨_, rfl⟩
            rw [← ht.out] at hlt hj ⊢
            go_wp2_with fail
            go_loopw [15] (fun i wx => ∃ j : Nat, j ≤ c ∧ i = .int .i64 j ∧ LogAt wx ga ea ∧ LogAt wx gb ((ns.take j).foldl note e2) ∧ Below (w.heap.size + 1 + 1) (W1 w s o qs qo) wx) (fun i _ => c - (intOf i).toNat)
            case atStart => exact ⟨0, by omega, rfl, hla, hlb, hbel⟩
            case round =>
              clear hla hlb hbel hz hlt hj
              obtain ⟨j, hj, rfl, hla, hlb, hbel⟩ := hrel
              have hz : w.heap.size + 1 + 1 ≤ wr.heap.size := by have := hbel.size; rw [W1_size] at this; exact this
              have hmr : Marks wr ad len ns := hm1.below hbel (by rw [W1_size]; exact Nat.le_refl _)
              by_cases hlt : j < c
              · have hlt2 : j < len := by omega
                obtain ⟨b, off, rfl, blt, c0, c1⟩ := hmr.cells j hlt2
                have hfold := take_succ_fold e2 ns j (by rw [hlen.out]; exact hlt2)
                obtain ⟨n0, n1, hn⟩ : ∃ n0 n1, ns.getD j (0, 0) = (n0, n1) := ⟨_, _, rfl⟩
                rw [hn] at c0 c1 hfold
                dsimp only at c0 c1
                obtain ⟨ej, hej⟩ : ∃ ej, (ns.take j).foldl note e2 = ej := ⟨_, rfl⟩
                rw [hej] at hlb hfold
                have HF : Hid ((ns.take (j + 1)).foldl note e2 = note ej (n0, n1)) := hfold
                clear hn hfold hej
                go_wp2_with fail
                refine (toMark_any _ _ _).mono ?_
                rintro e w6 ⟨rfl, hb6⟩
                have hla6 := hla.below hb6 hla.lt
                have hlb6 := hlb.below hb6 hlb.lt
                have hb6' : Below (w.heap.size + 1 + 1) (W1 w s o qs qo) w6 := hbel.trans (hb6.mono hz)
                have hz6 : w.heap.size + 1 + 1 ≤ w6.heap.size := by have := hb6.size; omega
                go_wp2_with fail
                refine (noteWritten_any gb ej _ _ _ hlb6).mono ?_
                rintro e w7 ⟨rfl, hlb7, hf7⟩
                go_wp2_with fail
                go_roundw
                case rel => exact ⟨j + 1, by omega, by go_num, hla6.fr hf7 (by omega), by rw [HF.out]; exact hlb7, hb6'.trans (hf7.below hgbB hz6)⟩
                case measure => simp [intOf]; omega
              · have hjc : Hid (j = c) := (by omega : j = c)
                obtain ⟨eb, heb⟩ : ∃ eb, Hid ((ns.take j).foldl note e2 = eb) := ⟨_, rfl⟩
                rw [heb.out] at hlb
                have good := hgood ea eb hea (by rw [he2.out, ← hjc.out]; exact heb)
                have hqa := good.qa
                have hqb := good.qb
                obtain ⟨g0, g1, g2, g3⟩ := W1_cells hbel
                clear hea he2 heb hgood
                go_wp2_with fail
                refine (anyAtOrAfter_any _ _ _ _ _ _ _ _ ns _ hmr).mono ?_
                rintro e w8 ⟨rfl, hb8⟩
                have hla8 := hla.below hb8 hla.lt
                have hlb8 := hlb.below hb8 hlb.lt
                have hm8 := hmr.below hb8 (Nat.le_refl _)
                have g28 := cell_later hb8 g2
                have g38 := cell_later hb8 g3
                go_wp2_with fail
                refine (toMark_any _ _ _).mono ?_
                rintro e w9 ⟨rfl, hb9⟩
                have hla9 := hla8.below hb9 hla8.lt
                have hlb9 := hlb8.below hb9 hlb8.lt
                have hm9 := hm8.below hb9 (Nat.le_refl _)
                have g29 := cell_later hb9 g28
                have g39 := cell_later hb9 g38
                go_wp2_with fail
                refine (zzKnownWritten_any ga ea _ _ _ hla9).mono ?_
                rintro e w10 ⟨rfl, hb10⟩
                have hlb10 := hlb9.below hb10 hlb9.lt
                have hm10 := hm9.below hb10 (Nat.le_refl _)
                have g210 := cell_later hb10 g29
                have g310 := cell_later hb10 g39
                go_wp2_with fail
                refine (toMark_any _ _ _).mono ?_
                rintro e w11 ⟨rfl, hb11⟩
                have hlb11 := hlb10.below hb11 hlb10.lt
                have hm11 := hm10.below hb11 (Nat.le_refl _)
                go_wp2_with fail
                refine (zzKnownWritten_any gb eb _ _ _ hlb11).mono ?_
                rintro e w12 ⟨rfl, hb12⟩
                have hlb12 := hlb11.below hb12 hlb11.lt
                have hm12 := hm11.below hb12 (Nat.le_refl _)
                have hb13 : Below (w.heap.size + 1 + 1) (W1 w s o qs qo) w12 :=
                  hbel.trans ((hb8.mono hz).trans ((hb9.mono (by have := hb8.size; omega)).trans ((hb10.mono (by have := hb8.size; have := hb9.size; omega)).trans ((hb11.mono (by have := hb8.size; have := hb9.size; have := hb10.size; omega)).trans (hb12.mono (by have := hb8.size; have := hb9.size; have := hb10.size; have := hb11.size; omega))))))
                have hz13 : w.heap.size + 1 + 1 ≤ w12.heap.size := by have := hb13.size; rw [W1_size] at this; exact this
                clear hb8 hb9 hb10 hb11 hb12 hla8 hlb8 hm8 g28 g38 hla9 hlb9 hm9 g29 g39 hlb10 hm10 g210 g310 hlb11 hm11 g0 g1 g2 g3 hla hlb hbel hmr
                go_wp2_with fail
                go_loopw [17] (fun i wx => ∃ m : Nat, m ≤ len ∧ i = .int .i64 m ∧ Below w12.heap.size w12 wx) (fun i _ => len - (intOf i).toNat)
                case atStart => exact ⟨0, Nat.zero_le _, rfl, Below.refl _ _⟩
                case round =>
                  obtain ⟨m, hmj, rfl, hbq⟩ := hrel
                  have hlq := hlb12.below hbq hlb12.lt
                  have hmq := hm12.below hbq (Nat.le_refl _)
                  by_cases hlt4 : m < len
                  · obtain ⟨b, off, rfl, blt, c0, c1⟩ := hmq.cells m hlt4
                    have hk1 := good.each m (by rw [hlen.out]; exact hlt4)
                    obtain ⟨n0, n1, hn⟩ : ∃ n0 n1, ns.getD m (0, 0) = (n0, n1) := ⟨_, _, rfl⟩
                    rw [hn] at c0 c1 hk1
                    dsimp only at c0 c1
                    clear hn
                    go_wp2_with fail
                    refine (toMark_any _ _ _).mono ?_
                    rintro e w14 ⟨rfl, hb14⟩
                    have hl14 := hlq.below hb14 hlq.lt
                    go_wp2_with fail
                    refine (zzKnownWritten_any gb eb _ _ _ hl14).mono ?_
                    rintro e w15 ⟨rfl, hb15⟩
                    go_wp2_with fail
                    go_roundw
                    case rel => exact ⟨m + 1, by omega, by go_num, hbq.trans ((hb14.mono hbq.size).trans (hb15.mono (Nat.le_trans hbq.size hb14.size)))⟩
                    case measure => simp [intOf]; omega
                  · go_wp2_with fail
                    go_ret
                    exact ⟨rfl, (W1_below w s o qs qo).trans ((hb13.trans (hbq.mono hz13)).mono (by omega))⟩

end Go.Proofs.Qxb6613797a
