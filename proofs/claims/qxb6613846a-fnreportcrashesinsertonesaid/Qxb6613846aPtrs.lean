import Derived.Test.Qxb6613846aReport
namespace Go.Proofs.Qxb6613846a
open Go.RowKit
set_option linter.unusedSimpArgs false
attribute [local go_sem ↓] Go.wp_at_zero Go.wp_at_succ

theorem info66 : (Try.prog.info? 66).map (fun i => (i.zero, i.size, i.bytes)) = some (some (.pointer none), 1, 8) := by kernel_rfl

/-- Every cell of the row is a pointer. -/
def AllPtr (n : Nat) (P : Nat → Value) : Prop := ∀ m, m < n → ∃ q, P m = .pointer q

theorem ne_of_row {w : World} {g n : Nat} {t : TypeId} {P : Nat → Value} (h : w.rowIs g t n P) (hp : AllPtr n P) {b o : Nat} {v : Value} (hc : w.cell? ⟨b, o, none⟩ = some v) (hv : ∀ q, v ≠ .pointer q) : b ≠ g := by
  rintro rfl
  obtain ⟨c, hb, hn, hcell⟩ := h
  have h1 : c[o]? = some v := by simpa [World.cell?, hb] using hc
  have ho : o < n := by
    rw [← hn]
    exact (Array.getElem?_eq_some_iff.1 h1).1
  obtain ⟨q, hq⟩ := hp o ho
  rw [hcell o ho, hq] at h1
  simp only [Option.some.injEq] at h1
  exact hv q h1.symm

theorem cell_setRow {w : World} {g n : Nat} {t : TypeId} {P : Nat → Value} (h : w.rowIs g t n P) (hp : AllPtr n P) {b o j : Nat} {v u : Value} (hc : w.cell? ⟨b, o, none⟩ = some v) (hv : ∀ q, v ≠ .pointer q) :
    (w.setCell ⟨g, j, none⟩ u).cell? ⟨b, o, none⟩ = some v := by
  have := ne_of_row h hp hc hv
  rw [World.cell?_setCell_other _ _ _ _ (by simp [Ne.symm this])]
  exact hc

theorem Ints.setRow {w : World} {g n : Nat} {t : TypeId} {P : Nat → Value} (h : w.rowIs g t n P) (hp : AllPtr n P) {ad : Option Addr} {len j : Nat} {zs : List Int} {u : Value} (hi : Ints w ad len zs) : Ints (w.setCell ⟨g, j, none⟩ u) ad len zs :=
  ⟨hi.length, fun i hl => by
    obtain ⟨b, off, e, c⟩ := hi.cells i hl
    exact ⟨b, off, e, cell_setRow h hp c (by simp)⟩⟩

theorem CrAt.setRow {w : World} {g n : Nat} {t : TypeId} {P : Nat → Value} (h : w.rowIs g t n P) (hp : AllPtr n P) {pb po j : Nat} {c : Cr} {u : Value} (hc : CrAt w pb po c) : CrAt (w.setCell ⟨g, j, none⟩ u) pb po c :=
  ⟨cell_setRow h hp hc.c0 (by simp), cell_setRow h hp hc.c1 (by simp), cell_setRow h hp hc.c2 (by simp), by obtain ⟨zs, hz⟩ := hc.ints; exact ⟨zs, hz.setRow h hp⟩⟩

/-- What the pointer q stands for. -/
def PtrTo (w : World) (q : Value) : Option Cr → Prop
  | none => q = .pointer none
  | some c => ∃ pb po, q = .pointer (some ⟨pb, po, none⟩) ∧ CrAt w pb po c

theorem PtrTo.below {w w' : World} {q : Value} {x : Option Cr} (h : PtrTo w q x) (hb : Below w.heap.size w w') : PtrTo w' q x := by
  cases x with
  | none => exact h
  | some c => obtain ⟨pb, po, h1, h2⟩ := h; exact ⟨pb, po, h1, h2.below hb⟩
theorem PtrTo.setRow {w : World} {g n : Nat} {t : TypeId} {P : Nat → Value} (h : w.rowIs g t n P) (hp : AllPtr n P) {j : Nat} {q u : Value} {x : Option Cr} (hc : PtrTo w q x) : PtrTo (w.setCell ⟨g, j, none⟩ u) q x := by
  cases x with
  | none => exact hc
  | some c => obtain ⟨pb, po, h1, h2⟩ := hc; exact ⟨pb, po, h1, h2.setRow h hp⟩

/-- The row of pointers at g, filled up to j. -/
structure Fill (w : World) (g len j : Nat) (cs cs' : List (Option Cr)) : Prop where
  ex : ∃ P, w.rowIs g 66 len P ∧ AllPtr len P ∧ (∀ m, j ≤ m → m < len → P m = .pointer none) ∧ ∀ m, m < j → PtrTo w (P m) (cs'.getD m none)
  len : cs'.length = j
  same : ∀ m, m < j → (cs'.getD m none).map Cr.r = (cs.getD m none).map Cr.r
  small : ∀ c, some c ∈ cs' → c.len ≤ 1048576

theorem Fill.below {w w' : World} {g len j : Nat} {cs cs' : List (Option Cr)} (h : Fill w g len j cs cs') (hb : Below w.heap.size w w') : Fill w' g len j cs cs' := by
  obtain ⟨⟨P, h1, h2, h3, h4⟩, hl, hs, hsm⟩ := h
  exact ⟨⟨P, rowIs_below h1 hb h1.lt, h2, h3, fun m hm => (h4 m hm).below hb⟩, hl, hs, hsm⟩

theorem getD_left {α : Type} (a b : List α) (m : Nat) {d : α} (h : m < a.length) : (a ++ b).getD m d = a.getD m d := by
  simp [List.getD_eq_getElem?_getD, List.getElem?_append_left h]

/-- The next element stays nil. -/
theorem Fill.skip {w : World} {g len j : Nat} {cs cs' : List (Option Cr)} (h : Fill w g len j cs cs') (hj : j < len) (hc : cs.getD j none = none) : Fill w g len (j + 1) cs (cs' ++ [none]) := by
  obtain ⟨⟨P, h1, h2, h3, h4⟩, hl, hs, hsm⟩ := h
  have e1 : ∀ m, m < j → (cs' ++ [none]).getD m none = cs'.getD m none := fun m hm => getD_left _ _ _ (by omega)
  have e2 : (cs' ++ [none]).getD j none = none := by simp [List.getD_eq_getElem?_getD, hl]
  refine ⟨⟨P, h1, h2, fun m hm => h3 m (by omega), fun m hm => ?_⟩, by simp [hl], fun m hm => ?_, fun c hc => hsm c (by simpa using hc)⟩
  · rcases Nat.lt_or_ge m j with h | h
    · rw [e1 m h]; exact h4 m h
    · have : m = j := by omega
      subst this; rw [e2]; exact h3 m (Nat.le_refl _) hj
  · rcases Nat.lt_or_ge m j with h | h
    · rw [e1 m h]; exact hs m h
    · have : m = j := by omega
      subst this; rw [e2, hc]

/-- The next element is laid. -/
theorem Fill.lay {w : World} {g len j : Nat} {cs cs' : List (Option Cr)} (h : Fill w g len j cs cs') (hj : j < len) {c d : Cr} (hc : cs.getD j none = some d) (hr : c.r = d.r) (hle : c.len ≤ 1048576) {pb po : Nat} (hcr : CrAt w pb po c) :
    Fill (w.setCell ⟨g, j, none⟩ (.pointer (some ⟨pb, po, none⟩))) g len (j + 1) cs (cs' ++ [some c]) := by
  obtain ⟨⟨P, h1, h2, h3, h4⟩, hl, hs, hsm⟩ := h
  have e1 : ∀ m, m < j → (cs' ++ [some c]).getD m none = cs'.getD m none := fun m hm => getD_left _ _ _ (by omega)
  have e2 : (cs' ++ [some c]).getD j none = some c := by simp [List.getD_eq_getElem?_getD, hl]
  refine ⟨⟨_, h1.set j _, fun m hm => ?_, fun m hm hm2 => ?_, fun m hm => ?_⟩, by simp [hl], fun m hm => ?_, fun x hx => ?_⟩
  · by_cases e : m = j
    · exact ⟨_, if_pos e⟩
    · obtain ⟨q, hq⟩ := h2 m hm; exact ⟨q, (if_neg e).trans hq⟩
  · show (if m = j then _ else P m) = _
    rw [if_neg (by omega)]; exact h3 m (by omega) hm2
  · rcases Nat.lt_or_ge m j with h | h
    · rw [e1 m h, if_neg (by omega)]; exact (h4 m h).setRow h1 h2
    · have : m = j := by omega
      subst this; rw [e2, if_pos rfl]; exact ⟨pb, po, rfl, hcr.setRow h1 h2⟩
  · rcases Nat.lt_or_ge m j with h | h
    · rw [e1 m h]; exact hs m h
    · have : m = j := by omega
      subst this; rw [e2, hc]; simp [hr]
  · rcases List.mem_append.1 hx with h | h
    · exact hsm x h
    · simp at h; subst h; exact hle

theorem fill_start (w : World) (len : Nat) (cs : List (Option Cr)) : Fill (w.alloc (.cells (madeCells #[.pointer none] len) 66)) w.heap.size len 0 cs [] :=
  ⟨⟨_, World.rowIs_made w (.pointer none) len 66, fun _ _ => ⟨_, rfl⟩, fun _ _ _ => rfl, fun m hm => absurd hm (Nat.not_lt_zero _)⟩, rfl, fun m hm => absurd hm (Nat.not_lt_zero _), fun c hc => by simp at hc⟩

theorem Fill.ptrs {w : World} {g len : Nat} {cs cs' : List (Option Cr)} (h : Fill w g len len cs cs') : Ptrs w (some ⟨g, 0, none⟩) len cs' := by
  obtain ⟨⟨P, h1, h2, h3, h4⟩, hl, hs, hsm⟩ := h
  refine ⟨hl, fun i hi => ⟨g, 0, rfl, ?_⟩⟩
  have hc := h1.cell hi
  have hq := h4 i hi
  rw [Nat.zero_add]
  cases hx : cs'.getD i none with
  | none => rw [hx] at hq; show w.cell? _ = _; rw [hc, hq]
  | some c =>
    rw [hx] at hq
    obtain ⟨pb, po, e, hcr⟩ := hq
    exact ⟨pb, po, by rw [hc, e], hcr⟩

theorem Fill.at {w : World} {g len j : Nat} {cs cs' : List (Option Cr)} (h : Fill w g len j cs cs') (hj : j < len) : w.cell? ⟨g, j, none⟩ = some (.pointer none) ∧ w.frozen? ⟨g, j, none⟩ = false ∧ g < w.heap.size := by
  obtain ⟨⟨P, h1, h2, h3, h4⟩, hl, hs, hsm⟩ := h
  exact ⟨by rw [h1.cell hj, h3 j (Nat.le_refl _) hj], h1.frozen j, h1.lt⟩

theorem fill_store {w : World} {g len j : Nat} {cs cs' : List (Option Cr)} (h : Fill w g len j cs cs') (hj : j < len) : (∀ o, (w.alloc o).cell? ⟨g, j, none⟩ = some (.pointer none)) ∧ ∀ o, (w.alloc o).frozen? ⟨g, j, none⟩ = false :=
  ⟨fun o => ((h.below ((Below.refl _ _).alloc (Nat.le_refl _) o)).at hj).1, fun o => ((h.below ((Below.refl _ _).alloc (Nat.le_refl _) o)).at hj).2.1⟩

theorem far_store {w : World} {g j b i : Nat} {x : Value} (o : Obj) (v : Value) (h : w.cell? ⟨b, i, none⟩ = some x) (hb : b < g) : ((w.alloc o).setCell ⟨g, j, none⟩ v).cell? ⟨b, i, none⟩ = some x := by
  have ne : (⟨g, j, none⟩ : Addr) ≠ ⟨b, i, none⟩ := fun e => by have := congrArg Addr.block e; simp at this; omega
  rw [World.cell?_setCell_other _ _ _ _ ne]
  exact cell_later ((Below.refl _ _).alloc (Nat.le_refl _) o) h

set_option maxHeartbeats 1000000 in
set_option maxRecDepth 100000 in
theorem crashPtrs_any (ad : Option Addr) (len cap : Nat) (cs : List (Option Cr)) (w : World) (hp : Ptrs w ad len cs) (hlen : len ≤ 1048576) (hsm : ∀ c, some c ∈ cs → c.len ≤ 1048576) :
    Calls Try.prog 21 #[.slice ad len cap] w fun e w' => ∃ ad' cap' cs', e = .returned (.slice ad' len cap') ∧ len ≤ cap' ∧ cap' ≤ 1048576 ∧ Ptrs w' ad' len cs' ∧ (∀ m, m < len → (cs'.getD m none).map Cr.r = (cs.getD m none).map Cr.r) ∧ (∀ c, some c ∈ cs' → c.len ≤ 1048576) ∧ Below w.heap.size w w' := by
  have hnil := fun wx => Lib.run_eql_slice_nil (P := Try.prog) wx 49 56 ad len cap 0 0 Try.underlying49
  have hmk := run_make_row' (P := Try.prog) 52 66 (.pointer none) 8 Try.underlying52 info66 rfl .i64 .i64 len (by omega) (by omega)
  have hl2 : Hid (cs.length = len) := hp.length
  cases ad with
  | none =>
    have h0 : len = 0 := by
      rcases Nat.eq_zero_or_pos len with h0 | h0
      · exact h0
      · obtain ⟨b, off, e, _⟩ := hp.cells 0 h0; cases e
    subst h0
    go_enter Try.func21, Try.ntmps21
    go_wp2
    go_ret
    exact ⟨none, 0, [], rfl, Nat.le_refl _, by omega, ⟨rfl, fun i hi => absurd hi (Nat.not_lt_zero _)⟩, fun m hm => absurd hm (Nat.not_lt_zero _), fun c hc => by simp at hc, Below.refl _ _⟩
  | some a =>
    go_enter Try.func21, Try.ntmps21
    go_wp2
    go_loopw [4] (fun i wr => ∃ j : Nat, ∃ cs', j ≤ len ∧ i = .int .i64 j ∧ Fill wr w.heap.size len j cs cs' ∧ Below w.heap.size w wr) (fun i _ => len - (intOf i).toNat)
    case atStart => exact ⟨0, [], Nat.zero_le _, rfl, fill_start w len cs, (Below.refl _ _).alloc (Nat.le_refl _) _⟩
    case round =>
      obtain ⟨j, cs', hj, rfl, hfill, hbel⟩ := hrel
      by_cases hlt : j < len
      · obtain ⟨b, off, ea, hcell⟩ := hp.cells j hlt
        simp only [Option.some.injEq] at ea
        subst ea
        have i0 : (0 : Int) ≤ (j : Int) := by omega
        have i1 : (j : Int) < (len : Int) := by omega
        cases hx : cs.getD j none with
        | none =>
          rw [hx] at hcell
          have hfill2 := hfill.skip hlt hx
          clear hx
          replace hcell := hcell.below hbel
          unfold PtrCell at hcell
          go_wp2_with fail
          go_roundw
          case rel => exact ⟨j + 1, _, by omega, by go_num, hfill2, hbel⟩
          case measure => simp [intOf]; omega
        | some c =>
          rw [hx] at hcell
          have hcl : c.len ≤ 1048576 := hsm c (by rw [← hx, List.getD_eq_getElem?_getD, List.getElem?_eq_getElem (by rw [hl2.out]; exact hlt)]; exact List.getElem_mem _)
          obtain ⟨pb, po, hc, hcr⟩ := hcell
          obtain ⟨f0, f1, f2⟩ := hfill.at hlt
          have n1 : b < w.heap.size := World.block_lt_of_cell? _ _ hc
          have n2 : pb < w.heap.size := World.block_lt_of_cell? _ _ hcr.c0
          replace hc := cell_later hbel hc
          replace hcr := hcr.below hbel
          obtain ⟨cp, cr, cad, clen, ccap⟩ := c
          obtain ⟨d0, d1, d2, zs, hz⟩ := hcr
          dsimp only at d0 d1 d2 hz hcl
          have HX : Hid (cs.getD j none = some ⟨cp, cr, cad, clen, ccap⟩) := hx
          clear hx
          have hzd : Ints wr.drew cad clen zs := hz.below (Below.drew (Below.refl _ _))
          have hfd : Fill wr.drew w.heap.size len j cs cs' := hfill.below (Below.drew (Below.refl _ _))
          go_wp2_with fail
          go_region_held3 (fun w' => w'.cell? ⟨b, off + j, none⟩ = some (.pointer (some ⟨pb, po, none⟩)) ∧ w'.cell? ⟨pb, po, none⟩ = some (.int .i64 cp) ∧ w'.cell? ⟨pb, po + 1, none⟩ = some (.int .i64 cr) ∧ w'.cell? ⟨pb, po + 2, none⟩ = some (.slice cad clen ccap)) (go_keep)
            (first | (go_at_call 26; refine (ints_any cad clen ccap zs _ hzd hcl).mono ?_; rintro e w1 ⟨ad', cap', rfl, hn1, hi1, hb1⟩; have k0 := cell_later hb1 hc; have k1 := cell_later hb1 d0; have k2 := cell_later hb1 d1; have k3 := cell_later hb1 d2; have hf1 := hfd.below hb1; obtain ⟨kc, kf⟩ := fill_store hf1 hlt; have s0 := fun o v => far_store (g := w.heap.size) (j := j) o v k0 n1; have s1 := fun o v => far_store (g := w.heap.size) (j := j) o v k1 n2; have s2 := fun o v => far_store (g := w.heap.size) (j := j) o v k2 n2; have s3 := fun o v => far_store (g := w.heap.size) (j := j) o v k3 n2))
          have hcrN : CrAt (w1.alloc (.cells #[.int .i64 cp, .int .i64 cr, .slice ad' clen cap'] 68)) w1.heap.size 0 ⟨cp, cr, ad', clen, cap'⟩ :=
            ⟨by simp [go_sem], by simp [go_sem], by simp [go_sem], zs, hi1.below ((Below.refl _ _).alloc (Nat.le_refl _) _)⟩
          have hfill2 := (hf1.below ((Below.refl _ _).alloc (Nat.le_refl _) (.cells #[.int .i64 cp, .int .i64 cr, .slice ad' clen cap'] 68))).lay hlt HX.out (c := ⟨cp, cr, ad', clen, cap'⟩) rfl hcl hcrN
          have hb2 : ∀ o v, Below w.heap.size w ((w1.alloc o).setCell ⟨w.heap.size, j, none⟩ v) := fun o v => ((hbel.drew.trans (hb1.mono (hbel.size))).alloc (Nat.le_trans hbel.size hb1.size) o).setCell (Nat.le_refl _) _
          clear hf1 hfd hfill s0 s1 s2 s3 kc kf
          go_wp2_with fail
          go_roundw
          case rel => exact ⟨j + 1, _, by omega, by go_num, hfill2, hb2 _ _⟩
          case measure => simp [intOf]; omega
      · have hj' : j = len := by omega
        subst hj'
        go_wp2_with fail
        go_ret
        exact ⟨some ⟨w.heap.size, 0, none⟩, j, cs', rfl, Nat.le_refl _, hlen, hfill.ptrs, hfill.same, hfill.small, hbel⟩

end Go.Proofs.Qxb6613846a
