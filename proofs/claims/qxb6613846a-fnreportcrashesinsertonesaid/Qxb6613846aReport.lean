import Derived.Test.Qxb6613846aEvents
import Derived.Test.Qxb6613846aPlain
import Derived.Lib.SmallJoins
namespace Go.Proofs.Qxb6613846a
open Go.RowKit
set_option linter.unusedSimpArgs false
attribute [local go_sem ↓] Go.wp_at_zero Go.wp_at_succ

/-- The crash c lies at ⟨b, o⟩: three cells, and its slice of ints can be read. -/
structure CrAt (w : World) (b o : Nat) (c : Cr) : Prop where
  c0 : w.cell? ⟨b, o, none⟩ = some (.int .i64 c.p)
  c1 : w.cell? ⟨b, o + 1, none⟩ = some (.int .i64 c.r)
  c2 : w.cell? ⟨b, o + 2, none⟩ = some (.slice c.ad c.len c.cap)
  ints : ∃ zs, Ints w c.ad c.len zs

theorem CrAt.below {w w' : World} {b o : Nat} {c : Cr} (h : CrAt w b o c) (hb : Below w.heap.size w w') : CrAt w' b o c :=
  ⟨cell_later hb h.c0, cell_later hb h.c1, cell_later hb h.c2, by obtain ⟨zs, hz⟩ := h.ints; exact ⟨zs, hz.below hb⟩⟩

/-- What an element of the slice of pointers holds. -/
def PtrCell (w : World) (b o : Nat) : Option Cr → Prop
  | none => w.cell? ⟨b, o, none⟩ = some (.pointer none)
  | some c => ∃ pb po, w.cell? ⟨b, o, none⟩ = some (.pointer (some ⟨pb, po, none⟩)) ∧ CrAt w pb po c

theorem PtrCell.below {w w' : World} {b o : Nat} {x : Option Cr} (h : PtrCell w b o x) (hb : Below w.heap.size w w') : PtrCell w' b o x := by
  cases x with
  | none => exact cell_later hb h
  | some c =>
    obtain ⟨pb, po, h1, h2⟩ := h
    exact ⟨pb, po, cell_later hb h1, h2.below hb⟩

/-- The slice (ad, len) of pointers holds the crashes cs. -/
structure Ptrs (w : World) (ad : Option Addr) (len : Nat) (cs : List (Option Cr)) : Prop where
  length : cs.length = len
  cells : ∀ i, i < len → ∃ b off, ad = some ⟨b, off, none⟩ ∧ PtrCell w b (off + i) (cs.getD i none)

theorem Ptrs.below {w w' : World} {ad : Option Addr} {len : Nat} {cs : List (Option Cr)} (h : Ptrs w ad len cs) (hb : Below w.heap.size w w') : Ptrs w' ad len cs :=
  ⟨h.length, fun i hi => by
    obtain ⟨b, off, e, c⟩ := h.cells i hi
    exact ⟨b, off, e, c.below hb⟩⟩

/-- The events gathered so far: the box at gb holds a slice of them, its row from B on. -/
structure Got (w : World) (gb B : Nat) (r : Int) (es : List (Int × Cr)) : Prop where
  v : ∃ v, w.cell? ⟨gb, 0, none⟩ = some v ∧ w.ownsRow B 63 7 v es.length (allCells r es)
  frozen : w.frozen? ⟨gb, 0, none⟩ = false

theorem wrap_small (x : Int) (h0 : -9223372036854775808 ≤ x) (h1 : x ≤ 9223372036854775807) : IntKind.i64.wrap x = x := by
  rw [IntKind.wrap_i64]; omega
theorem Keep.drew {S : Nat → Prop} {a w : World} (h : Keep S a w) : Keep S a w.drew := ⟨h.os, h.tape, h.output, h.size, h.block⟩

theorem func_not_nil (f : Fn) (c d : Array Value) (w : World) : (binOp .eql 94 (.func f c d) .nilFunc).run Try.prog w = .ok (.bool false) w := by
  have h : ∀ n : Nat, (Op.equalIn (n + 1) 94 (.func f c d) .nilFunc).run Try.prog w = .ok false w := fun n => by
    simp [Op.equalIn, run_underlying Try.underlying94]
  simp only [binOp]
  simp [Op.equal, Op.maxDepth, h 9999]

set_option maxHeartbeats 400000 in
set_option maxRecDepth 100000 in
theorem report_any (xb gb : Nat) (ad : Option Addr) (len cap : Nat) (cs : List (Option Cr)) (r : Int) (w0 w : World)
    (h0 : Below w0.heap.size w0 w) (hg0 : w0.heap.size ≤ gb) (hxb : xb < w.heap.size) (hgb : gb < w.heap.size) (hne : xb ≠ gb)
    (hx2 : w.cell? ⟨xb, 2, none⟩ = some (.slice ad len cap)) (hx6 : w.cell? ⟨xb, 6, none⟩ = some (.func (.func 38) #[] #[.pointer (some ⟨gb, 0, none⟩)]))
    (hgot : Got w gb w.heap.size r []) (hp : Ptrs w0 ad len cs) (hlen : len ≤ 4194304) :
    Calls Try.prog 39 #[.pointer (some ⟨xb, 0, none⟩), .int .i64 r] w fun e w' => e = .returned (.tuple #[]) ∧ Got w' gb w.heap.size r (evsFrom r 0 cs) ∧ Keep (fun k => k < w.heap.size ∧ k ≠ gb) w w' := by
  have hlen2 : Hid (cs.length = len) := hp.length
  have hfn := func_not_nil
  go_enter Try.func39, Try.ntmps39
  go_wp2_with fail
  go_loopw [16] (fun i wr => ∃ j : Nat, j ≤ len ∧ i = .int .i64 j ∧ Got wr gb w.heap.size r (evsFrom r 0 (cs.take j)) ∧ Keep (fun k => k < w.heap.size ∧ k ≠ gb) w wr) (fun i _ => len - (intOf i).toNat)
  case atStart => exact ⟨0, Nat.zero_le _, rfl, hgot, Keep.refl _ _⟩
  case round =>
    obtain ⟨j, hj, rfl, hg, hk⟩ := hrel
    clear hgot
    have hb0 : Below w0.heap.size w0 wr := h0.trans (hk.below fun k hk => ⟨by have := h0.size; omega, by omega⟩)
    have hx2r : wr.cell? ⟨xb, 2, none⟩ = some (.slice ad len cap) := hk.cell ⟨hxb, hne⟩ hx2
    have hx6r : wr.cell? ⟨xb, 6, none⟩ = some (.func (.func 38) #[] #[.pointer (some ⟨gb, 0, none⟩)]) := hk.cell ⟨hxb, hne⟩ hx6
    clear hx2 hx6
    by_cases hlt : j < len
    · obtain ⟨b, off, rfl, hcell⟩ := hp.cells j hlt
      have hsucc := evsFrom_take_succ r cs j (by rw [hlen2.out]; exact hlt)
      have i0 : (0 : Int) ≤ (j : Int) := by omega
      have i1 : (j : Int) < (len : Int) := by omega
      cases hx : cs.getD j none with
      | none =>
        rw [hx] at hcell hsucc
        have hs' : Hid (evsFrom r 0 (cs.take (j + 1)) = evsFrom r 0 (cs.take j)) := by show evsFrom _ _ _ = _; rw [hsucc]; simp [evsFrom]
        clear hsucc hx
        replace hcell := hcell.below hb0
        unfold PtrCell at hcell
        go_wp2_with fail
        go_roundw
        case rel => exact ⟨j + 1, by omega, by go_num, by rw [hs'.out]; exact hg, hk⟩
        case measure => simp [intOf]; omega
      | some c =>
        rw [hx] at hcell hsucc
        clear hx
        obtain ⟨pb, po, hc, hcr⟩ := hcell
        obtain ⟨cp, cr, cad, clen, ccap⟩ := c
        obtain ⟨-, d1, d2, -⟩ := hcr
        dsimp only at d1 d2
        have D2 : ∀ w', Keep (fun k => k < w.heap.size ∧ k ≠ gb) w w' → w'.cell? ⟨pb, po + 2, none⟩ = some (.slice cad clen ccap) := fun w' h => cell_later (h0.trans (h.below fun k hk => ⟨by have := h0.size; omega, by omega⟩)) d2
        replace hc := cell_later hb0 hc
        replace d1 := cell_later hb0 d1
        replace d2 := cell_later hb0 d2
        by_cases hr : cr = r
        · have hs' : Hid (evsFrom r 0 (cs.take (j + 1)) = evsFrom r 0 (cs.take j) ++ [(((j + 1 : Nat) : Int), ⟨cp, r, cad, clen, ccap⟩)]) := by show evsFrom _ _ _ = _; rw [hsucc]; simp [evsFrom, hr]
          subst hr
          clear hsucc
          obtain ⟨⟨v, hv, hown⟩, hfz⟩ := hg
          obtain ⟨es, hes⟩ : ∃ es, Hid (evsFrom cr 0 (cs.take j) = es) := ⟨_, rfl⟩
          rw [hes.out] at hown
          have hel : es.length ≤ 4194304 := by
            have := evsFrom_le cr (cs.take j) 0
            rw [hes.out, List.length_take] at this
            omega
          have hsz : w.heap.size ≤ wr.heap.size := hk.size
          have hkd : Keep (fun k => k < w.heap.size ∧ k ≠ gb) w wr.drew := hk.drew
          have hwr : IntKind.i64.wrap ((j : Int) + 1) = (j : Int) + 1 := wrap_small _ (by omega) (by omega)
          have hownd : wr.drew.ownsRow w.heap.size 63 7 v es.length (allCells cr es) := hown
          go_wp2_with fail
          go_region_held3 (fun w' => w'.cell? ⟨xb, 6, none⟩ = some (.func (.func 38) #[] #[.pointer (some ⟨gb, 0, none⟩)]) ∧ w'.cell? ⟨pb, po + 2, none⟩ = some (.slice cad clen ccap)) (go_keep)
            (first | (go_at_call 38; refine (closure_any v gb w.heap.size _ _ _ _ _ _ es.length (allCells cr es) _ ?_ ?_ hgb ?_ hownd hel).mono ?_; exact hv; exact hfz; exact hsz; rintro e w1 ⟨rfl, v', hv', hfz', hown', hk'⟩; have hk1 : Keep (fun k => k < w.heap.size ∧ k ≠ gb) w w1 := hkd.trans hk'; have k0 : w1.cell? ⟨xb, 6, none⟩ = some (.func (.func 38) #[] #[.pointer (some ⟨gb, 0, none⟩)]) := hk'.cell ⟨hxb, hne⟩ hx6r; have k1 := D2 _ hk1))
          go_wp2_with fail
          go_roundw
          case rel => exact ⟨j + 1, by omega, by go_num, by rw [hs'.out, hes.out]; exact ⟨⟨v', hv', by rw [List.length_append, allCells_append]; exact hown'⟩, hfz'⟩, hk1⟩
          case measure => simp [intOf]; omega
        · have hs' : Hid (evsFrom r 0 (cs.take (j + 1)) = evsFrom r 0 (cs.take j)) := by show evsFrom _ _ _ = _; rw [hsucc]; simp [evsFrom, hr]
          clear hsucc
          go_wp2_with fail
          go_roundw
          case rel => exact ⟨j + 1, by omega, by go_num, by rw [hs'.out]; exact hg, hk⟩
          case measure => simp [intOf]; omega
    · have hj' : Hid (cs.take j = cs) := List.take_of_length_le (by rw [hlen2.out]; omega)
      go_wp2_with fail
      go_end0
      exact ⟨rfl, by rw [hj'.out] at hg; exact hg, hk⟩

/-- The slice (v) of events es, of round r, as it lies in memory. -/
def Evs (w : World) (B : Nat) (v : Value) (r : Int) (es : List (Int × Cr)) : Prop := w.ownsRow B 63 7 v es.length (allCells r es)

set_option maxHeartbeats 400000 in
theorem zzreport_any (ad : Option Addr) (len cap : Nat) (cs : List (Option Cr)) (r : Int) (w : World) (hp : Ptrs w ad len cs) (hlen : len ≤ 4194304) :
    Calls Try.prog 22 #[.slice ad len cap, .int .i64 r] w fun e w' => ∃ v, e = .returned v ∧ Evs w' w.heap.size v r (evsFrom r 0 cs) ∧ Below w.heap.size w w' := by
  have h0 : ∀ o1 o2, Below w.heap.size w ((w.alloc o1).alloc o2) := fun o1 o2 => ((Below.refl _ _).alloc (Nat.le_refl _) _).alloc (by simp) _
  go_enter Try.func22, Try.ntmps22
  go_wp2_with fail
  refine (report_any (w.heap.size + 1) w.heap.size ad len cap cs r w _ (h0 _ _) (Nat.le_refl _) ?_ ?_ ?_ ?_ ?_ ?_ hp hlen).mono ?_
  · simp
  · simp; omega
  · omega
  · simp [go_sem]
  · simp [go_sem]
  · exact ⟨⟨.slice none 0 0, by simp [go_sem], by simp [World.ownsRow, allCells]⟩, by simp [go_sem]⟩
  rintro e w' ⟨rfl, ⟨⟨v, hv, hown⟩, _⟩, hk⟩
  go_wp2_with fail
  go_ret
  exact ⟨v, rfl, Go.Joins.ownsRow_le hown (by simp; omega), (h0 _ _).trans (hk.below fun k hk => ⟨by simp; omega, by omega⟩)⟩

end Go.Proofs.Qxb6613846a
