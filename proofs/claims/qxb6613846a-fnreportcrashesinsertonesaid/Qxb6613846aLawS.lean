import Derived.Test.Qxb6613846aBytes
namespace Go.Proofs.Qxb6613846a
open Go.RowKit
set_option linter.unusedSimpArgs false
set_option linter.unusedVariables false
attribute [local go_sem ↓] Go.wp_at_zero Go.wp_at_succ

def cr0 : Cr := ⟨0, 0, none, 0, 0⟩

/-- The seven cells of an event. -/
structure EvAt (w : World) (g o : Nat) (r p : Int) (ad : Option Addr) (len cap : Nat) : Prop where
  c0 : w.cell? ⟨g, o, none⟩ = some (.int .i64 r)
  c1 : w.cell? ⟨g, o + 1, none⟩ = some (.int .i64 0)
  c2 : w.cell? ⟨g, o + 2, none⟩ = some (.int .i8 2)
  c3 : w.cell? ⟨g, o + 3, none⟩ = some (.int .i64 p)
  c4 : w.cell? ⟨g, o + 4, none⟩ = some (.int .i64 0)
  c5 : w.cell? ⟨g, o + 5, none⟩ = some (.string ⟨#[]⟩)
  c6 : w.cell? ⟨g, o + 6, none⟩ = some (.slice ad len cap)

/-- The slice ad holds the events es of round r. -/
def EvsAt (w : World) (ad : Option Addr) (r : Int) (es : List (Int × Cr)) : Prop :=
  ∀ i, i < es.length → ∃ g off, ad = some ⟨g, off, none⟩ ∧ EvAt w g (off + i * 7) r (es.getD i (0, cr0)).1 (es.getD i (0, cr0)).2.ad (es.getD i (0, cr0)).2.len (es.getD i (0, cr0)).2.cap

theorem EvAt.below {w w' : World} {g o : Nat} {r p : Int} {ad : Option Addr} {len cap : Nat} (h : EvAt w g o r p ad len cap) (hb : Below w.heap.size w w') : EvAt w' g o r p ad len cap :=
  ⟨cell_later hb h.c0, cell_later hb h.c1, cell_later hb h.c2, cell_later hb h.c3, cell_later hb h.c4, cell_later hb h.c5, cell_later hb h.c6⟩

theorem EvAt.conj {w : World} {g o : Nat} {r p : Int} {ad : Option Addr} {len cap : Nat} (h : EvAt w g o r p ad len cap) :
    w.cell? ⟨g, o, none⟩ = some (.int .i64 r) ∧ w.cell? ⟨g, o + 1, none⟩ = some (.int .i64 0) ∧ w.cell? ⟨g, o + 2, none⟩ = some (.int .i8 2) ∧ w.cell? ⟨g, o + 3, none⟩ = some (.int .i64 p) ∧ w.cell? ⟨g, o + 4, none⟩ = some (.int .i64 0) ∧ w.cell? ⟨g, o + 5, none⟩ = some (.string ⟨#[]⟩) ∧ w.cell? ⟨g, o + 6, none⟩ = some (.slice ad len cap) :=
  ⟨h.c0, h.c1, h.c2, h.c3, h.c4, h.c5, h.c6⟩

theorem EvsAt.below {w w' : World} {ad : Option Addr} {r : Int} {es : List (Int × Cr)} (h : EvsAt w ad r es) (hb : Below w.heap.size w w') : EvsAt w' ad r es := fun i hi => by
  obtain ⟨g, off, e, h1⟩ := h i hi
  exact ⟨g, off, e, h1.below hb⟩

theorem Evs.open {w : World} {B : Nat} {v : Value} {r : Int} {es : List (Int × Cr)} (h : Evs w B v r es) : ∃ ad cap, v = .slice ad es.length cap ∧ EvsAt w ad r es := by
  obtain ⟨hl, h1 | ⟨g, cap, cur, hv, hg, hh, hcap, hm, hsz, htake⟩⟩ := h
  · obtain ⟨rfl, h0⟩ := h1
    rw [h0]
    exact ⟨none, 0, rfl, fun i hi => by omega⟩
  · refine ⟨some ⟨g, 0, none⟩, cap, hv, fun i hi => ⟨g, 0, rfl, ?_⟩⟩
    have hcell : ∀ j, j < 7 → w.cell? ⟨g, i * 7 + j, none⟩ = (evCells r (es.getD i (0, cr0)))[j]? := fun j hj => by
      have h1 : (allCells r es)[i * 7 + j]? = (evCells r (es.getD i (0, cr0)))[j]? := allCells_get r es i j hi hj
      rw [← htake, List.getElem?_take, if_pos (by omega)] at h1
      have h2 : w.cell? ⟨g, i * 7 + j, none⟩ = cur[i * 7 + j]? := by simp [World.cell?, hh]
      rw [h2, ← h1]; simp
    rw [Nat.zero_add]
    exact ⟨hcell 0 (by omega), hcell 1 (by omega), hcell 2 (by omega), hcell 3 (by omega), hcell 4 (by omega), hcell 5 (by omega), hcell 6 (by omega)⟩

theorem Ptrs.ints {w : World} {ad : Option Addr} {len : Nat} {cs : List (Option Cr)} (h : Ptrs w ad len cs) (c : Cr) (hc : some c ∈ cs) : ∃ zs, Ints w c.ad c.len zs := by
  obtain ⟨i, hi, e⟩ := List.getElem_of_mem hc
  obtain ⟨b, off, _, hcell⟩ := h.cells i (by rw [← h.length]; exact hi)
  have : cs.getD i none = some c := by rw [List.getD_eq_getElem?_getD, List.getElem?_eq_getElem hi, e]; rfl
  rw [this] at hcell
  obtain ⟨pb, po, _, hcr⟩ := hcell
  exact hcr.ints

theorem Ptrs.take {w : World} {ad : Option Addr} {len c : Nat} {cs : List (Option Cr)} (h : Ptrs w ad len cs) (hc : c ≤ len) : Ptrs w ad c (cs.take c) :=
  ⟨by rw [List.length_take, h.length]; omega, fun i hi => by
    obtain ⟨b, off, e, hcell⟩ := h.cells i (by omega)
    refine ⟨b, off, e, ?_⟩
    have : (cs.take c).getD i none = cs.getD i none := by simp [List.getD_eq_getElem?_getD, List.getElem?_take, hi]
    rw [this]; exact hcell⟩

theorem Ptrs.drop {w : World} {b off : Nat} {len c : Nat} {cs : List (Option Cr)} (h : Ptrs w (some ⟨b, off, none⟩) len cs) : Ptrs w (some ⟨b, off + c, none⟩) (len - c) (cs.drop c) :=
  ⟨by rw [List.length_drop, h.length], fun i hi => by
    obtain ⟨b', off', e, hcell⟩ := h.cells (c + i) (by omega)
    simp only [Option.some.injEq, Addr.mk.injEq, and_true] at e
    obtain ⟨rfl, rfl⟩ := e
    refine ⟨b, off + c, rfl, ?_⟩
    have : (cs.drop c).getD i none = cs.getD (c + i) none := by simp [List.getD_eq_getElem?_getD]
    rw [this, Nat.add_assoc]; exact hcell⟩

theorem Ptrs.empty (w : World) (ad : Option Addr) : Ptrs w ad 0 [] := ⟨rfl, fun i hi => absurd hi (Nat.not_lt_zero _)⟩

theorem evs_congr (r : Int) : ∀ (a b : List (Option Cr)) (s : Nat), a.length = b.length → (∀ m, m < a.length → (a.getD m none).map Cr.r = (b.getD m none).map Cr.r) → (evsFrom r s a).length = (evsFrom r s b).length := by
  intro a
  induction a with
  | nil => intro b s hl _; cases b with | nil => rfl | cons _ _ => simp at hl
  | cons x a ih =>
    intro b s hl h
    cases b with
    | nil => simp at hl
    | cons y b =>
      have h0 := h 0 (by simp)
      simp only [List.getD_cons_zero] at h0
      have ih' := ih b (s + 1) (by simpa using hl) (fun m hm => by have := h (m + 1) (by simpa using hm); simpa only [List.getD_cons_succ] using this)
      cases x with
      | none =>
        cases y with
        | none => simp only [evsFrom]; exact ih'
        | some d => simp at h0
      | some c =>
        cases y with
        | none => simp at h0
        | some d =>
          simp only [Option.map_some, Option.some.injEq] at h0
          simp only [evsFrom]
          by_cases hc : c.r = r
          · rw [if_pos hc, if_pos (by omega), List.length_cons, List.length_cons, ih']
          · rw [if_neg hc, if_neg (by omega)]; exact ih'

/-- WHAT THE SPLIT SAYS, with no Go in sight. -/
theorem split_evs (r : Int) (cs : List (Option Cr)) (c : Nat) (hc : c ≤ cs.length) : evsFrom r 0 cs = evsFrom r 0 (cs.take c) ++ (evsFrom r 0 (cs.drop c)).map fun e => (e.1 + (c : Int), e.2) := by
  conv => lhs; rw [← List.take_append_drop c cs]
  rw [evsFrom_append, List.length_take, Nat.min_eq_left hc, evsFrom_shift]

theorem getD_right {α β : Type} (a : List α) (b : List β) (f : β → α) (m : Nat) (d : α) (e : β) (h : m < b.length) : (a ++ b.map f).getD (a.length + m) d = f (b.getD m e) := by
  simp [List.getD_eq_getElem?_getD, List.getElem?_append_right, h]

theorem sorted_next (es : List (Int × Cr)) (h : es.Pairwise fun x y => x.1 < y.1) (k : Nat) (hk : k + 1 < es.length) : (es.getD k (0, cr0)).1 < (es.getD (k + 1) (0, cr0)).1 := by
  have := List.pairwise_iff_getElem.1 h k (k + 1) (by omega) hk (by omega)
  simpa [List.getD_eq_getElem?_getD, hk, (by omega : k < es.length)] using this

theorem slice_drop_run (ad : Option Addr) (len cap c : Nat) (hc : c ≤ len) (w : World) :
    (Instr.slice 52 (.slice ad len cap) (some (.int .i64 (c : Int))) none none).run Try.prog w = .ok (.slice (if cap = c then ad else ad.map fun x => x.add c) (len - c) (cap - c)) w := by
  have := run_slice_l (P := Try.prog) w 52 ad len cap (by kernel_rfl) .i64 (c : Int) (by omega) (by omega)
  rw [this]
  simp [go_sem, sliced]

theorem slice_drop (ad : Option Addr) (len cap c : Nat) (hc : c ≤ len) (hcap : len ≤ cap) :
    ∃ ba bcap, (∀ w, (Instr.slice 52 (.slice ad len cap) (some (.int .i64 (c : Int))) none none).run Try.prog w = .ok (.slice ba (len - c) bcap) w) ∧ ∀ w cs, Ptrs w ad len cs → Ptrs w ba (len - c) (cs.drop c) := by
  refine ⟨_, _, slice_drop_run ad len cap c hc, fun w cs hp => ?_⟩
  rcases Nat.eq_or_lt_of_le hc with h | h
  · have e : cs.drop c = [] := by rw [List.drop_eq_nil_iff, hp.length]; omega
    rw [e, show len - c = 0 by omega]
    exact Ptrs.empty _ _
  · rw [if_neg (by omega)]
    obtain ⟨b, off, rfl, _⟩ := hp.cells 0 (by omega)
    have : Option.map (fun x : Addr => x.add c) (some ⟨b, off, none⟩) = some ⟨b, off + c, none⟩ := by
      simp only [Option.map_some]; rw [Go.WideShapes.add_plain]
    rw [this]
    exact hp.drop

set_option maxHeartbeats 1000000 in
set_option maxRecDepth 100000 in
theorem lawS_main (ad : Option Addr) (len cap : Nat) (cs : List (Option Cr)) (r : Int) (c : Nat) (w : World) (hp : Ptrs w ad len cs) (hml : len ≤ maxLen) (hcm : ∀ c, some c ∈ cs → c.len ≤ maxLen) (hc : c ≤ len) :
    Calls Try.prog 5 #[.slice ad len cap, .int .i64 r, .int .i64 (c : Int)] w fun e w' => e = .returned (.bool true) ∧ Below w.heap.size w w' := by
  have hl2 : Hid (cs.length = len) := hp.length
  have hc0 : (0 : Int) ≤ (c : Int) := by omega
  have hc1 : (c : Int) ≤ (len : Int) := by omega
  have q1 : decide ((c : Int) < 0) = false := by simp
  have q2 : decide (len < c) = false := by simp; omega
  go_enter Try.func5, Try.ntmps5
  go_wp2_with fail
  refine (bytesS_any ad len cap cs _ _ _ hp hml hcm).mono ?_
  rintro e w1 ⟨⟨b, rfl, hbd⟩, hw⟩
  subst w1
  cases b
  · go_wp2_with fail
    go_ret
    exact ⟨rfl, Below.refl _ _⟩
  obtain ⟨hlen, hsm0⟩ := hbd rfl
  have hsm : ∀ c, some c ∈ cs → c.len ≤ 1048576 := small_of (fun i hi => hsm0 i (by rw [← hl2.out]; exact hi))
  clear hbd hsm0 hcm hml
  go_wp2_with fail
  refine (ptrBytes_any ad len cap cs _ hp hlen hsm).mono ?_
  rintro e w1 ⟨t, rfl, t0, t1, hw⟩
  subst w1
  by_cases ht : 1048576 < t
  · go_wp2_with fail
    go_ret
    exact ⟨rfl, Below.refl _ _⟩
  have q3 : decide (1048576 < t) = false := by simpa using ht
  go_wp2_with fail
  refine (crashPtrs_any ad len cap cs _ hp hlen hsm).mono ?_
  rintro e w1 ⟨ad', cap', cs', rfl, hcap1, hcap2, hp1, hsame, hsm1, hb1⟩
  go_wp2_with fail
  refine (zzreport_any ad' len cap' cs' r _ hp1 (by omega)).mono ?_
  rintro e w2 ⟨v2, rfl, hv2, hb2⟩
  obtain ⟨ea, ecap, rfl, he2⟩ := hv2.open
  clear hv2
  have hp2 := hp1.below hb2
  have hl3 : Hid (cs'.length = len) := hp1.length
  obtain ⟨es, hes⟩ : ∃ es, Hid (evsFrom r 0 cs' = es) := ⟨_, rfl⟩
  rw [hes.out] at he2 ⊢
  have j0 : (0 : Int) ≤ (cap' : Int) := by omega
  have j1 : (c : Int) ≤ (cap' : Int) := by omega
  have j2 : (len : Int) ≤ (cap' : Int) := by omega
  have j3 : c ≤ cap' := by omega
  go_wp2_with fail
  refine (zzreport_any ad' c cap' (cs'.take c) r _ (hp2.take hc) (by omega)).mono ?_
  rintro e w3 ⟨v3, rfl, hv3, hb3⟩
  obtain ⟨fa, fcap, rfl, hf3⟩ := hv3.open
  clear hv3
  have hp3 := hp2.below hb3
  have he3 := he2.below hb3
  obtain ⟨fs, hfs⟩ : ∃ fs, Hid (evsFrom r 0 (cs'.take c) = fs) := ⟨_, rfl⟩
  rw [hfs.out] at hf3 ⊢
  obtain ⟨ba, bcap, hslice, hdrop⟩ := slice_drop ad' len cap' c hc hcap1
  go_wp2_with fail
  refine (zzreport_any ba (len - c) bcap (cs'.drop c) r _ (hdrop _ _ hp3) (by omega)).mono ?_
  rintro e w4 ⟨v4, rfl, hv4, hb4⟩
  obtain ⟨ga, gcap, rfl, hg4⟩ := hv4.open
  clear hv4 hslice hdrop
  have hp4 := hp3.below hb4
  have he4 := he3.below hb4
  have hf4 := hf3.below hb4
  obtain ⟨gs, hgs⟩ : ∃ gs, Hid (evsFrom r 0 (cs'.drop c) = gs) := ⟨_, rfl⟩
  rw [hgs.out] at hg4 ⊢
  have hb5 : Below w.heap.size w w4 := hb1.trans ((hb2.mono hb1.size).trans ((hb3.mono (Nat.le_trans hb1.size hb2.size)).trans (hb4.mono (Nat.le_trans hb1.size (Nat.le_trans hb2.size hb3.size)))))
  have hpo := hp.below hb5
  have hspl : Hid (es = fs ++ gs.map fun e => (e.1 + (c : Int), e.2)) := by rw [← hes.out, ← hfs.out, ← hgs.out]; exact split_evs r cs' c (by rw [hl3.out]; exact hc)
  have hcnt : Hid ((evsFrom r 0 cs).length = es.length) := by rw [← hes.out]; exact (evs_congr r cs' cs 0 (by rw [hl3.out, hl2.out]) (fun m hm => hsame m (by rw [← hl3.out]; exact hm))).symm
  have hint : ∀ i, i < es.length → ∃ zs, Ints w4 (es.getD i (0, cr0)).2.ad (es.getD i (0, cr0)).2.len zs ∧ (es.getD i (0, cr0)).2.len ≤ 1048576 ∧ 0 < (es.getD i (0, cr0)).1 ∧ (es.getD i (0, cr0)).1 ≤ 1048576 := fun i hi => by
    have hm := mem_getD es i (0, cr0) hi
    rw [← hes.out] at hm
    obtain ⟨h1, h2, h3⟩ := evsFrom_mem r cs' 0 _ hm
    rw [hes.out] at h1 h2 h3
    obtain ⟨zs, hz⟩ := hp4.ints _ h1
    rw [hl3.out] at h3
    exact ⟨zs, hz, hsm1 _ h1, by omega, by omega⟩
  have hsort : Hid (es.Pairwise fun x y => x.1 < y.1) := by rw [← hes.out]; exact evsFrom_sorted r cs' 0
  have hel : es.length ≤ 1048576 := by have := evsFrom_le r cs' 0; rw [hes.out, hl3.out] at this; omega
  have hlsum : Hid (es.length = fs.length + gs.length) := by show es.length = _; rw [hspl.out]; simp
  have Hint := hint
  replace hint : Hid (∀ i, i < es.length → ∃ zs, Ints w4 (es.getD i (0, cr0)).2.ad (es.getD i (0, cr0)).2.len zs ∧ (es.getD i (0, cr0)).2.len ≤ 1048576 ∧ 0 < (es.getD i (0, cr0)).1 ∧ (es.getD i (0, cr0)).1 ≤ 1048576) := Hint
  clear Hint
  clear hes hfs hgs hsame hp1 hp2 hp3 hp4 he2 he3 hf3 hb1 hb2 hb3 hb4 hsm1 j0 j1 j2 j3 hcap1 hcap2 hl3
  go_wp2_with fail
  go_loop [11, 12] (fun wv k => ∃ (j u : Nat), j ≤ len ∧ k = .int .i64 j ∧ wv = .int .i64 u ∧ Hid ((evsFrom r 0 (cs.take j)).length = u) ∧ u ≤ j) (fun _ k => len - (intOf k).toNat)
  case atStart => exact ⟨0, 0, Nat.zero_le _, rfl, rfl, rfl, Nat.le_refl _⟩
  case round =>
    obtain ⟨j, u, hj, rfl, rfl, hu, huj⟩ := hrel
    by_cases hlt : j < len
    · obtain ⟨b, off, rfl, hcell⟩ := hpo.cells j hlt
      have hsucc := evsFrom_take_succ r cs j (by rw [hl2.out]; exact hlt)
      have i0 : (0 : Int) ≤ (j : Int) := by omega
      have i1 : (j : Int) < (len : Int) := by omega
      cases hx : cs.getD j none with
      | none =>
        rw [hx] at hcell hsucc
        have hs' : Hid ((evsFrom r 0 (cs.take (j + 1))).length = u) := by show List.length _ = _; rw [hsucc]; simp [evsFrom, hu.out]
        clear hx hsucc
        unfold PtrCell at hcell
        go_wp2_with fail
        go_round
        case rel => exact ⟨j + 1, u, by omega, by go_num, rfl, hs', by omega⟩
        case measure => simp [intOf]; omega
      | some d =>
        rw [hx] at hcell hsucc
        clear hx
        obtain ⟨pb, po, hc', hcr⟩ := hcell
        obtain ⟨cp, cr, cad, clen, ccap⟩ := d
        obtain ⟨-, d1, -, -⟩ := hcr
        dsimp only at d1
        by_cases hr : cr = r
        · have hs' : Hid ((evsFrom r 0 (cs.take (j + 1))).length = u + 1) := by show List.length _ = _; rw [hsucc]; simp [evsFrom, hr, hu.out]
          subst hr
          clear hsucc
          go_wp2_with fail
          go_round
          case rel => exact ⟨j + 1, u + 1, by omega, by go_num, by go_num, hs', by omega⟩
          case measure => simp [intOf]; omega
        · have hs' : Hid ((evsFrom r 0 (cs.take (j + 1))).length = u) := by show List.length _ = _; rw [hsucc]; simp [evsFrom, hr, hu.out]
          clear hsucc
          go_wp2_with fail
          go_round
          case rel => exact ⟨j + 1, u, by omega, by go_num, rfl, hs', by omega⟩
          case measure => simp [intOf]; omega
    · have hue : u = es.length := by
        have := hu.out
        rw [List.take_of_length_le (by rw [hl2.out]; omega), hcnt.out] at this
        exact this.symm
      subst hue
      clear hu hcnt
      have e1 : ((fs.length : Int) + (gs.length : Int) != (es.length : Int)) = false := by have := hlsum.out; simp; omega
      have e2 : (fs.length : Int) + (gs.length : Int) ≤ 1048576 := by have := hlsum.out; omega
      have e3 : (fs.length : Int) ≤ (es.length : Int) := by have := hlsum.out; omega
      go_wp2_with fail
      go_loopw [13] (fun i wx => ∃ m : Nat, m ≤ fs.length ∧ i = .int .i64 m ∧ Below w4.heap.size w4 wx) (fun i _ => fs.length - (intOf i).toNat)
      case atStart => exact ⟨0, Nat.zero_le _, rfl, Below.refl _ _⟩
      case round =>
        obtain ⟨m, hm, rfl, hbm⟩ := hrel
        by_cases hlt2 : m < fs.length
        · have hme : m < es.length := by omega
          obtain ⟨zs, hz, hzl, -, -⟩ := hint.out m hme
          obtain ⟨g1, o1, rfl, ev1⟩ := he4 m hme
          obtain ⟨g2, o2, rfl, ev2⟩ := hf4 m hlt2
          have heq : fs.getD m (0, cr0) = es.getD m (0, cr0) := by rw [hspl.out, getD_left _ _ _ hlt2]
          rw [heq] at ev2
          clear heq
          obtain ⟨⟨p, cp, cr, cad, clen, ccap⟩, hq⟩ : ∃ q, es.getD m (0, cr0) = q := ⟨_, rfl⟩
          rw [hq] at hz hzl ev1 ev2
          dsimp only at hz hzl ev1 ev2
          clear hq
          obtain ⟨a0, a1, a2, a3, a4, a5, a6⟩ := ev1.below hbm
          obtain ⟨b0, b1, b2, b3, b4, b5, b6⟩ := ev2.below hbm
          have hzd : Ints wr.drew cad clen zs := (hz.below hbm).below (Below.drew (Below.refl _ _))
          have i0 : (0 : Int) ≤ (m : Int) := by omega
          have i1 : (m : Int) < (es.length : Int) := by omega
          have i2 : (m : Int) < (fs.length : Int) := by omega
          have ev1d : EvAt wr.drew g1 (o1 + m * 7) r p cad clen ccap := (ev1.below hbm).below (Below.drew (Below.refl _ _))
          have ev2d : EvAt wr.drew g2 (o2 + m * 7) r p cad clen ccap := (ev2.below hbm).below (Below.drew (Below.refl _ _))
          clear ev1 ev2 hz
          go_wp2_with fail
          go_region_held3 (fun w' => (w'.cell? ⟨g1, o1 + m * 7, none⟩ = some (.int .i64 r) ∧ w'.cell? ⟨g1, o1 + m * 7 + 1, none⟩ = some (.int .i64 0) ∧ w'.cell? ⟨g1, o1 + m * 7 + 2, none⟩ = some (.int .i8 2) ∧ w'.cell? ⟨g1, o1 + m * 7 + 3, none⟩ = some (.int .i64 p) ∧ w'.cell? ⟨g1, o1 + m * 7 + 4, none⟩ = some (.int .i64 0) ∧ w'.cell? ⟨g1, o1 + m * 7 + 5, none⟩ = some (.string ⟨#[]⟩) ∧ w'.cell? ⟨g1, o1 + m * 7 + 6, none⟩ = some (.slice cad clen ccap)) ∧ (w'.cell? ⟨g2, o2 + m * 7, none⟩ = some (.int .i64 r) ∧ w'.cell? ⟨g2, o2 + m * 7 + 1, none⟩ = some (.int .i64 0) ∧ w'.cell? ⟨g2, o2 + m * 7 + 2, none⟩ = some (.int .i8 2) ∧ w'.cell? ⟨g2, o2 + m * 7 + 3, none⟩ = some (.int .i64 p) ∧ w'.cell? ⟨g2, o2 + m * 7 + 4, none⟩ = some (.int .i64 0) ∧ w'.cell? ⟨g2, o2 + m * 7 + 5, none⟩ = some (.string ⟨#[]⟩) ∧ w'.cell? ⟨g2, o2 + m * 7 + 6, none⟩ = some (.slice cad clen ccap))) (first | assumption | go_keep)
            (first | (go_at_call 23; refine (sameEvent_any r p ⟨#[]⟩ cad cad clen ccap ccap zs _ hzd hzd rfl hzl).mono ?_; rintro e w6 ⟨rfl, hb6⟩; have hS := And.intro (ev1d.below hb6).conj (ev2d.below hb6).conj))
          have hb7 : Below w4.heap.size w4 w6 := hbm.drew.trans (hb6.mono hbm.size)
          go_wp2_with fail
          go_roundw
          case rel => exact ⟨m + 1, by omega, by go_num, hb7⟩
          case measure => simp [intOf]; omega
        · go_wp2_with fail
          go_loopw [14] (fun i wx => ∃ m : Nat, m ≤ gs.length ∧ i = .int .i64 m ∧ Below w4.heap.size w4 wx) (fun i _ => gs.length - (intOf i).toNat)
          case atStart => exact ⟨0, Nat.zero_le _, rfl, hbm⟩
          case round =>
            clear hbm hlt2 hm
            obtain ⟨m, hm, rfl, hbm⟩ := hrel
            by_cases hlt2 : m < gs.length
            · have hme : fs.length + m < es.length := by have := hlsum.out; omega
              obtain ⟨zs, hz, hzl, hz0, hz1⟩ := hint.out (fs.length + m) hme
              obtain ⟨g1, o1, rfl, ev1⟩ := he4 (fs.length + m) hme
              obtain ⟨g2, o2, rfl, ev2⟩ := hg4 m hlt2
              have heq : es.getD (fs.length + m) (0, cr0) = ((gs.getD m (0, cr0)).1 + (c : Int), (gs.getD m (0, cr0)).2) := by rw [hspl.out]; exact getD_right fs gs (fun e => (e.1 + (c : Int), e.2)) m (0, cr0) (0, cr0) hlt2
              rw [heq] at hz hzl hz0 hz1 ev1
              clear heq
              obtain ⟨⟨p, cp, cr, cad, clen, ccap⟩, hq⟩ : ∃ q, gs.getD m (0, cr0) = q := ⟨_, rfl⟩
              rw [hq] at hz hzl hz0 hz1 ev1 ev2
              dsimp only at hz hzl hz0 hz1 ev1 ev2
              clear hq
              obtain ⟨b0, b1, b2, b3, b4, b5, b6⟩ := ev2.below hbm
              have i0 : (0 : Int) ≤ (m : Int) := by omega
              have i1 : (fs.length : Int) + (m : Int) < (es.length : Int) := by omega
              have i2 : (m : Int) < (gs.length : Int) := by omega
              have i3 : (0 : Int) ≤ (fs.length : Int) + (m : Int) := by omega
              have ev1r : ∀ o, EvAt (wr.alloc o) g1 (o1 + (fs.length + m) * 7) r (p + c) cad clen ccap := fun o => (ev1.below hbm).below ((Below.refl _ _).alloc (Nat.le_refl _) o)
              have hzr : ∀ o, Ints (wr.alloc o).drew cad clen zs := fun o => ((hz.below hbm).below ((Below.refl _ _).alloc (Nat.le_refl _) o)).below (Below.drew (Below.refl _ _))
              have ebox : EvAt (wr.alloc (.cells #[.int .i64 r, .int .i64 0, .int .i8 2, .int .i64 (p + c), .int .i64 0, .string ⟨#[]⟩, .slice cad clen ccap] 63)) wr.heap.size 0 r (p + c) cad clen ccap := ⟨by simp [go_sem], by simp [go_sem], by simp [go_sem], by simp [go_sem], by simp [go_sem], by simp [go_sem], by simp [go_sem]⟩
              have hwrap : IntKind.i64.wrap ((fs.length : Int) + (m : Int)) = (fs.length : Int) + (m : Int) := wrap_small _ (by omega) (by omega)
              have hnat : ((fs.length : Int) + (m : Int)).toNat = fs.length + m := by omega
              clear ev1 ev2 hz
              go_wp2_with fail
              obtain ⟨a0, a1, a2, a3, a4, a5, a6⟩ := ev1r (.cells #[.int .i64 r, .int .i64 0, .int .i8 2, .int .i64 (p + c), .int .i64 0, .string ⟨#[]⟩, .slice cad clen ccap] 63)
              have ev1d := (ev1r (.cells #[.int .i64 r, .int .i64 0, .int .i8 2, .int .i64 (p + c), .int .i64 0, .string ⟨#[]⟩, .slice cad clen ccap] 63)).below (Below.drew (Below.refl _ _))
              have eboxd := ebox.below (Below.drew (Below.refl _ _))
              have hzd := hzr (.cells #[.int .i64 r, .int .i64 0, .int .i8 2, .int .i64 (p + c), .int .i64 0, .string ⟨#[]⟩, .slice cad clen ccap] 63)
              clear hzr
              go_region_held3 (fun w' => (w'.cell? ⟨g1, o1 + (fs.length + m) * 7, none⟩ = some (.int .i64 r) ∧ w'.cell? ⟨g1, o1 + (fs.length + m) * 7 + 1, none⟩ = some (.int .i64 0) ∧ w'.cell? ⟨g1, o1 + (fs.length + m) * 7 + 2, none⟩ = some (.int .i8 2) ∧ w'.cell? ⟨g1, o1 + (fs.length + m) * 7 + 3, none⟩ = some (.int .i64 (p + c)) ∧ w'.cell? ⟨g1, o1 + (fs.length + m) * 7 + 4, none⟩ = some (.int .i64 0) ∧ w'.cell? ⟨g1, o1 + (fs.length + m) * 7 + 5, none⟩ = some (.string ⟨#[]⟩) ∧ w'.cell? ⟨g1, o1 + (fs.length + m) * 7 + 6, none⟩ = some (.slice cad clen ccap)) ∧ (w'.cell? ⟨wr.heap.size, 0, none⟩ = some (.int .i64 r) ∧ w'.cell? ⟨wr.heap.size, 0 + 1, none⟩ = some (.int .i64 0) ∧ w'.cell? ⟨wr.heap.size, 0 + 2, none⟩ = some (.int .i8 2) ∧ w'.cell? ⟨wr.heap.size, 0 + 3, none⟩ = some (.int .i64 (p + c)) ∧ w'.cell? ⟨wr.heap.size, 0 + 4, none⟩ = some (.int .i64 0) ∧ w'.cell? ⟨wr.heap.size, 0 + 5, none⟩ = some (.string ⟨#[]⟩) ∧ w'.cell? ⟨wr.heap.size, 0 + 6, none⟩ = some (.slice cad clen ccap))) (first | assumption | go_keep)
                (first | (go_at_call 23; refine (sameEvent_any r (p + c) ⟨#[]⟩ cad cad clen ccap ccap zs _ hzd hzd rfl hzl).mono ?_; rintro e w6 ⟨rfl, hb6⟩; have hS := And.intro (ev1d.below hb6).conj (eboxd.below hb6).conj))
              have hb7 : Below w4.heap.size w4 w6 := (hbm.alloc hbm.size _).drew.trans (hb6.mono (by simp; exact Nat.le_succ_of_le hbm.size))
              go_wp2_with fail
              go_roundw
              case rel => exact ⟨m + 1, by omega, by go_num, hb7⟩
              case measure => simp [intOf]; omega
            · go_wp2_with fail
              go_loopw [16] (fun i wx => ∃ k : Nat, (k + 1 ≤ es.length ∨ k = 0) ∧ i = .int .i64 ((k : Int) + 1) ∧ Below w4.heap.size w4 wx) (fun i _ => es.length - (intOf i).toNat)
              case atStart => exact ⟨0, Or.inr rfl, rfl, hbm⟩
              case round =>
                clear hbm hlt2 hm
                obtain ⟨k, hm, rfl, hbm⟩ := hrel
                by_cases hlt2 : k + 1 < es.length
                · obtain ⟨g1, o1, rfl, ev1⟩ := he4 k (by omega)
                  obtain ⟨g2, o2, eg, ev2⟩ := he4 (k + 1) hlt2
                  simp only [Option.some.injEq, Addr.mk.injEq, and_true] at eg
                  obtain ⟨rfl, rfl⟩ := eg
                  have hlt3 := sorted_next es hsort.out k hlt2
                  obtain ⟨p, hpp⟩ : ∃ p, Hid ((es.getD k (0, cr0)).1 = p) := ⟨_, rfl⟩
                  obtain ⟨q, hqq⟩ : ∃ q, Hid ((es.getD (k + 1) (0, cr0)).1 = q) := ⟨_, rfl⟩
                  have c3 := (ev1.below hbm).c3
                  have d3 := (ev2.below hbm).c3
                  rw [hpp.out] at c3 hlt3
                  rw [hqq.out] at d3 hlt3
                  have hd : decide (q ≤ p) = false := by simp; omega
                  have i0 : (0 : Int) ≤ (k : Int) := by omega
                  have i1 : (k : Int) + 1 < (es.length : Int) := by omega
                  have i2 : (k : Int) < (es.length : Int) := by omega
                  have hw1 : IntKind.i64.wrap ((k : Int) + 1 - 1) = (k : Int) := by rw [wrap_small _ (by omega) (by omega)]; omega
                  have hw2 : ((k : Int) + 1).toNat = k + 1 := by omega
                  clear ev1 ev2
                  go_wp2_with fail
                  go_quiet (fail)
                  go_wp2_with fail
                  go_roundw
                  case rel => exact ⟨k + 1, Or.inl (by omega), by go_num, hbm.trans (below_draws _ _ _)⟩
                  case measure => simp [intOf]; omega
                · go_wp2_with fail
                  go_ret
                  exact ⟨rfl, hb5.trans (hbm.mono hb5.size)⟩

end Go.Proofs.Qxb6613846a
