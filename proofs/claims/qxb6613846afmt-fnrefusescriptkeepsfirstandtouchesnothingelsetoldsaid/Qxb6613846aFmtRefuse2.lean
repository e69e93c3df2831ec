import Derived.Test.Qxb6613846aFmtRefuse
import Derived.Deep.CutRange
namespace Go.Proofs.Qxb6613846aFmt
open Go.RowKit Go.Extern.Stop Go.Stop Go.Extern
set_option linter.unusedSimpArgs false
set_option linter.unusedVariables false
attribute [local go_sem ↓] Go.wp_at_zero Go.wp_at_succ
attribute [local go_sem] call29 call33 guard fmt0 fmt0r fmt1 fmt1r fmt2 fmt2r fmt2z fmt2zr op9_false op9_true op48_false op48_true op3_false op3_true ptr69 elem69 isError69

theorem cell_low {B : Nat} {w w' : World} (h : Below B w w') {b o : Nat} {v : Value} (hc : w.cell? ⟨b, o, none⟩ = some v) (hb : b < B) : w'.cell? ⟨b, o, none⟩ = some v := by
  have e := h.block b hb
  simp only [World.cell?] at hc ⊢
  rw [e]; exact hc

theorem Chs.low {w w' : World} {B : Nat} {ad : Option Addr} {len : Nat} {P R : Nat → Int} {V : Nat → ByteArray} (h : Chs w ad len P R V) (hb : Below B w w') (hl : ∀ a, 0 < len → ad = some a → a.block < B) : Chs w' ad len P R V :=
  ⟨fun i hi => by
    obtain ⟨b, off, e, c, d, f⟩ := h.cells i hi
    have := hl _ (by omega) e
    exact ⟨b, off, e, cell_low hb c this, cell_low hb d this, cell_low hb f this⟩⟩
theorem Strs.low {w w' : World} {B : Nat} {ad : Option Addr} {len : Nat} {S : Nat → ByteArray} (h : Strs w ad len S) (hb : Below B w w') (hl : ∀ a, 0 < len → ad = some a → a.block < B) : Strs w' ad len S :=
  ⟨fun i hi => by
    obtain ⟨b, off, e, c⟩ := h.cells i hi
    have := hl _ (by omega) e
    exact ⟨b, off, e, cell_low hb c this⟩⟩

theorem Chs.lt {w : World} {ad : Option Addr} {len : Nat} {P R : Nat → Int} {V : Nat → ByteArray} (h : Chs w ad len P R V) : ∀ a, 0 < len → ad = some a → a.block < w.heap.size := by
  intro a h0 e
  obtain ⟨b, off, e', c, -, -⟩ := h.cells 0 h0
  rw [e] at e'
  simp only [Option.some.injEq] at e'
  subst e'
  exact World.block_lt_of_cell? _ _ c
theorem Strs.lt {w : World} {ad : Option Addr} {len : Nat} {S : Nat → ByteArray} (h : Strs w ad len S) : ∀ a, 0 < len → ad = some a → a.block < w.heap.size := by
  intro a h0 e
  obtain ⟨b, off, e', c⟩ := h.cells 0 h0
  rw [e] at e'
  simp only [Option.some.injEq] at e'
  subst e'
  exact World.block_lt_of_cell? _ _ c

theorem set_other {w : World} {g j b i : Nat} {x v : Value} (h : w.cell? ⟨b, i, none⟩ = some x) (ne : b ≠ g ∨ i ≠ j) : (w.setCell ⟨g, j, none⟩ v).cell? ⟨b, i, none⟩ = some x := by
  rw [World.cell?_setCell_other _ _ _ _ (fun e => by simp at e; omega)]
  exact h

theorem ans_below {F : Interp} {B : Nat} {w w' : World} (h : Below B w w') (hF : F.answers w.tape) : F.answers w'.tape := by rw [h.tape]; exact hF
theorem bel_alloc {w w2 : World} {o : Obj} (h : Below (w.alloc o).heap.size (w.alloc o) w2) : Below w.heap.size w w2 :=
  ((Below.refl _ _).alloc (Nat.le_refl _) _).trans (h.mono (by rw [Deep.nblk_alloc]; omega))
theorem errorf_new (F : Interp) (a b c : ByteArray) (d : Int) (w : World) (hF : F.answers w.tape) :
    Calls Tryf.prog 30 #[.string ⟨#[37, 115, 32, 105, 115, 32, 110, 111, 116, 32, 111, 110, 101, 32, 111, 102, 32, 37, 115, 44, 32, 37, 115, 32, 105, 110, 32, 114, 111, 117, 110, 100, 32, 37, 100]⟩, .slice (some ⟨w.heap.size, 0, none⟩) 4 4] (w.alloc (.cells #[.iface 48 (.string a), .iface 9 (.string b), .iface 9 (.string c), .iface 3 (.int .i64 d)] 20))
      fun e w' => ∃ q, e = .returned (.iface 69 (.pointer (some q))) ∧ Below w.heap.size w w' :=
  (errorf_any F w.heap.size a b c d (w.alloc (.cells #[.iface 48 (.string a), .iface 9 (.string b), .iface 9 (.string c), .iface 3 (.int .i64 d)] 20)) hF (by simp [go_sem]) (by simp [go_sem]) (by simp [go_sem]) (by simp [go_sem])).mono fun e w' ⟨q, he, hb⟩ => ⟨q, he, bel_alloc hb⟩

/-- What 'refuse' leaves at p. -/
def Turned (w' : World) (p : Nat) (n u : ByteArray) (ca : Option Addr) (cl cc : Nat) (oa : Option Addr) (ol oc : Nat) (nx fl : Int) (rb : Bool) (i : Int) : Prop :=
  ∃ rv', Rv (rb || decide (i < fl)) rv' ∧ Scr w' p n u ca cl cc oa ol oc nx (if i < fl then i else fl) rv'

set_option maxHeartbeats 2000000 in
set_option maxRecDepth 100000 in
theorem refuse_any (F : Interp) (p : Nat) (n u : ByteArray) (ca : Option Addr) (cl cc : Nat) (oa : Option Addr) (ol oc : Nat) (nx fl : Int) (rv : Value) (rb : Bool) (i : Int) (ia : Bool) (ir ip : Int) (pa : Option Addr) (len cap : Nat) (P R : Nat → Int) (V S : Nat → ByteArray) (w : World)
    (hF : F.answers w.tape) (hs : Scr w p n u ca cl cc oa ol oc nx fl rv) (hrv : Rv rb rv) (hc : Chs w ca cl P R V) (ho : Strs w pa len S) (hcb : ∀ a, 0 < cl → ca = some a → a.block < p) (hob : ∀ a, 0 < len → pa = some a → a.block < p) (hi0 : 0 ≤ i) (hfl : fl ≤ (cl : Int)) (hcl : cl ≤ 1048576) (hlen : len ≤ 1048576) (hS : ∀ m, m < len → (S m).size ≤ 1048576) :
    Calls Tryf.prog 27 #[.pointer (some ⟨p, 0, none⟩), .int .i64 i, .agg #[.bool ia, .int .i64 ir, .int .i64 ip], .slice pa len cap] w
      fun e w' => e = .returned (.tuple #[]) ∧ Below p w w' ∧ Turned w' p n u ca cl cc oa ol oc nx fl rb i := by
  have hF' := answers_open hF
  obtain ⟨s2, s5, s6, sf, sp⟩ := hs.cell
  have a5 : ∀ o, (w.alloc o).cell? ⟨p, 5, none⟩ = some (.int .i64 fl) := fun o => cell_later ((Below.refl _ _).alloc (Nat.le_refl _) o) s5
  by_cases hlt : i < fl
  case neg =>
    have hb := (Below.refl w.heap.size w).alloc (Nat.le_refl _) (.cells #[.bool ia, .int .i64 ir, .int .i64 ip] 57)
    have hfin : Below p w (w.alloc (.cells #[.bool ia, .int .i64 ir, .int .i64 ip] 57)) ∧ Turned (w.alloc (.cells #[.bool ia, .int .i64 ir, .int .i64 ip] 57)) p n u ca cl cc oa ol oc nx fl rb i := by
      refine ⟨hb.mono (by omega), rv, ?_, ?_⟩
      · simpa [hlt] using hrv
      · rw [if_neg hlt]; exact hs.below hb sp
    go_enter Tryf.func27, Tryf.ntmps27
    go_wp2_with fail
    (try simp only [Exit.inBlock, Exit.then])
    refine bodyPost_ret (results_none rfl _ _ _) rfl ?_
    exact ⟨rfl, hfin⟩
  obtain ⟨j, rfl⟩ : ∃ j : Nat, i = (j : Int) := ⟨i.toNat, by omega⟩
  go_enter Tryf.func27, Tryf.ntmps27
  go_upto_if 21 with fail
  go_cut [8] from 9 to 26 (fun s8 wx => ∃ x, s8 = .string x ∧ Below w.heap.size w wx ∧ wx.cell? ⟨w.heap.size, 1, none⟩ = some (.int .i64 ir))
  case first =>
    cases ia
    · go_wp2_with fail
      go_meet
      refine ⟨_, rfl, (((Below.refl _ _).alloc (Nat.le_refl _) _).alloc (by rw [Deep.nblk_alloc]; omega) _).drew, by simp [go_sem]⟩
    · go_wp2_with fail
      go_meet
      refine ⟨_, rfl, ((((Below.refl _ _).alloc (Nat.le_refl _) _).alloc (by rw [Deep.nblk_alloc]; omega) _).alloc (by rw [Deep.nblk_alloc, Deep.nblk_alloc]; omega) _).drew.drew, by simp [go_sem]⟩
  case rest =>
    obtain ⟨x, rfl, hbc, cr⟩ := hcut
    have hsC := hs.below hbc sp
    obtain ⟨-, t5, -, tf, tp⟩ := hsC.cell
    have hsD := hsC.set5 (j : Int)
    obtain ⟨d2, d5, d6, df, dp⟩ := hsD.cell
    have hsDd : Scr (wc.setCell ⟨p, 5, none⟩ (.int .i64 j)).drew p n u ca cl cc oa ol oc nx (j : Int) rv := hsD
    have hbW : Below p w (wc.setCell ⟨p, 5, none⟩ (.int .i64 j)) := (hbc.mono (Nat.le_of_lt sp)).setCell (Nat.le_refl _) _
    have hjc : j < cl := by omega
    have hoW := (ho.low hbW hob).below (Below.drew (Below.refl _ _))
    have hcW := hc.low hbW hcb
    obtain ⟨b, off, ea, -, -, c2⟩ := hcW.cells j hjc
    have nb : b < p := hcb _ (by omega) ea
    subst ea
    obtain ⟨v, hv⟩ : ∃ z, Hid (V j = z) := ⟨_, rfl⟩
    rw [hv.out] at c2
    have crW : (wc.setCell ⟨p, 5, none⟩ (.int .i64 j)).cell? ⟨w.heap.size, 1, none⟩ = some (.int .i64 ir) := set_other cr (Or.inl (by omega))
    have np : w.heap.size ≠ p := by omega
    have nbp : b ≠ p := by omega
    have n26 : (2 : Nat) ≠ 6 := by omega
    have hFW : F.answers (wc.setCell ⟨p, 5, none⟩ (.int .i64 j)).tape := by rw [hbW.tape]; exact hF
    have i0 : (0 : Int) ≤ (j : Int) := by omega
    have i1 : (j : Int) < (cl : Int) := by omega
    clear hF hF' a5 s2 s5 s6 sf
    go_wp2_with fail
    go_region_held3 (fun w' => w'.cell? ⟨p, 2, none⟩ = some (.slice (some ⟨b, off, none⟩) cl cc) ∧ w'.cell? ⟨b, off + j * 3 + 2, none⟩ = some (.string v) ∧ w'.cell? ⟨w.heap.size, 1, none⟩ = some (.int .i64 ir)) (first | exact ⟨d2, c2, crW⟩ | exact ⟨k0, k1, k2⟩ | exact ⟨q0, q1, q2⟩ | exact ⟨l0 _, l1 _, l2 _⟩ | go_keep)
      (first | (go_at_call 31; refine (joinJSON_any pa len cap S _ hoW hlen hS).mono ?_; rintro e w1 ⟨⟨y, rfl⟩, hb1⟩; have k0 := cell_later hb1 d2; have k1 := cell_later hb1 c2; have k2 := cell_later hb1 crW; have hF1 := ans_below hb1 hFW; have hs1 := hsDd.below hb1 dp) | (go_at_call 30; refine (errorf_new F v y x ir _ hF1).mono ?_; rintro e w2 ⟨q, rfl, hbA⟩; have hs2 := hs1.below hbA (Nat.lt_of_lt_of_le dp hb1.size); obtain ⟨-, -, g6, gf, -⟩ := hs2.cell; have q0 := cell_later hbA k0; have q1 := cell_later hbA k1; have q2 := cell_later hbA k2; have l0 := fun v => set_other (g := p) (j := 6) (v := v) (cell_later hbA k0) (Or.inr n26); have l1 := fun v => set_other (g := p) (j := 6) (v := v) (cell_later hbA k1) (Or.inl nbp); have l2 := fun v => set_other (g := p) (j := 6) (v := v) (cell_later hbA k2) (Or.inl np)))
    have hb3 : Below p w w1 := hbW.drew.trans (hb1.mono (Nat.le_of_lt dp))
    have hb4 : Below p w w2 := hb3.trans (hbA.mono (Nat.le_trans (Nat.le_of_lt dp) hb1.size))
    have hfin : Below p w (w2.setCell ⟨p, 6, none⟩ (.iface 69 (.pointer (some q)))) ∧ Turned (w2.setCell ⟨p, 6, none⟩ (.iface 69 (.pointer (some q)))) p n u (some ⟨b, off, none⟩) cl cc oa ol oc nx fl rb j := by
      refine ⟨hb4.setCell (Nat.le_refl _) _, .iface 69 (.pointer (some q)), ?_, ?_⟩
      · have : (rb || decide ((j : Int) < fl)) = true := by simp [hlt]
        rw [this]; exact ⟨q, rfl⟩
      · rw [if_pos hlt]; exact hs2.set6 _
    go_wp2_with fail
    go_end0
    exact ⟨rfl, hfin⟩

end Go.Proofs.Qxb6613846aFmt
