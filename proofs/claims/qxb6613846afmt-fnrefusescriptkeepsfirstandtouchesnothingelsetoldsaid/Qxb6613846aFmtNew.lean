import Derived.Test.Qxb6613846aFmtRefuse2
namespace Go.Proofs.Qxb6613846aFmt
open Go.RowKit Go.Extern.Stop Go.Stop Go.Extern
set_option linter.unusedSimpArgs false
set_option linter.unusedVariables false
attribute [local go_sem ↓] Go.wp_at_zero Go.wp_at_succ

/-! ### ZZrefuse -/
theorem zzrefuse_any (F : Interp) (p : Nat) (n u : ByteArray) (ca : Option Addr) (cl cc : Nat) (oa : Option Addr) (ol oc : Nat) (nx fl : Int) (rv : Value) (rb : Bool) (i : Int) (ia : Bool) (ir ip : Int) (pa : Option Addr) (len cap : Nat) (P R : Nat → Int) (V S : Nat → ByteArray) (w : World)
    (hF : F.answers w.tape) (hs : Scr w p n u ca cl cc oa ol oc nx fl rv) (hrv : Rv rb rv) (hc : Chs w ca cl P R V) (ho : Strs w pa len S) (hcb : ∀ a, 0 < cl → ca = some a → a.block < p) (hob : ∀ a, 0 < len → pa = some a → a.block < p) (hi0 : 0 ≤ i) (hfl : fl ≤ (cl : Int)) (hcl : cl ≤ 1048576) (hlen : len ≤ 1048576) (hS : ∀ m, m < len → (S m).size ≤ 1048576) :
    Calls Tryf.prog 11 #[.pointer (some ⟨p, 0, none⟩), .int .i64 i, .bool ia, .int .i64 ir, .int .i64 ip, .slice pa len cap] w
      fun e w' => e = .returned (.tuple #[]) ∧ Below p w w' ∧ Turned w' p n u ca cl cc oa ol oc nx fl rb i := by
  go_enter Tryf.func11, Tryf.ntmps11
  go_wp2_with fail
  refine (refuse_any F p n u ca cl cc oa ol oc nx fl rv rb i ia ir ip pa len cap P R V S w hF hs hrv hc ho hcb hob hi0 hfl hcl hlen hS).mono ?_
  rintro e w1 ⟨rfl, hb, ht⟩
  go_wp2_with fail
  go_end0
  exact ⟨rfl, hb, ht⟩

/-! ### ZZfailed, ZZrefusedSet -/
theorem failed_any (p : Nat) (n u : ByteArray) (ca : Option Addr) (cl cc : Nat) (oa : Option Addr) (ol oc : Nat) (nx fl : Int) (rv : Value) (w : World) (hs : Scr w p n u ca cl cc oa ol oc nx fl rv) :
    Calls Tryf.prog 12 #[.pointer (some ⟨p, 0, none⟩)] w fun e w' => e = .returned (.int .i64 fl) ∧ w' = w := by
  obtain ⟨s2, s5, s6, sf, sp⟩ := hs.cell
  go_enter Tryf.func12, Tryf.ntmps12
  go_wp2_with fail
  go_ret
  exact ⟨rfl, rfl⟩

theorem refset_any (p : Nat) (n u : ByteArray) (ca : Option Addr) (cl cc : Nat) (oa : Option Addr) (ol oc : Nat) (nx fl : Int) (rv : Value) (rb : Bool) (w : World) (hs : Scr w p n u ca cl cc oa ol oc nx fl rv) (hr : Rv rb rv) :
    Calls Tryf.prog 13 #[.pointer (some ⟨p, 0, none⟩)] w fun e w' => e = .returned (.bool rb) ∧ w' = w := by
  obtain ⟨s2, s5, s6, sf, sp⟩ := hs.cell
  cases rb with
  | false =>
    have hr' : rv = .nilIface := hr
    subst hr'
    go_enter Tryf.func13, Tryf.ntmps13
    go_wp2_with fail
    go_ret
    exact ⟨rfl, rfl⟩
  | true =>
    obtain ⟨q, hq⟩ : ∃ q, rv = .iface 69 (.pointer (some q)) := hr
    subst hq
    go_enter Tryf.func13, Tryf.ntmps13
    go_wp2_with fail
    go_ret
    exact ⟨rfl, rfl⟩

/-! ### ZZnewScripted -/
def Made (w' : World) (p : Nat) (n u : ByteArray) (ca : Option Addr) (cl cc : Nat) (oa : Option Addr) (ol oc : Nat) (nx fl : Int) (rs : Bool) : Prop :=
  ∃ rv, Rv rs rv ∧ Scr w' p n u ca cl cc oa ol oc nx fl rv

set_option maxHeartbeats 1000000 in
theorem znew_any (n u : ByteArray) (ca : Option Addr) (cl cc : Nat) (oa : Option Addr) (ol oc : Nat) (nx fl : Int) (rs : Bool) (w : World) :
    Calls Tryf.prog 24 #[.string n, .string u, .slice ca cl cc, .slice oa ol oc, .int .i64 nx, .int .i64 fl, .bool rs] w
      fun e w' => e = .returned (.pointer (some ⟨w.heap.size, 0, none⟩)) ∧ Below w.heap.size w w' ∧ Made w' w.heap.size n u ca cl cc oa ol oc nx fl rs := by
  have hS0 : Scr (w.alloc (.cells #[.string n, .string u, .slice ca cl cc, .slice oa ol oc, .int .i64 nx, .int .i64 fl, .nilIface] 61)) w.heap.size n u ca cl cc oa ol oc nx fl .nilIface := Deep.blk_alloc_new _ _
  have hb0 : ∀ o, Below w.heap.size w (w.alloc o) := fun o => (Below.refl _ _).alloc (Nat.le_refl _) o
  cases rs with
  | false =>
    go_enter Tryf.func24, Tryf.ntmps24
    go_wp2_with fail
    go_ret
    exact ⟨rfl, hb0 _, _, rfl, hS0⟩
  | true =>
    go_enter Tryf.func24, Tryf.ntmps24
    go_wp2_with fail
    refine (errNew _ _).mono ?_
    rintro e w1 ⟨rfl, hb1⟩
    have hS1 := hS0.below hb1 (by rw [Deep.nblk_alloc]; omega)
    obtain ⟨s2, s5, s6, sf, sp⟩ := hS1.cell
    have hS2 := fun v => hS1.set6 v
    have hb2 : ∀ v, Below w.heap.size w (w1.setCell ⟨w.heap.size, 6, none⟩ v) := fun v => ((hb0 _).trans (hb1.mono (by rw [Deep.nblk_alloc]; omega))).setCell (Nat.le_refl _) _
    go_wp2_with fail
    go_ret
    exact ⟨rfl, hb2 _, _, ⟨_, rfl⟩, hS2 _⟩

/-! ### zzNewScripted -/
structure Fresh (w w' : World) (p : Nat) (n u : ByteArray) (ca : Option Addr) (cl : Nat) (oa : Option Addr) (ol : Nat) (nx fl : Int) (rs : Bool) (P R : Nat → Int) (V : Nat → ByteArray) (zs : List Int) (ca' : Option Addr) (cc' : Nat) (oa' : Option Addr) (oc' : Nat) : Prop where
  bel : Below w.heap.size w w'
  ge : w.heap.size ≤ p
  lt : p < w'.heap.size
  made : Made w' p n u ca' cl cc' oa' ol oc' nx fl rs
  chs : Chs w' ca' cl P R V
  ints : Ints w' oa' ol zs
  low : ∀ a, 0 < cl → ca' = some a → a.block < p
  lowi : ∀ a, 0 < ol → oa' = some a → a.block < p
  cn : ca'.isNone = ca.isNone
  on : oa'.isNone = oa.isNone

theorem Ints.lt {w : World} {ad : Option Addr} {len : Nat} {zs : List Int} (h : Ints w ad len zs) : ∀ a, 0 < len → ad = some a → a.block < w.heap.size := by
  intro a h0 e
  obtain ⟨b, off, e', c⟩ := h.cells 0 h0
  rw [e] at e'
  simp only [Option.some.injEq] at e'
  subst e'
  exact World.block_lt_of_cell? _ _ c

theorem Made.lt {w' : World} {p : Nat} {n u : ByteArray} {ca : Option Addr} {cl cc : Nat} {oa : Option Addr} {ol oc : Nat} {nx fl : Int} {rs : Bool} (h : Made w' p n u ca cl cc oa ol oc nx fl rs) : p < w'.heap.size := by
  obtain ⟨rv, -, hs⟩ := h
  exact hs.cell.2.2.2.2

set_option maxHeartbeats 2000000 in
set_option maxRecDepth 100000 in
theorem new_any (n u : ByteArray) (ca : Option Addr) (cl cc : Nat) (oa : Option Addr) (ol oc : Nat) (nx fl : Int) (rs : Bool) (P R : Nat → Int) (V : Nat → ByteArray) (zs : List Int) (w : World)
    (hc : Chs w ca cl P R V) (hi : Ints w oa ol zs) (hcl : cl ≤ 1048576) (hol : ol ≤ 1048576) :
    Calls Tryf.prog 10 #[.agg #[.string n, .string u, .slice ca cl cc, .slice oa ol oc, .int .i64 nx, .int .i64 fl, .bool rs]] w
      fun e w' => ∃ p ca' cc' oa' oc', e = .returned (.pointer (some ⟨p, 0, none⟩)) ∧ Fresh w w' p n u ca cl oa ol nx fl rs P R V zs ca' cc' oa' oc' := by
  have hb0 : ∀ o, Below w.heap.size w (w.alloc o) := fun o => (Below.refl _ _).alloc (Nat.le_refl _) o
  have hcB := (hc.below (hb0 (.cells #[.string n, .string u, .slice ca cl cc, .slice oa ol oc, .int .i64 nx, .int .i64 fl, .bool rs] 25))).below (Below.drew (Below.refl _ _))
  have hiB := (hi.below (hb0 (.cells #[.string n, .string u, .slice ca cl cc, .slice oa ol oc, .int .i64 nx, .int .i64 fl, .bool rs] 25))).below (Below.drew (Below.refl _ _))
  obtain ⟨W, hW⟩ : ∃ W, W = (w.alloc (.cells #[.string n, .string u, .slice ca cl cc, .slice oa ol oc, .int .i64 nx, .int .i64 fl, .bool rs] 25)).drew := ⟨_, rfl⟩
  have c0 : W.cell? ⟨w.heap.size, 0, none⟩ = some (.string n) := by rw [hW]; simp [go_sem]
  have c1 : W.cell? ⟨w.heap.size, 1, none⟩ = some (.string u) := by rw [hW]; simp [go_sem]
  have c2 : W.cell? ⟨w.heap.size, 2, none⟩ = some (.slice ca cl cc) := by rw [hW]; simp [go_sem]
  have c3 : W.cell? ⟨w.heap.size, 3, none⟩ = some (.slice oa ol oc) := by rw [hW]; simp [go_sem]
  have c4 : W.cell? ⟨w.heap.size, 4, none⟩ = some (.int .i64 nx) := by rw [hW]; simp [go_sem]
  have c5 : W.cell? ⟨w.heap.size, 5, none⟩ = some (.int .i64 fl) := by rw [hW]; simp [go_sem]
  have c6 : W.cell? ⟨w.heap.size, 6, none⟩ = some (.bool rs) := by rw [hW]; simp [go_sem]
  have hbW : Below w.heap.size w W := by rw [hW]; exact (hb0 _).drew
  subst hW
  go_enter Tryf.func10, Tryf.ntmps10
  go_wp2_with fail
  go_region_held3 (fun w' => w'.cell? ⟨w.heap.size, 0, none⟩ = some (.string n) ∧ w'.cell? ⟨w.heap.size, 1, none⟩ = some (.string u) ∧ w'.cell? ⟨w.heap.size, 2, none⟩ = some (.slice ca cl cc) ∧ w'.cell? ⟨w.heap.size, 3, none⟩ = some (.slice oa ol oc) ∧ w'.cell? ⟨w.heap.size, 4, none⟩ = some (.int .i64 nx) ∧ w'.cell? ⟨w.heap.size, 5, none⟩ = some (.int .i64 fl) ∧ w'.cell? ⟨w.heap.size, 6, none⟩ = some (.bool rs)) (first | exact ⟨c0, c1, c2, c3, c4, c5, c6⟩ | assumption | go_keep)
    (first | (go_at_call 25; refine (choices_any ca cl cc P R V _ hcB hcl).mono ?_; rintro e w1 ⟨ca', cc', rfl, hn1, hc1, hb1⟩; have hS1 := And.intro (cell_later hb1 c0) (And.intro (cell_later hb1 c1) (And.intro (cell_later hb1 c2) (And.intro (cell_later hb1 c3) (And.intro (cell_later hb1 c4) (And.intro (cell_later hb1 c5) (cell_later hb1 c6)))))); have hiC := hiB.below hb1) | (go_at_call 26; refine (ints_any oa ol oc zs _ hiC hol).mono ?_; rintro e w2 ⟨oa', oc', rfl, hn2, hi2, hb2⟩; have hc2 := hc1.below hb2; have hb12 := hb1.trans (hb2.mono hb1.size); have hS2 := And.intro (cell_later hb12 c0) (And.intro (cell_later hb12 c1) (And.intro (cell_later hb12 c2) (And.intro (cell_later hb12 c3) (And.intro (cell_later hb12 c4) (And.intro (cell_later hb12 c5) (cell_later hb12 c6))))))) | (go_at_call 24; refine (znew_any n u ca' cl cc' oa' ol oc' nx fl rs _).mono ?_; rintro e w3 ⟨rfl, hb3, hm3⟩; have hb13 := hb12.trans (hb3.mono hb12.size); have hS3 := And.intro (cell_later hb13 c0) (And.intro (cell_later hb13 c1) (And.intro (cell_later hb13 c2) (And.intro (cell_later hb13 c3) (And.intro (cell_later hb13 c4) (And.intro (cell_later hb13 c5) (cell_later hb13 c6))))))))
  have hB : Below w.heap.size w w3 := hbW.trans (hb13.mono hbW.size)
  have hF : Fresh w w3 w2.heap.size n u ca cl oa ol nx fl rs P R V zs ca' cc' oa' oc' := ⟨hB, Nat.le_trans hbW.size hb12.size, hm3.lt, hm3, hc2.below hb3, hi2.below hb3, hc2.lt, hi2.lt, hn1, hn2⟩
  go_wp2_with fail
  go_ret
  exact ⟨_, _, _, _, _, rfl, hF⟩

end Go.Proofs.Qxb6613846aFmt
