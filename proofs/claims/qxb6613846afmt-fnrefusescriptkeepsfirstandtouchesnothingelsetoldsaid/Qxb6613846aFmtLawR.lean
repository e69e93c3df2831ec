import Derived.Test.Qxb6613846aFmtGuardR
import Derived.Test.Qxb6613846aFmtSame
namespace Go.Proofs.Qxb6613846aFmt
open Go.RowKit Go.Extern.Stop Go.Stop Go.Extern
set_option linter.unusedSimpArgs false
set_option linter.unusedVariables false
attribute [local go_sem ↓] Go.wp_at_zero Go.wp_at_succ

/-- The law's own two boxes. -/
def Bx2 (w : World) (g : Nat) (n u : ByteArray) (ca : Option Addr) (cl cc : Nat) (oa : Option Addr) (ol oc : Nat) (nx fl : Int) (rs ia : Bool) (ir ip : Int) : Prop :=
  w.heap[g]? = some (.cells #[.string n, .string u, .slice ca cl cc, .slice oa ol oc, .int .i64 nx, .int .i64 fl, .bool rs] 25 (0, 0)) ∧ w.heap[g + 1]? = some (.cells #[.bool ia, .int .i64 ir, .int .i64 ip] 27 (0, 0))

section
variable {w w' : World} {g B : Nat} {n u : ByteArray} {ca : Option Addr} {cl cc : Nat} {oa : Option Addr} {ol oc : Nat} {nx fl : Int} {rs ia : Bool} {ir ip : Int}
theorem Bx2.below (h : Bx2 w g n u ca cl cc oa ol oc nx fl rs ia ir ip) (hb : Below B w w') (hl : g + 1 < B) : Bx2 w' g n u ca cl cc oa ol oc nx fl rs ia ir ip :=
  ⟨(hb.block _ (by omega)).trans h.1, (hb.block _ hl).trans h.2⟩
theorem Bx2.cells (h : Bx2 w g n u ca cl cc oa ol oc nx fl rs ia ir ip) :
    w.cell? ⟨g, 0, none⟩ = some (.string n) ∧ w.cell? ⟨g, 1, none⟩ = some (.string u) ∧ w.cell? ⟨g, 2, none⟩ = some (.slice ca cl cc) ∧ w.cell? ⟨g, 3, none⟩ = some (.slice oa ol oc) ∧ w.cell? ⟨g, 4, none⟩ = some (.int .i64 nx) ∧ w.cell? ⟨g, 5, none⟩ = some (.int .i64 fl) ∧ w.cell? ⟨g, 6, none⟩ = some (.bool rs)
    ∧ w.cell? ⟨g + 1, 0, none⟩ = some (.bool ia) ∧ w.cell? ⟨g + 1, 1, none⟩ = some (.int .i64 ir) ∧ w.cell? ⟨g + 1, 2, none⟩ = some (.int .i64 ip) := by
  obtain ⟨h1, h2⟩ := h
  refine ⟨?_, ?_, ?_, ?_, ?_, ?_, ?_, ?_, ?_, ?_⟩ <;> simp [World.cell?, h1, h2]
end

theorem bx2_start (w : World) (n u : ByteArray) (ca : Option Addr) (cl cc : Nat) (oa : Option Addr) (ol oc : Nat) (nx fl : Int) (rs ia : Bool) (ir ip : Int) :
    Bx2 ((w.alloc (.cells #[.string n, .string u, .slice ca cl cc, .slice oa ol oc, .int .i64 nx, .int .i64 fl, .bool rs] 25)).alloc (.cells #[.bool ia, .int .i64 ir, .int .i64 ip] 27)) w.heap.size n u ca cl cc oa ol oc nx fl rs ia ir ip := by
  refine ⟨?_, ?_⟩
  · rw [Deep.blk_alloc_lt _ _ _ (by rw [Deep.nblk_alloc]; omega)]; exact Deep.blk_alloc_new _ _
  · have := Deep.blk_alloc_new (w.alloc (.cells #[.string n, .string u, .slice ca cl cc, .slice oa ol oc, .int .i64 nx, .int .i64 fl, .bool rs] 25)) (.cells #[.bool ia, .int .i64 ir, .int .i64 ip] 27)
    rw [Deep.nblk_alloc] at this; exact this

/-- The least of fl and the first j indexes. -/
def least (fl : Int) (Z : List Int) : Nat → Int
  | 0 => fl
  | j + 1 => if Z.getD j 0 < least fl Z j then Z.getD j 0 else least fl Z j
theorem least_le (fl : Int) (Z : List Int) : ∀ j, least fl Z j ≤ fl
  | 0 => Int.le_refl _
  | j + 1 => by
    have := least_le fl Z j
    show (if Z.getD j 0 < least fl Z j then Z.getD j 0 else least fl Z j) ≤ fl
    split <;> omega
theorem least_succ (fl : Int) (Z : List Int) (j : Nat) : least fl Z (j + 1) = if Z.getD j 0 < least fl Z j then Z.getD j 0 else least fl Z j := rfl
theorem held_step (rs : Bool) (fl a z : Int) (h : a ≤ fl) : ((rs || decide (a < fl)) || decide (z < a)) = (rs || decide ((if z < a then z else a) < fl)) := by
  cases rs
  · by_cases h1 : z < a
    · have : z < fl := by omega
      simp [h1, this]
    · simp [h1]
  · simp

theorem sameChs_b (ad bd : Option Addr) (len ca cb : Nat) (P R : Nat → Int) (V : Nat → ByteArray) (w : World) (ha : Chs w ad len P R V) (hb : Chs w bd len P R V) (hn : ad.isNone = bd.isNone) (hlen : len ≤ 1048576) :
    Calls Tryf.prog 19 #[.slice ad len ca, .slice bd len cb] w fun e w' => e = .returned (.bool true) ∧ Below w.heap.size w w' :=
  (sameChs_any ad bd len ca cb P R V w ha hb hn hlen).mono fun e w' ⟨he, n, hw⟩ => ⟨he, by subst hw; exact below_draws _ _ _⟩
theorem sameInts_b (ad bd : Option Addr) (len ca cb : Nat) (zs : List Int) (w : World) (ha : Ints w ad len zs) (hb : Ints w bd len zs) (hn : ad.isNone = bd.isNone) (hlen : len ≤ 1048576) :
    Calls Tryf.prog 21 #[.slice ad len ca, .slice bd len cb] w fun e w' => e = .returned (.bool true) ∧ Below w.heap.size w w' :=
  (sameInts_any ad bd len ca cb zs w ha hb hn hlen).mono fun e w' ⟨he, n, hw⟩ => ⟨he, by subst hw; exact below_draws _ _ _⟩

theorem Ints.low {w w' : World} {B : Nat} {ad : Option Addr} {len : Nat} {zs : List Int} (h : Ints w ad len zs) (hb : Below B w w') (hl : ∀ a, 0 < len → ad = some a → a.block < B) : Ints w' ad len zs :=
  ⟨h.length, fun i hi => by
    obtain ⟨b, off, e, c⟩ := h.cells i hi
    have := hl _ (by omega) e
    exact ⟨b, off, e, cell_low hb c this⟩⟩

/-- What holds at the head of the loop of refusals. -/
structure Inv (w wr : World) (p j : Nat) (n u : ByteArray) (ca : Option Addr) (cl cc : Nat) (oa : Option Addr) (ol oc : Nat) (nx fl : Int) (rs ia : Bool) (ir ip : Int) (da : Option Addr) (dc : Nat) (ea : Option Addr) (ec : Nat) (qa : Option Addr) (len : Nat) (P R : Nat → Int) (V S : Nat → ByteArray) (zs zx : List Int) : Prop where
  bel : Below w.heap.size w wr
  bx : Bx2 wr w.heap.size n u ca cl cc oa ol oc nx fl rs ia ir ip
  scr : ∃ rv, Rv (rs || decide (least fl zx j < fl)) rv ∧ Scr wr p n u da cl dc ea ol ec nx (least fl zx j) rv
  chs : Chs wr da cl P R V
  ints : Ints wr ea ol zs
  strs : Strs wr qa len S

set_option maxHeartbeats 4000000 in
set_option maxRecDepth 100000 in
theorem lawR (F : Interp) (n u : ByteArray) (ca oa : Option Addr) (cl cc ol oc : Nat) (nx fl : Int) (rs : Bool) (xa : Option Addr) (il ic : Nat) (ia : Bool) (ir ip : Int) (pa : Option Addr) (len cap : Nat) (P R : Nat → Int) (V S : Nat → ByteArray) (zs zx : List Int) (w : World) (hF : F.answers w.tape)
    (hc : Chs w ca cl P R V) (hi : Ints w oa ol zs) (hx : Ints w xa il zx) (ho : Strs w pa len S) (hV : ∀ i, i < cl → (V i).size ≤ maxLen) (hS : ∀ i, i < len → (S i).size ≤ maxLen) (hcl : cl ≤ maxLen) (hol : ol ≤ maxLen) (hil : il ≤ maxLen) (hlen : len ≤ maxLen) (hn : n.size ≤ maxLen) (hu : u.size ≤ maxLen) :
    Calls Tryf.prog 4 #[.agg #[.string n, .string u, .slice ca cl cc, .slice oa ol oc, .int .i64 nx, .int .i64 fl, .bool rs], .slice xa il ic, .agg #[.bool ia, .int .i64 ir, .int .i64 ip], .slice pa len cap] w
      fun e w' => e = .returned (.bool true) ∧ Below w.heap.size w w' := by
  have b0 := bel2 w (.cells #[.string n, .string u, .slice ca cl cc, .slice oa ol oc, .int .i64 nx, .int .i64 fl, .bool rs] 25) (.cells #[.bool ia, .int .i64 ir, .int .i64 ip] 27)
  have x0 := bx2_start w n u ca cl cc oa ol oc nx fl rs ia ir ip
  have z0 : w.heap.size + 2 ≤ ((w.alloc (.cells #[.string n, .string u, .slice ca cl cc, .slice oa ol oc, .int .i64 nx, .int .i64 fl, .bool rs] 25)).alloc (.cells #[.bool ia, .int .i64 ir, .int .i64 ip] 27)).heap.size := by rw [Deep.nblk_alloc, Deep.nblk_alloc]; omega
  go_enter Tryf.func4, Tryf.ntmps4
  go_wp2_with fail
  refine (guardR_any n u ca oa cl cc ol oc nx fl rs xa il ic ia ir ip pa len cap P R V S _ (hc.below b0) (ho.below b0) hV hS hcl hol hil hlen hn hu).mono ?_
  rintro e w1 ⟨⟨b, rfl, hsm⟩, hb1⟩
  have b1 := b0.trans (hb1.mono b0.size)
  have x1 := x0.below hb1 (by omega)
  have z1 := Nat.le_trans z0 hb1.size
  clear x0 z0 b0 hb1
  obtain ⟨c0, c1, c2, c3, c4, c5, c6, c7, c8, c9⟩ := x1.cells
  cases b with
  | false =>
    go_wp2_with fail
    go_ret
    exact ⟨rfl, b1⟩
  | true =>
  obtain ⟨m1, m2, m5, m3, m4⟩ := hsm rfl
  clear hsm
  go_wp2_with fail
  refine (scrBytes_any n u ca oa cl cc ol oc nx fl rs P R V _ (hc.below b1) hV hcl hol hn hu).mono ?_
  rintro e w2 ⟨t, rfl, t0, t1, hb2⟩
  have b2 := b1.trans (hb2.mono b1.size)
  have x2 := x1.below hb2 (by omega)
  have z2 := Nat.le_trans z1 hb2.size
  clear c0 c1 c2 c3 c4 c5 c6 c7 c8 c9 x1 z1 b1 hb2
  obtain ⟨c0, c1, c2, c3, c4, c5, c6, c7, c8, c9⟩ := x2.cells
  go_wp2_with fail
  refine (strsBytes_any t pa len cap S _ (ho.below b2) hS t0 hlen).mono ?_
  rintro e w3 ⟨t2, rfl, t20, t21, hw⟩
  subst w3
  go_wp2_with fail
  refine (add_any _ _ _ _ (by omega) (by omega) (by omega) (by omega)).mono ?_
  rintro e w3 ⟨t3, rfl, t30, t31, -, hw⟩
  subst w3
  by_cases ht : t3 ≤ 1048576
  case neg =>
    go_wp2_with fail
    go_ret
    exact ⟨rfl, b2⟩
  go_wp2_with fail
  refine (domain_any n u ca oa cl cc ol oc nx fl rs _).mono ?_
  rintro e w3 ⟨⟨b, rfl, hdm⟩, hb3⟩
  have b3 := b2.trans (hb3.mono b2.size)
  have x3 := x2.below hb3 (by omega)
  have z3 := Nat.le_trans z2 hb3.size
  clear c0 c1 c2 c3 c4 c5 c6 c7 c8 c9 x2 z2 b2 hb3 t0 t1 t20 t21 t30 t31 ht
  obtain ⟨c0, c1, c2, c3, c4, c5, c6, c7, c8, c9⟩ := x3.cells
  cases b with
  | false =>
    go_wp2_with fail
    go_ret
    exact ⟨rfl, b3⟩
  | true =>
  obtain ⟨d0, d1⟩ := hdm rfl
  clear hdm hV hcl hol hil hlen hn hu hS
  go_wp2_with fail
  have hx3 := hx.below b3
  go_loop [10] (fun q => ∃ j : Nat, j ≤ il ∧ q = .int .i64 j ∧ Hid (∀ m, m < j → 0 ≤ zx.getD m 0)) (fun q => il - (intOf q).toNat)
  case atStart => exact ⟨0, Nat.zero_le _, rfl, fun m hm => absurd hm (Nat.not_lt_zero _)⟩
  case round =>
  obtain ⟨j, hj, rfl, hpos⟩ := hrel
  by_cases hlt : j < il
  · obtain ⟨b, off, rfl, y0⟩ := hx3.cells j hlt
    obtain ⟨z, hz⟩ : ∃ z, Hid (zx.getD j 0 = z) := ⟨_, rfl⟩
    rw [hz.out] at y0
    have i0 : (0 : Int) ≤ (j : Int) := by omega
    have i1 : (j : Int) < (il : Int) := by omega
    by_cases hneg : z < 0
    · go_wp2_with fail
      go_ret
      exact ⟨rfl, b3⟩
    · have hpos2 : Hid (∀ m, m < j + 1 → 0 ≤ zx.getD m 0) := fun m hm => by
        rcases Nat.lt_or_ge m j with h | h
        · exact hpos.out m h
        · have : m = j := by omega
          subst this; rw [hz.out]; omega
      go_wp2_with fail
      go_round
      case rel => exact ⟨j + 1, by omega, by go_num, hpos2⟩
      case measure => simp [intOf]; omega
  have hjl : j = il := by omega
  subst hjl
  go_wp2_with fail
  refine (values_any pa len cap S _ (ho.below b3) m3).mono ?_
  rintro e w4 ⟨qa, qc, rfl, ho4, hb4⟩
  have b4 := b3.trans (hb4.mono b3.size)
  have x4 := x3.below hb4 (by omega)
  have z4 := Nat.le_trans z3 hb4.size
  clear c0 c1 c2 c3 c4 c5 c6 c7 c8 c9 x3 z3 b3 hb4 hx3 hlt hj
  obtain ⟨c0, c1, c2, c3, c4, c5, c6, c7, c8, c9⟩ := x4.cells
  go_wp2_with fail
  refine (new_any n u ca cl cc oa ol oc nx fl rs P R V zs _ (hc.below b4) (hi.below b4) m1 m2).mono ?_
  rintro e w5 ⟨p, da, dc, ea, ec, rfl, h5⟩
  have hinv : Inv w w5 p 0 n u ca cl cc oa ol oc nx fl rs ia ir ip da dc ea ec qa len P R V S zs zx :=
    ⟨b4.trans (h5.bel.mono b4.size), x4.below h5.bel (by omega), by
      obtain ⟨rv0, k0, s0⟩ := h5.made
      refine ⟨rv0, ?_, s0⟩
      have : (rs || decide (least fl zx 0 < fl)) = rs := by show (rs || decide (fl < fl)) = rs; simp
      rw [this]; exact k0, h5.chs, h5.ints, ho4.below h5.bel⟩
  have zp : w.heap.size + 2 ≤ p := Nat.le_trans z4 h5.ge
  have hob : ∀ a, 0 < len → qa = some a → a.block < p := fun a h0 e => Nat.lt_of_lt_of_le (ho4.lt a h0 e) h5.ge
  have lo5 := h5.low
  have li5 := h5.lowi
  have cn := h5.cn
  have on := h5.on
  clear c0 c1 c2 c3 c4 c5 c6 c7 c8 c9 x4 z4 b4 h5 ho4
  go_wp2_with fail
  go_loopw [13] (fun q wr => ∃ k : Nat, k ≤ j ∧ q = .int .i64 k ∧ Inv w wr p k n u ca cl cc oa ol oc nx fl rs ia ir ip da dc ea ec qa len P R V S zs zx) (fun q _ => j - (intOf q).toNat)
  case atStart => exact ⟨0, Nat.zero_le _, rfl, hinv⟩
  case round =>
  clear hinv
  obtain ⟨k, hk, rfl, hinv⟩ := hrel
  have bel := hinv.bel
  obtain ⟨c0, c1, c2, c3, c4, c5, c6, c7, c8, c9⟩ := hinv.bx.cells
  by_cases hlt : k < j
  · obtain ⟨b, off, ex, y0⟩ := (hx.below bel).cells k hlt
    have nb : b < p := by
      have := hx.lt _ (by omega) ex
      simp only at this; omega
    subst ex
    have hz0 := hpos.out k hlt
    obtain ⟨z, hz⟩ : ∃ z, Hid (zx.getD k 0 = z) := ⟨_, rfl⟩
    rw [hz.out] at y0 hz0
    obtain ⟨a, ha⟩ : ∃ a, Hid (least fl zx k = a) := ⟨_, rfl⟩
    have hle := least_le fl zx k
    obtain ⟨rv0, k0, s0⟩ := hinv.scr
    rw [ha.out] at k0 s0 hle
    have i0 : (0 : Int) ≤ (k : Int) := by omega
    have i1 : (k : Int) < (j : Int) := by omega
    have hFd : F.answers wr.drew.tape := ans_below bel.drew hF
    have s0d : Scr wr.drew p n u da cl dc ea ol ec nx a rv0 := s0
    have chd : Chs wr.drew da cl P R V := hinv.chs.below (Below.drew (Below.refl _ _))
    have std : Strs wr.drew qa len S := hinv.strs.below (Below.drew (Below.refl _ _))
    have hac : a ≤ (cl : Int) := by omega
    have ng : w.heap.size + 1 < p := by omega
    go_wp2_with fail
    go_region_held3 (fun w' => w'.cell? ⟨b, off + k, none⟩ = some (.int .i64 z) ∧ w'.cell? ⟨w.heap.size + 1, 0, none⟩ = some (.bool ia) ∧ w'.cell? ⟨w.heap.size + 1, 1, none⟩ = some (.int .i64 ir) ∧ w'.cell? ⟨w.heap.size + 1, 2, none⟩ = some (.int .i64 ip)) (first | exact ⟨y0, c7, c8, c9⟩ | assumption | go_keep)
      (first | (go_at_call 11; refine (zzrefuse_any F p n u da cl dc ea ol ec nx a rv0 (rs || decide (a < fl)) z ia ir ip qa len qc P R V S _ hFd s0d k0 chd std lo5 hob hz0 hac m1 m3 m4).mono ?_; rintro e w6 ⟨rfl, hb6, ht6⟩; have hS6 := And.intro (cell_low hb6 y0 nb) (And.intro (cell_low hb6 c7 ng) (And.intro (cell_low hb6 c8 ng) (cell_low hb6 c9 ng)))))
    have hinv2 : Inv w w6 p (k + 1) n u ca cl cc oa ol oc nx fl rs ia ir ip da dc ea ec qa len P R V S zs zx := by
      refine ⟨bel.drew.trans (hb6.mono (by omega)), (show Bx2 wr.drew _ _ _ _ _ _ _ _ _ _ _ _ _ _ _ from hinv.bx).below hb6 ng, ?_, chd.low hb6 lo5, (hinv.ints.below (Below.drew (Below.refl _ _))).low hb6 li5, std.low hb6 hob⟩
      obtain ⟨rv1, k1, s1⟩ := ht6
      refine ⟨rv1, ?_, ?_⟩
      · rw [held_step _ _ _ _ hle] at k1
        rw [least_succ, hz.out, ha.out]; exact k1
      · rw [least_succ, hz.out, ha.out]; exact s1
    clear hinv ht6 hS6 hb6 k0 s0 s0d chd std hFd
    go_wp2_with fail
    go_roundw
    case rel => exact ⟨k + 1, by omega, by go_num, hinv2⟩
    case measure => simp [intOf]; omega
  have hkj : k = j := by omega
  subst hkj
  clear hpos hk hlt
  go_wp2_with fail
  have hxr := hx.below bel
  go_loop [14, 15] (fun tv q => ∃ (m : Nat) (L : Int), m ≤ k ∧ q = .int .i64 m ∧ tv = .int .i64 L ∧ Hid (L = least fl zx m)) (fun _ q => k - (intOf q).toNat)
  case atStart => exact ⟨0, fl, Nat.zero_le _, rfl, rfl, rfl⟩
  case round =>
  obtain ⟨m, L, hm, rfl, rfl, hL⟩ := hrel
  by_cases hlt : m < k
  · obtain ⟨b, off, rfl, y0⟩ := hxr.cells m hlt
    obtain ⟨z, hz⟩ : ∃ z, Hid (zx.getD m 0 = z) := ⟨_, rfl⟩
    rw [hz.out] at y0
    have i0 : (0 : Int) ≤ (m : Int) := by omega
    have i1 : (m : Int) < (k : Int) := by omega
    by_cases hzl : z < L
    · have hL2 : Hid (z = least fl zx (m + 1)) := by show z = _; rw [least_succ, hz.out, ← hL.out, if_pos hzl]
      go_wp2_with fail
      go_round
      case rel => exact ⟨m + 1, z, by omega, by go_num, rfl, hL2⟩
      case measure => simp [intOf]; omega
    · have hL2 : Hid (L = least fl zx (m + 1)) := by show L = _; rw [least_succ, hz.out, ← hL.out, if_neg hzl]
      go_wp2_with fail
      go_round
      case rel => exact ⟨m + 1, L, by omega, by go_num, rfl, hL2⟩
      case measure => simp [intOf]; omega
  have hmk : m = k := by omega
  subst hmk
  obtain ⟨rv0, k0, s0⟩ := hinv.scr
  have hst := hinv.strs
  have hch := hinv.chs
  have hin := hinv.ints
  rw [← hL.out] at k0 s0
  clear hL hinv hxr hlt hm m4 m5 hob lo5 li5 zp
  have hcr := hc.below bel
  have hir := hi.below bel
  have hor := ho.below bel
  clear hc hi hx ho
  cases rs
  · by_cases hLf : L < fl
    · skip
      have v0 : (false || decide (L < fl)) = true := by simp; omega
      rw [v0] at k0
      clear v0
      have s0d : Scr wr.drew p n u da cl dc ea ol ec nx L rv0 := s0
      go_wp2_with fail
      refine (failed_any _ _ _ _ _ _ _ _ _ _ _ _ _ s0).mono ?_
      rintro e w7 ⟨rfl, hw⟩
      subst w7
      go_wp2_with fail
      refine (refset_any _ _ _ _ _ _ _ _ _ _ _ _ _ _ s0 k0).mono ?_
      rintro e w7 ⟨rfl, hw⟩
      subst w7
      go_wp2_with fail
      go_region_held3 (fun w' => w'.cell? ⟨w.heap.size, 0, none⟩ = some (.string n) ∧ w'.cell? ⟨w.heap.size, 1, none⟩ = some (.string u) ∧ w'.cell? ⟨w.heap.size, 4, none⟩ = some (.int .i64 nx)) (first | exact ⟨c0, c1, c4⟩ | go_keep) (first | (go_at_call 16; refine (name_any _ _ _ _ _ _ _ _ _ _ _ _ _ s0d).mono ?_; rintro e w7 ⟨rfl, hw⟩; subst w7) | (go_at_call 17; refine (unmet_any _ _ _ _ _ _ _ _ _ _ _ _ _ s0d).mono ?_; rintro e w7 ⟨rfl, hw⟩; subst w7) | (go_at_call 18; refine (next_any _ _ _ _ _ _ _ _ _ _ _ _ _ s0d).mono ?_; rintro e w7 ⟨rfl, hw⟩; subst w7))
      go_wp2_with fail
      have hdd : Below wr.heap.size wr wr.drew.drew := (Below.refl _ _).drew.drew
      have s0dd : Scr wr.drew.drew p n u da cl dc ea ol ec nx L rv0 := s0
      have spd : p < wr.drew.drew.heap.size := s0dd.cell.2.2.2.2
      have hchd := hch.below hdd
      have hcrd := hcr.below hdd
      have hind := hin.below hdd
      have hird := hir.below hdd
      have c2d := cell_later hdd c2
      have c3d := cell_later hdd c3
      go_region_held3 (fun w' => w'.cell? ⟨w.heap.size, 2, none⟩ = some (.slice ca cl cc) ∧ w'.cell? ⟨w.heap.size, 3, none⟩ = some (.slice oa ol oc)) (first | exact ⟨c2, c3⟩ | assumption | go_keep) (first | (go_at_call 20; refine (getc_any _ _ _ _ _ _ _ _ _ _ _ _ _ s0dd).mono ?_; rintro e w8 ⟨rfl, hw⟩; subst w8) | (go_at_call 19; refine (sameChs_b da ca cl dc cc P R V _ hchd hcrd cn m1).mono ?_; rintro e w8 ⟨rfl, hb8⟩; have s08 := s0dd.below hb8 spd; have hin8 := hind.below hb8; have hir8 := hird.below hb8; have hS8 := And.intro (cell_later hb8 c2d) (cell_later hb8 c3d)) | (go_at_call 22; refine (geto_any _ _ _ _ _ _ _ _ _ _ _ _ _ s08).mono ?_; rintro e w9 ⟨rfl, hw⟩; subst w9) | (go_at_call 21; refine (sameInts_b ea oa ol ec oc zs _ hin8 hir8 on m2).mono ?_; rintro e w9 ⟨rfl, hb9⟩; have hb89 := hb8.trans (hb9.mono hb8.size); have hS9 := And.intro (cell_later hb89 c2d) (cell_later hb89 c3d)))
      have bel9 : Below w.heap.size w w9 := (bel.trans (hdd.mono bel.size)).trans (hb89.mono (bel.trans (hdd.mono bel.size)).size)
      have hst9 := (hst.below hdd).below hb89
      have hor9 := (hor.below hdd).below hb89
      clear hst hor hch hcr hin hir hchd hcrd hind hird c2d c3d c0 c1 c2 c3 c4 c5 c6 c7 c8 c9 hS8 hS9 s0 s0d s0dd s08 hin8 hir8 hb8 hb9 hb89 hdd k0
      go_wp2_with fail
      go_loopw [17] (fun q wx => ∃ i d : Nat, i ≤ len ∧ q = .int .i64 i ∧ wx = w9.drewN d) (fun q _ => len - (intOf q).toNat)
      case atStart => exact ⟨0, 0, Nat.zero_le _, rfl, rfl⟩
      case round =>
        obtain ⟨i, d, hil, rfl, rfl⟩ := hrel
        by_cases hlt : i < len
        · obtain ⟨b, off, rfl, y0⟩ := hst9.cells i hlt
          obtain ⟨b', off', rfl, y1⟩ := hor9.cells i hlt
          obtain ⟨s, hs⟩ : ∃ z, Hid (S i = z) := ⟨_, rfl⟩
          rw [hs.out] at y0 y1
          have i0 : (0 : Int) ≤ (i : Int) := by omega
          have i1 : (i : Int) < (len : Int) := by omega
          go_wp2
          go_quiet (fail)
          go_wp2
          go_roundw
          case rel => exact ⟨i + 1, _, by omega, by go_num, rfl⟩
          case measure => simp [intOf]; omega
        · go_wp2
          go_ret
          exact ⟨rfl, bel9.trans (below_draws _ _ _)⟩
    · skip
      have v0 : (false || decide (L < fl)) = false := by simp; omega
      rw [v0] at k0
      clear v0
      have s0d : Scr wr.drew p n u da cl dc ea ol ec nx L rv0 := s0
      go_wp2_with fail
      refine (failed_any _ _ _ _ _ _ _ _ _ _ _ _ _ s0).mono ?_
      rintro e w7 ⟨rfl, hw⟩
      subst w7
      go_wp2_with fail
      refine (refset_any _ _ _ _ _ _ _ _ _ _ _ _ _ _ s0 k0).mono ?_
      rintro e w7 ⟨rfl, hw⟩
      subst w7
      go_wp2_with fail
      go_region_held3 (fun w' => w'.cell? ⟨w.heap.size, 0, none⟩ = some (.string n) ∧ w'.cell? ⟨w.heap.size, 1, none⟩ = some (.string u) ∧ w'.cell? ⟨w.heap.size, 4, none⟩ = some (.int .i64 nx)) (first | exact ⟨c0, c1, c4⟩ | go_keep) (first | (go_at_call 16; refine (name_any _ _ _ _ _ _ _ _ _ _ _ _ _ s0d).mono ?_; rintro e w7 ⟨rfl, hw⟩; subst w7) | (go_at_call 17; refine (unmet_any _ _ _ _ _ _ _ _ _ _ _ _ _ s0d).mono ?_; rintro e w7 ⟨rfl, hw⟩; subst w7) | (go_at_call 18; refine (next_any _ _ _ _ _ _ _ _ _ _ _ _ _ s0d).mono ?_; rintro e w7 ⟨rfl, hw⟩; subst w7))
      go_wp2_with fail
      have hdd : Below wr.heap.size wr wr.drew.drew := (Below.refl _ _).drew.drew
      have s0dd : Scr wr.drew.drew p n u da cl dc ea ol ec nx L rv0 := s0
      have spd : p < wr.drew.drew.heap.size := s0dd.cell.2.2.2.2
      have hchd := hch.below hdd
      have hcrd := hcr.below hdd
      have hind := hin.below hdd
      have hird := hir.below hdd
      have c2d := cell_later hdd c2
      have c3d := cell_later hdd c3
      go_region_held3 (fun w' => w'.cell? ⟨w.heap.size, 2, none⟩ = some (.slice ca cl cc) ∧ w'.cell? ⟨w.heap.size, 3, none⟩ = some (.slice oa ol oc)) (first | exact ⟨c2, c3⟩ | assumption | go_keep) (first | (go_at_call 20; refine (getc_any _ _ _ _ _ _ _ _ _ _ _ _ _ s0dd).mono ?_; rintro e w8 ⟨rfl, hw⟩; subst w8) | (go_at_call 19; refine (sameChs_b da ca cl dc cc P R V _ hchd hcrd cn m1).mono ?_; rintro e w8 ⟨rfl, hb8⟩; have s08 := s0dd.below hb8 spd; have hin8 := hind.below hb8; have hir8 := hird.below hb8; have hS8 := And.intro (cell_later hb8 c2d) (cell_later hb8 c3d)) | (go_at_call 22; refine (geto_any _ _ _ _ _ _ _ _ _ _ _ _ _ s08).mono ?_; rintro e w9 ⟨rfl, hw⟩; subst w9) | (go_at_call 21; refine (sameInts_b ea oa ol ec oc zs _ hin8 hir8 on m2).mono ?_; rintro e w9 ⟨rfl, hb9⟩; have hb89 := hb8.trans (hb9.mono hb8.size); have hS9 := And.intro (cell_later hb89 c2d) (cell_later hb89 c3d)))
      have bel9 : Below w.heap.size w w9 := (bel.trans (hdd.mono bel.size)).trans (hb89.mono (bel.trans (hdd.mono bel.size)).size)
      have hst9 := (hst.below hdd).below hb89
      have hor9 := (hor.below hdd).below hb89
      clear hst hor hch hcr hin hir hchd hcrd hind hird c2d c3d c0 c1 c2 c3 c4 c5 c6 c7 c8 c9 hS8 hS9 s0 s0d s0dd s08 hin8 hir8 hb8 hb9 hb89 hdd k0
      go_wp2_with fail
      go_loopw [17] (fun q wx => ∃ i d : Nat, i ≤ len ∧ q = .int .i64 i ∧ wx = w9.drewN d) (fun q _ => len - (intOf q).toNat)
      case atStart => exact ⟨0, 0, Nat.zero_le _, rfl, rfl⟩
      case round =>
        obtain ⟨i, d, hil, rfl, rfl⟩ := hrel
        by_cases hlt : i < len
        · obtain ⟨b, off, rfl, y0⟩ := hst9.cells i hlt
          obtain ⟨b', off', rfl, y1⟩ := hor9.cells i hlt
          obtain ⟨s, hs⟩ : ∃ z, Hid (S i = z) := ⟨_, rfl⟩
          rw [hs.out] at y0 y1
          have i0 : (0 : Int) ≤ (i : Int) := by omega
          have i1 : (i : Int) < (len : Int) := by omega
          go_wp2
          go_quiet (fail)
          go_wp2
          go_roundw
          case rel => exact ⟨i + 1, _, by omega, by go_num, rfl⟩
          case measure => simp [intOf]; omega
        · go_wp2
          go_ret
          exact ⟨rfl, bel9.trans (below_draws _ _ _)⟩
  · skip
    have v0 : (true || decide (L < fl)) = true := by simp
    rw [v0] at k0
    clear v0
    have s0d : Scr wr.drew p n u da cl dc ea ol ec nx L rv0 := s0
    go_wp2_with fail
    refine (failed_any _ _ _ _ _ _ _ _ _ _ _ _ _ s0).mono ?_
    rintro e w7 ⟨rfl, hw⟩
    subst w7
    go_wp2_with fail
    refine (refset_any _ _ _ _ _ _ _ _ _ _ _ _ _ _ s0 k0).mono ?_
    rintro e w7 ⟨rfl, hw⟩
    subst w7
    go_wp2_with fail
    go_region_held3 (fun w' => w'.cell? ⟨w.heap.size, 0, none⟩ = some (.string n) ∧ w'.cell? ⟨w.heap.size, 1, none⟩ = some (.string u) ∧ w'.cell? ⟨w.heap.size, 4, none⟩ = some (.int .i64 nx)) (first | exact ⟨c0, c1, c4⟩ | go_keep) (first | (go_at_call 16; refine (name_any _ _ _ _ _ _ _ _ _ _ _ _ _ s0d).mono ?_; rintro e w7 ⟨rfl, hw⟩; subst w7) | (go_at_call 17; refine (unmet_any _ _ _ _ _ _ _ _ _ _ _ _ _ s0d).mono ?_; rintro e w7 ⟨rfl, hw⟩; subst w7) | (go_at_call 18; refine (next_any _ _ _ _ _ _ _ _ _ _ _ _ _ s0d).mono ?_; rintro e w7 ⟨rfl, hw⟩; subst w7))
    go_wp2_with fail
    have hdd : Below wr.heap.size wr wr.drew.drew := (Below.refl _ _).drew.drew
    have s0dd : Scr wr.drew.drew p n u da cl dc ea ol ec nx L rv0 := s0
    have spd : p < wr.drew.drew.heap.size := s0dd.cell.2.2.2.2
    have hchd := hch.below hdd
    have hcrd := hcr.below hdd
    have hind := hin.below hdd
    have hird := hir.below hdd
    have c2d := cell_later hdd c2
    have c3d := cell_later hdd c3
    go_region_held3 (fun w' => w'.cell? ⟨w.heap.size, 2, none⟩ = some (.slice ca cl cc) ∧ w'.cell? ⟨w.heap.size, 3, none⟩ = some (.slice oa ol oc)) (first | exact ⟨c2, c3⟩ | assumption | go_keep) (first | (go_at_call 20; refine (getc_any _ _ _ _ _ _ _ _ _ _ _ _ _ s0dd).mono ?_; rintro e w8 ⟨rfl, hw⟩; subst w8) | (go_at_call 19; refine (sameChs_b da ca cl dc cc P R V _ hchd hcrd cn m1).mono ?_; rintro e w8 ⟨rfl, hb8⟩; have s08 := s0dd.below hb8 spd; have hin8 := hind.below hb8; have hir8 := hird.below hb8; have hS8 := And.intro (cell_later hb8 c2d) (cell_later hb8 c3d)) | (go_at_call 22; refine (geto_any _ _ _ _ _ _ _ _ _ _ _ _ _ s08).mono ?_; rintro e w9 ⟨rfl, hw⟩; subst w9) | (go_at_call 21; refine (sameInts_b ea oa ol ec oc zs _ hin8 hir8 on m2).mono ?_; rintro e w9 ⟨rfl, hb9⟩; have hb89 := hb8.trans (hb9.mono hb8.size); have hS9 := And.intro (cell_later hb89 c2d) (cell_later hb89 c3d)))
    have bel9 : Below w.heap.size w w9 := (bel.trans (hdd.mono bel.size)).trans (hb89.mono (bel.trans (hdd.mono bel.size)).size)
    have hst9 := (hst.below hdd).below hb89
    have hor9 := (hor.below hdd).below hb89
    clear hst hor hch hcr hin hir hchd hcrd hind hird c2d c3d c0 c1 c2 c3 c4 c5 c6 c7 c8 c9 hS8 hS9 s0 s0d s0dd s08 hin8 hir8 hb8 hb9 hb89 hdd k0
    go_wp2_with fail
    go_loopw [17] (fun q wx => ∃ i d : Nat, i ≤ len ∧ q = .int .i64 i ∧ wx = w9.drewN d) (fun q _ => len - (intOf q).toNat)
    case atStart => exact ⟨0, 0, Nat.zero_le _, rfl, rfl⟩
    case round =>
      obtain ⟨i, d, hil, rfl, rfl⟩ := hrel
      by_cases hlt : i < len
      · obtain ⟨b, off, rfl, y0⟩ := hst9.cells i hlt
        obtain ⟨b', off', rfl, y1⟩ := hor9.cells i hlt
        obtain ⟨s, hs⟩ : ∃ z, Hid (S i = z) := ⟨_, rfl⟩
        rw [hs.out] at y0 y1
        have i0 : (0 : Int) ≤ (i : Int) := by omega
        have i1 : (i : Int) < (len : Int) := by omega
        go_wp2
        go_quiet (fail)
        go_wp2
        go_roundw
        case rel => exact ⟨i + 1, _, by omega, by go_num, rfl⟩
        case measure => simp [intOf]; omega
      · go_wp2
        go_ret
        exact ⟨rfl, bel9.trans (below_draws _ _ _)⟩

end Go.Proofs.Qxb6613846aFmt
