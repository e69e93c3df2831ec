import Derived.Test.Qxb6613846aFmtGuardK
import Derived.Test.Qxb6613846aFmtNew
namespace Go.Proofs.Qxb6613846aFmt
open Go.RowKit Go.Extern.Stop Go.Stop Go.Extern
set_option linter.unusedSimpArgs false
set_option linter.unusedVariables false

/-- The law's own three boxes. -/
def Bx (w : World) (g : Nat) (n u : ByteArray) (ca : Option Addr) (cl cc : Nat) (oa : Option Addr) (ol oc : Nat) (nx fl : Int) (rs ia : Bool) (ir ip : Int) (ja : Bool) (jr jp : Int) : Prop :=
  w.heap[g]? = some (.cells #[.string n, .string u, .slice ca cl cc, .slice oa ol oc, .int .i64 nx, .int .i64 fl, .bool rs] 25 (0, 0)) ∧ w.heap[g + 1]? = some (.cells #[.bool ia, .int .i64 ir, .int .i64 ip] 27 (0, 0)) ∧ w.heap[g + 2]? = some (.cells #[.bool ja, .int .i64 jr, .int .i64 jp] 27 (0, 0))

section
variable {w w' : World} {g B : Nat} {n u : ByteArray} {ca : Option Addr} {cl cc : Nat} {oa : Option Addr} {ol oc : Nat} {nx fl : Int} {rs ia : Bool} {ir ip : Int} {ja : Bool} {jr jp : Int}
theorem Bx.below (h : Bx w g n u ca cl cc oa ol oc nx fl rs ia ir ip ja jr jp) (hb : Below B w w') (hl : g + 2 < B) : Bx w' g n u ca cl cc oa ol oc nx fl rs ia ir ip ja jr jp :=
  ⟨(hb.block _ (by omega)).trans h.1, (hb.block _ (by omega)).trans h.2.1, (hb.block _ hl).trans h.2.2⟩
theorem Bx.cells (h : Bx w g n u ca cl cc oa ol oc nx fl rs ia ir ip ja jr jp) :
    w.cell? ⟨g, 0, none⟩ = some (.string n) ∧ w.cell? ⟨g, 1, none⟩ = some (.string u) ∧ w.cell? ⟨g, 2, none⟩ = some (.slice ca cl cc) ∧ w.cell? ⟨g, 3, none⟩ = some (.slice oa ol oc) ∧ w.cell? ⟨g, 4, none⟩ = some (.int .i64 nx) ∧ w.cell? ⟨g, 5, none⟩ = some (.int .i64 fl) ∧ w.cell? ⟨g, 6, none⟩ = some (.bool rs)
    ∧ w.cell? ⟨g + 1, 0, none⟩ = some (.bool ia) ∧ w.cell? ⟨g + 1, 1, none⟩ = some (.int .i64 ir) ∧ w.cell? ⟨g + 1, 2, none⟩ = some (.int .i64 ip)
    ∧ w.cell? ⟨g + 2, 0, none⟩ = some (.bool ja) ∧ w.cell? ⟨g + 2, 1, none⟩ = some (.int .i64 jr) ∧ w.cell? ⟨g + 2, 2, none⟩ = some (.int .i64 jp) := by
  obtain ⟨h1, h2, h3⟩ := h
  refine ⟨?_, ?_, ?_, ?_, ?_, ?_, ?_, ?_, ?_, ?_, ?_, ?_, ?_⟩ <;> simp [World.cell?, h1, h2, h3]
end

theorem bx_start (w : World) (n u : ByteArray) (ca : Option Addr) (cl cc : Nat) (oa : Option Addr) (ol oc : Nat) (nx fl : Int) (rs ia : Bool) (ir ip : Int) (ja : Bool) (jr jp : Int) :
    Bx (((w.alloc (.cells #[.string n, .string u, .slice ca cl cc, .slice oa ol oc, .int .i64 nx, .int .i64 fl, .bool rs] 25)).alloc (.cells #[.bool ia, .int .i64 ir, .int .i64 ip] 27)).alloc (.cells #[.bool ja, .int .i64 jr, .int .i64 jp] 27)) w.heap.size n u ca cl cc oa ol oc nx fl rs ia ir ip ja jr jp := by
  refine ⟨?_, ?_, ?_⟩
  · rw [Deep.blk_alloc_lt _ _ _ (by rw [Deep.nblk_alloc, Deep.nblk_alloc]; omega), Deep.blk_alloc_lt _ _ _ (by rw [Deep.nblk_alloc]; omega)]; exact Deep.blk_alloc_new _ _
  · rw [Deep.blk_alloc_lt _ _ _ (by rw [Deep.nblk_alloc, Deep.nblk_alloc]; omega)]
    have := Deep.blk_alloc_new (w.alloc (.cells #[.string n, .string u, .slice ca cl cc, .slice oa ol oc, .int .i64 nx, .int .i64 fl, .bool rs] 25)) (.cells #[.bool ia, .int .i64 ir, .int .i64 ip] 27)
    rw [Deep.nblk_alloc] at this; exact this
  · have := Deep.blk_alloc_new ((w.alloc (.cells #[.string n, .string u, .slice ca cl cc, .slice oa ol oc, .int .i64 nx, .int .i64 fl, .bool rs] 25)).alloc (.cells #[.bool ia, .int .i64 ir, .int .i64 ip] 27)) (.cells #[.bool ja, .int .i64 jr, .int .i64 jp] 27)
    rw [Deep.nblk_alloc, Deep.nblk_alloc] at this; exact this

theorem two_min (fl i j f1 f2 : Int) (h1 : f1 = if i < fl then i else fl) (h2 : f2 = if j < f1 then j else f1) : f2 ≤ j ∧ f2 ≤ i ∧ f2 ≤ fl ∧ (f2 = i ∨ f2 = j ∨ f2 = fl) := by
  split at h1 <;> split at h2 <;> omega
theorem two_bool (rs : Bool) (fl i j f1 f2 : Int) (r1 r2 : Bool) (h1 : f1 = if i < fl then i else fl) (h2 : f2 = if j < f1 then j else f1) (k1 : r1 = (rs || decide (i < fl))) (k2 : r2 = (r1 || decide (j < f1))) : r2 = (rs || decide (f2 < fl)) := by
  subst k1 k2
  cases rs
  · by_cases a : i < fl
    · rw [if_pos a] at h1
      by_cases b : j < f1
      · rw [if_pos b] at h2
        have : f2 < fl := by omega
        simp [a, this]
      · rw [if_neg b] at h2
        have : f2 < fl := by omega
        simp [a, this]
    · rw [if_neg a] at h1
      by_cases b : j < f1
      · rw [if_pos b] at h2
        have : f2 < fl := by omega
        simp [a, b, this]
      · rw [if_neg b] at h2
        have : ¬ f2 < fl := by omega
        simp [a, b, this]
  · simp

set_option maxHeartbeats 4000000 in
set_option maxRecDepth 100000 in
theorem lawK (F : Interp) (n u : ByteArray) (ca oa : Option Addr) (cl cc ol oc : Nat) (nx fl : Int) (rs : Bool) (i : Int) (ia : Bool) (ir ip : Int) (j : Int) (ja : Bool) (jr jp : Int) (pa : Option Addr) (len cap : Nat) (P R : Nat → Int) (V S : Nat → ByteArray) (zs : List Int) (w : World) (hF : F.answers w.tape)
    (hc : Chs w ca cl P R V) (hi : Ints w oa ol zs) (ho : Strs w pa len S) (hV : ∀ i, i < cl → (V i).size ≤ maxLen) (hS : ∀ i, i < len → (S i).size ≤ maxLen) (hcl : cl ≤ maxLen) (hol : ol ≤ maxLen) (hlen : len ≤ maxLen) (hn : n.size ≤ maxLen) (hu : u.size ≤ maxLen) :
    Calls Tryf.prog 3 #[.agg #[.string n, .string u, .slice ca cl cc, .slice oa ol oc, .int .i64 nx, .int .i64 fl, .bool rs], .int .i64 i, .agg #[.bool ia, .int .i64 ir, .int .i64 ip], .int .i64 j, .agg #[.bool ja, .int .i64 jr, .int .i64 jp], .slice pa len cap] w
      fun e w' => e = .returned (.bool true) ∧ Below w.heap.size w w' := by
  have b0 := bel3 w (.cells #[.string n, .string u, .slice ca cl cc, .slice oa ol oc, .int .i64 nx, .int .i64 fl, .bool rs] 25) (.cells #[.bool ia, .int .i64 ir, .int .i64 ip] 27) (.cells #[.bool ja, .int .i64 jr, .int .i64 jp] 27)
  have x0 := bx_start w n u ca cl cc oa ol oc nx fl rs ia ir ip ja jr jp
  have z0 : w.heap.size + 3 ≤ (((w.alloc (.cells #[.string n, .string u, .slice ca cl cc, .slice oa ol oc, .int .i64 nx, .int .i64 fl, .bool rs] 25)).alloc (.cells #[.bool ia, .int .i64 ir, .int .i64 ip] 27)).alloc (.cells #[.bool ja, .int .i64 jr, .int .i64 jp] 27)).heap.size := by rw [Deep.nblk_alloc, Deep.nblk_alloc, Deep.nblk_alloc]; omega
  go_enter Tryf.func3, Tryf.ntmps3
  go_wp2_with fail
  refine (guardK_any n u ca oa cl cc ol oc nx fl rs i ia ir ip j ja jr jp pa len cap P R V S _ (hc.below b0) (ho.below b0) hV hS hcl hol hlen hn hu).mono ?_
  rintro e w1 ⟨⟨b, rfl, hsm⟩, hb1⟩
  have b1 := b0.trans (hb1.mono b0.size)
  have x1 := x0.below hb1 (by omega)
  have z1 := Nat.le_trans z0 hb1.size
  clear x0 z0 b0 hb1
  obtain ⟨c0, c1, c2, c3, c4, c5, c6, c7, c8, c9, c10, c11, c12⟩ := x1.cells
  cases b with
  | false =>
    go_wp2_with fail
    go_ret
    exact ⟨rfl, b1⟩
  | true =>
  obtain ⟨m1, m2, m3, m4⟩ := hsm rfl
  clear hsm
  go_wp2_with fail
  refine (scrBytes_any n u ca oa cl cc ol oc nx fl rs P R V _ (hc.below b1) hV hcl hol hn hu).mono ?_
  rintro e w2 ⟨t, rfl, t0, t1, hb2⟩
  have b2 := b1.trans (hb2.mono b1.size)
  have x2 := x1.below hb2 (by omega)
  have z2 := Nat.le_trans z1 hb2.size
  clear c0 c1 c2 c3 c4 c5 c6 c7 c8 c9 c10 c11 c12 x1 z1 b1 hb2
  obtain ⟨c0, c1, c2, c3, c4, c5, c6, c7, c8, c9, c10, c11, c12⟩ := x2.cells
  go_wp2_with fail
  refine (strsBytes_any t pa len cap S _ (ho.below b2) hS t0 hlen).mono ?_
  rintro e w3 ⟨t2, rfl, t20, t21, hw⟩
  subst w3
  by_cases ht : t2 ≤ 1048576
  case neg =>
    go_wp2_with fail
    go_ret
    exact ⟨rfl, b2⟩
  go_wp2_with fail
  refine (domain_any n u ca oa cl cc ol oc nx fl rs _).mono ?_
  rintro e w3 ⟨⟨b, rfl, hdm⟩, hb3⟩
  have b3 := b2.trans (hb3.mono b2.size)
  have x3 := x2.below hb3 (by omega)
  have z3 := Nat.le_trans z2 hb3.size
  clear c0 c1 c2 c3 c4 c5 c6 c7 c8 c9 c10 c11 c12 x2 z2 b2 hb3
  obtain ⟨c0, c1, c2, c3, c4, c5, c6, c7, c8, c9, c10, c11, c12⟩ := x3.cells
  cases b with
  | false =>
    go_wp2_with fail
    go_ret
    exact ⟨rfl, b3⟩
  | true =>
  obtain ⟨d0, d1⟩ := hdm rfl
  clear hdm
  by_cases hi0 : i < 0
  case pos =>
    go_wp2_with fail
    go_ret
    exact ⟨rfl, b3⟩
  by_cases hj0 : j < 0
  case pos =>
    go_wp2_with fail
    go_ret
    exact ⟨rfl, b3⟩
  go_wp2_with fail
  refine (values_any pa len cap S _ (ho.below b3) m3).mono ?_
  rintro e w4 ⟨qa, qc, rfl, ho4, hb4⟩
  have b4 := b3.trans (hb4.mono b3.size)
  have x4 := x3.below hb4 (by omega)
  have z4 := Nat.le_trans z3 hb4.size
  clear c0 c1 c2 c3 c4 c5 c6 c7 c8 c9 c10 c11 c12 x3 z3 b3 hb4
  obtain ⟨c0, c1, c2, c3, c4, c5, c6, c7, c8, c9, c10, c11, c12⟩ := x4.cells
  go_wp2_with fail
  refine (new_any n u ca cl cc oa ol oc nx fl rs P R V zs _ (hc.below b4) (hi.below b4) m1 m2).mono ?_
  rintro e w5 ⟨p, da, dc, ea, ec, rfl, h5⟩
  obtain ⟨rv0, k0, s0⟩ := h5.made
  have b5 := b4.trans (h5.bel.mono b4.size)
  have x5 := x4.below h5.bel (by omega)
  have z5 : w.heap.size + 3 ≤ p := Nat.le_trans z4 h5.ge
  have hob : ∀ a, 0 < len → qa = some a → a.block < p := fun a h0 e => Nat.lt_of_lt_of_le (ho4.lt a h0 e) h5.ge
  have ho5 := ho4.below h5.bel
  have hF5 := ans_below b5 hF
  have ch5 := h5.chs
  have lo5 := h5.low
  have p5 := h5.lt
  clear c0 c1 c2 c3 c4 c5 c6 c7 c8 c9 c10 c11 c12 x4 z4 b4 h5 ho4
  obtain ⟨c0, c1, c2, c3, c4, c5, c6, c7, c8, c9, c10, c11, c12⟩ := x5.cells
  go_wp2_with fail
  refine (zzrefuse_any F p n u da cl dc ea ol ec nx fl rv0 rs i ia ir ip qa len qc P R V S _ hF5 s0 k0 ch5 ho5 lo5 hob (by omega) d1 m1 m3 m4).mono ?_
  rintro e w6 ⟨rfl, hb6, rv1, k1, s1⟩
  obtain ⟨f1, e1⟩ : ∃ f, Hid (f = if i < fl then i else fl) := ⟨_, rfl⟩
  obtain ⟨r1, g1⟩ : ∃ r, Hid (r = (rs || decide (i < fl))) := ⟨_, rfl⟩
  rw [← e1.out] at s1
  rw [← g1.out] at k1
  have f1c : f1 ≤ (cl : Int) := by have := e1.out; split at this <;> omega
  have b6 := b5.trans (hb6.mono (by omega))
  have x6 := x5.below hb6 (by omega)
  have ho6 := ho5.low hb6 hob
  have ch6 := ch5.low hb6 lo5
  have hF6 := ans_below b6 hF
  have p6 := Nat.lt_of_lt_of_le p5 hb6.size
  clear c0 c1 c2 c3 c4 c5 c6 c7 c8 c9 c10 c11 c12 x5 b5 ho5 ch5 hF5 s0 k0 hb6 p5
  obtain ⟨c0, c1, c2, c3, c4, c5, c6, c7, c8, c9, c10, c11, c12⟩ := x6.cells
  go_wp2_with fail
  refine (zzrefuse_any F p n u da cl dc ea ol ec nx f1 rv1 r1 j ja jr jp qa len qc P R V S _ hF6 s1 k1 ch6 ho6 lo5 hob (by omega) f1c m1 m3 m4).mono ?_
  rintro e w7 ⟨rfl, hb7, rv2, k2, s2⟩
  obtain ⟨f2, e2⟩ : ∃ f, Hid (f = if j < f1 then j else f1) := ⟨_, rfl⟩
  obtain ⟨r2, g2⟩ : ∃ r, Hid (r = (r1 || decide (j < f1))) := ⟨_, rfl⟩
  rw [← e2.out] at s2
  rw [← g2.out] at k2
  have M2 : Hid (f2 ≤ j ∧ f2 ≤ i ∧ f2 ≤ fl ∧ (f2 = i ∨ f2 = j ∨ f2 = fl)) := two_min _ _ _ _ _ e1.out e2.out
  have B2 : Hid (r2 = (rs || decide (f2 < fl))) := two_bool _ _ _ _ _ _ _ _ e1.out e2.out g1.out g2.out
  have b7 := b6.trans (hb7.mono (by omega))
  have x7 := x6.below hb7 (by omega)
  have ho7 := ho6.low hb7 hob
  have z7 : w.heap.size + 3 ≤ w7.heap.size := by have := hb7.size; omega
  have p7 := Nat.lt_of_lt_of_le p6 hb7.size
  clear c0 c1 c2 c3 c4 c5 c6 c7 c8 c9 c10 c11 c12 x6 b6 ho6 ch6 hF6 s1 k1 hb7 e1 e2 g1 g2 f1c lo5 p6
  obtain ⟨c0, c1, c2, c3, c4, c5, c6, c7, c8, c9, c10, c11, c12⟩ := x7.cells
  go_wp2_with fail
  refine (new_any n u ca cl cc oa ol oc nx fl rs P R V zs _ (hc.below b7) (hi.below b7) m1 m2).mono ?_
  rintro e w8 ⟨p', da', dc', ea', ec', rfl, h8⟩
  obtain ⟨rv3, k3, s3⟩ := h8.made
  have b8 := b7.trans (h8.bel.mono b7.size)
  have x8 := x7.below h8.bel (by omega)
  have pp : p < p' := Nat.lt_of_lt_of_le p7 h8.ge
  have hob' : ∀ a, 0 < len → qa = some a → a.block < p' := fun a h0 e => Nat.lt_trans (hob a h0 e) pp
  have ho8 := ho7.below h8.bel
  have s8 := s2.below h8.bel p7
  have hF8 := ans_below b8 hF
  have ch8 := h8.chs
  have lo8 := h8.low
  clear c0 c1 c2 c3 c4 c5 c6 c7 c8 c9 c10 c11 c12 x7 b7 h8 ho7 s2 hob z7 p7
  obtain ⟨c0, c1, c2, c3, c4, c5, c6, c7, c8, c9, c10, c11, c12⟩ := x8.cells
  go_wp2_with fail
  refine (zzrefuse_any F p' n u da' cl dc' ea' ol ec' nx fl rv3 rs j ja jr jp qa len qc P R V S _ hF8 s3 k3 ch8 ho8 lo8 hob' (by omega) d1 m1 m3 m4).mono ?_
  rintro e w9 ⟨rfl, hb9, rv4, k4, s4⟩
  obtain ⟨f3, e3⟩ : ∃ f, Hid (f = if j < fl then j else fl) := ⟨_, rfl⟩
  obtain ⟨r3, g3⟩ : ∃ r, Hid (r = (rs || decide (j < fl))) := ⟨_, rfl⟩
  rw [← e3.out] at s4
  rw [← g3.out] at k4
  have f3c : f3 ≤ (cl : Int) := by have := e3.out; split at this <;> omega
  have b9 := b8.trans (hb9.mono (by omega))
  have x9 := x8.below hb9 (by omega)
  have ho9 := ho8.low hb9 hob'
  have ch9 := ch8.low hb9 lo8
  have s9 := s8.below hb9 pp
  have hF9 := ans_below b9 hF
  clear c0 c1 c2 c3 c4 c5 c6 c7 c8 c9 c10 c11 c12 x8 b8 ho8 ch8 hF8 s3 k3 s8 hb9
  obtain ⟨c0, c1, c2, c3, c4, c5, c6, c7, c8, c9, c10, c11, c12⟩ := x9.cells
  go_wp2_with fail
  refine (zzrefuse_any F p' n u da' cl dc' ea' ol ec' nx f3 rv4 r3 i ia ir ip qa len qc P R V S _ hF9 s4 k4 ch9 ho9 lo8 hob' (by omega) f3c m1 m3 m4).mono ?_
  rintro e w10 ⟨rfl, hb10, rv5, k5, s5⟩
  obtain ⟨f4, e4⟩ : ∃ f, Hid (f = if i < f3 then i else f3) := ⟨_, rfl⟩
  obtain ⟨r4, g4⟩ : ∃ r, Hid (r = (r3 || decide (i < f3))) := ⟨_, rfl⟩
  rw [← e4.out] at s5
  rw [← g4.out] at k5
  have M4 : Hid (f4 ≤ i ∧ f4 ≤ j ∧ f4 ≤ fl ∧ (f4 = j ∨ f4 = i ∨ f4 = fl)) := two_min _ _ _ _ _ e3.out e4.out
  have B4 : Hid (r4 = (rs || decide (f4 < fl))) := two_bool _ _ _ _ _ _ _ _ e3.out e4.out g3.out g4.out
  have b10 := b9.trans (hb10.mono (by omega))
  have x10 := x9.below hb10 (by omega)
  have s10 := s9.below hb10 pp
  clear c0 c1 c2 c3 c4 c5 c6 c7 c8 c9 c10 c11 c12 x9 b9 ho9 ch9 hF9 s4 k4 s9 hb10 e3 e4 g3 g4 f3c lo8 hob' hc hi ho hV hS m4
  obtain ⟨c0, c1, c2, c3, c4, c5, c6, c7, c8, c9, c10, c11, c12⟩ := x10.cells
  clear x10
  have a1 := M2.out
  have a2 := M4.out
  have a3 := B2.out
  have a4 := B4.out
  clear M2 M4 B2 B4
  cases rs
  · by_cases h1 : i < fl
    · by_cases h2 : j < i
      · skip
        have y2 : f2 = j := by omega
        have y4 : f4 = j := by omega
        subst y2; subst y4
        have v2 : r2 = true := by rw [a3]; simp; try omega
        have v4 : r4 = true := by rw [a4]; simp; try omega
        rw [v2] at k2; rw [v4] at k5
        clear a1 a2 a3 a4 v2 v4
        go_wp2_with fail
        refine (failed_any _ _ _ _ _ _ _ _ _ _ _ _ _ s10).mono ?_
        rintro e w11 ⟨rfl, hw⟩
        subst w11
        go_wp2_with fail
        refine (failed_any _ _ _ _ _ _ _ _ _ _ _ _ _ s5).mono ?_
        rintro e w11 ⟨rfl, hw⟩
        subst w11
        go_wp2_with fail
        refine (refset_any _ _ _ _ _ _ _ _ _ _ _ _ _ _ s10 k2).mono ?_
        rintro e w11 ⟨rfl, hw⟩
        subst w11
        go_wp2_with fail
        refine (refset_any _ _ _ _ _ _ _ _ _ _ _ _ _ _ s5 k5).mono ?_
        rintro e w11 ⟨rfl, hw⟩
        subst w11
        go_wp2_with fail
        go_ret
        exact ⟨rfl, b10⟩
      · skip
        have y2 : f2 = i := by omega
        have y4 : f4 = i := by omega
        subst y2; subst y4
        have v2 : r2 = true := by rw [a3]; simp; try omega
        have v4 : r4 = true := by rw [a4]; simp; try omega
        rw [v2] at k2; rw [v4] at k5
        clear a1 a2 a3 a4 v2 v4
        go_wp2_with fail
        refine (failed_any _ _ _ _ _ _ _ _ _ _ _ _ _ s10).mono ?_
        rintro e w11 ⟨rfl, hw⟩
        subst w11
        go_wp2_with fail
        refine (failed_any _ _ _ _ _ _ _ _ _ _ _ _ _ s5).mono ?_
        rintro e w11 ⟨rfl, hw⟩
        subst w11
        go_wp2_with fail
        refine (refset_any _ _ _ _ _ _ _ _ _ _ _ _ _ _ s10 k2).mono ?_
        rintro e w11 ⟨rfl, hw⟩
        subst w11
        go_wp2_with fail
        refine (refset_any _ _ _ _ _ _ _ _ _ _ _ _ _ _ s5 k5).mono ?_
        rintro e w11 ⟨rfl, hw⟩
        subst w11
        go_wp2_with fail
        go_ret
        exact ⟨rfl, b10⟩
    · by_cases h2 : j < fl
      · skip
        have y2 : f2 = j := by omega
        have y4 : f4 = j := by omega
        subst y2; subst y4
        have v2 : r2 = true := by rw [a3]; simp; try omega
        have v4 : r4 = true := by rw [a4]; simp; try omega
        rw [v2] at k2; rw [v4] at k5
        clear a1 a2 a3 a4 v2 v4
        go_wp2_with fail
        refine (failed_any _ _ _ _ _ _ _ _ _ _ _ _ _ s10).mono ?_
        rintro e w11 ⟨rfl, hw⟩
        subst w11
        go_wp2_with fail
        refine (failed_any _ _ _ _ _ _ _ _ _ _ _ _ _ s5).mono ?_
        rintro e w11 ⟨rfl, hw⟩
        subst w11
        go_wp2_with fail
        refine (refset_any _ _ _ _ _ _ _ _ _ _ _ _ _ _ s10 k2).mono ?_
        rintro e w11 ⟨rfl, hw⟩
        subst w11
        go_wp2_with fail
        refine (refset_any _ _ _ _ _ _ _ _ _ _ _ _ _ _ s5 k5).mono ?_
        rintro e w11 ⟨rfl, hw⟩
        subst w11
        go_wp2_with fail
        go_ret
        exact ⟨rfl, b10⟩
      · skip
        have y2 : f2 = fl := by omega
        have y4 : f4 = fl := by omega
        rw [y2] at s10 a3; rw [y4] at s5 a4
        have v2 : r2 = false := by rw [a3]; simp; try omega
        have v4 : r4 = false := by rw [a4]; simp; try omega
        rw [v2] at k2; rw [v4] at k5
        clear a1 a2 a3 a4 v2 v4
        go_wp2_with fail
        refine (failed_any _ _ _ _ _ _ _ _ _ _ _ _ _ s10).mono ?_
        rintro e w11 ⟨rfl, hw⟩
        subst w11
        go_wp2_with fail
        refine (failed_any _ _ _ _ _ _ _ _ _ _ _ _ _ s5).mono ?_
        rintro e w11 ⟨rfl, hw⟩
        subst w11
        go_wp2_with fail
        refine (refset_any _ _ _ _ _ _ _ _ _ _ _ _ _ _ s10 k2).mono ?_
        rintro e w11 ⟨rfl, hw⟩
        subst w11
        go_wp2_with fail
        refine (refset_any _ _ _ _ _ _ _ _ _ _ _ _ _ _ s5 k5).mono ?_
        rintro e w11 ⟨rfl, hw⟩
        subst w11
        go_wp2_with fail
        go_ret
        exact ⟨rfl, b10⟩
  · by_cases h1 : i < fl
    · by_cases h2 : j < i
      · skip
        have y2 : f2 = j := by omega
        have y4 : f4 = j := by omega
        subst y2; subst y4
        have v2 : r2 = true := by rw [a3]; simp; try omega
        have v4 : r4 = true := by rw [a4]; simp; try omega
        rw [v2] at k2; rw [v4] at k5
        clear a1 a2 a3 a4 v2 v4
        go_wp2_with fail
        refine (failed_any _ _ _ _ _ _ _ _ _ _ _ _ _ s10).mono ?_
        rintro e w11 ⟨rfl, hw⟩
        subst w11
        go_wp2_with fail
        refine (failed_any _ _ _ _ _ _ _ _ _ _ _ _ _ s5).mono ?_
        rintro e w11 ⟨rfl, hw⟩
        subst w11
        go_wp2_with fail
        refine (refset_any _ _ _ _ _ _ _ _ _ _ _ _ _ _ s10 k2).mono ?_
        rintro e w11 ⟨rfl, hw⟩
        subst w11
        go_wp2_with fail
        refine (refset_any _ _ _ _ _ _ _ _ _ _ _ _ _ _ s5 k5).mono ?_
        rintro e w11 ⟨rfl, hw⟩
        subst w11
        go_wp2_with fail
        go_ret
        exact ⟨rfl, b10⟩
      · skip
        have y2 : f2 = i := by omega
        have y4 : f4 = i := by omega
        subst y2; subst y4
        have v2 : r2 = true := by rw [a3]; simp; try omega
        have v4 : r4 = true := by rw [a4]; simp; try omega
        rw [v2] at k2; rw [v4] at k5
        clear a1 a2 a3 a4 v2 v4
        go_wp2_with fail
        refine (failed_any _ _ _ _ _ _ _ _ _ _ _ _ _ s10).mono ?_
        rintro e w11 ⟨rfl, hw⟩
        subst w11
        go_wp2_with fail
        refine (failed_any _ _ _ _ _ _ _ _ _ _ _ _ _ s5).mono ?_
        rintro e w11 ⟨rfl, hw⟩
        subst w11
        go_wp2_with fail
        refine (refset_any _ _ _ _ _ _ _ _ _ _ _ _ _ _ s10 k2).mono ?_
        rintro e w11 ⟨rfl, hw⟩
        subst w11
        go_wp2_with fail
        refine (refset_any _ _ _ _ _ _ _ _ _ _ _ _ _ _ s5 k5).mono ?_
        rintro e w11 ⟨rfl, hw⟩
        subst w11
        go_wp2_with fail
        go_ret
        exact ⟨rfl, b10⟩
    · by_cases h2 : j < fl
      · skip
        have y2 : f2 = j := by omega
        have y4 : f4 = j := by omega
        subst y2; subst y4
        have v2 : r2 = true := by rw [a3]; simp; try omega
        have v4 : r4 = true := by rw [a4]; simp; try omega
        rw [v2] at k2; rw [v4] at k5
        clear a1 a2 a3 a4 v2 v4
        go_wp2_with fail
        refine (failed_any _ _ _ _ _ _ _ _ _ _ _ _ _ s10).mono ?_
        rintro e w11 ⟨rfl, hw⟩
        subst w11
        go_wp2_with fail
        refine (failed_any _ _ _ _ _ _ _ _ _ _ _ _ _ s5).mono ?_
        rintro e w11 ⟨rfl, hw⟩
        subst w11
        go_wp2_with fail
        refine (refset_any _ _ _ _ _ _ _ _ _ _ _ _ _ _ s10 k2).mono ?_
        rintro e w11 ⟨rfl, hw⟩
        subst w11
        go_wp2_with fail
        refine (refset_any _ _ _ _ _ _ _ _ _ _ _ _ _ _ s5 k5).mono ?_
        rintro e w11 ⟨rfl, hw⟩
        subst w11
        go_wp2_with fail
        go_ret
        exact ⟨rfl, b10⟩
      · skip
        have y2 : f2 = fl := by omega
        have y4 : f4 = fl := by omega
        rw [y2] at s10 a3; rw [y4] at s5 a4
        have v2 : r2 = true := by rw [a3]; simp; try omega
        have v4 : r4 = true := by rw [a4]; simp; try omega
        rw [v2] at k2; rw [v4] at k5
        clear a1 a2 a3 a4 v2 v4
        go_wp2_with fail
        refine (failed_any _ _ _ _ _ _ _ _ _ _ _ _ _ s10).mono ?_
        rintro e w11 ⟨rfl, hw⟩
        subst w11
        go_wp2_with fail
        refine (failed_any _ _ _ _ _ _ _ _ _ _ _ _ _ s5).mono ?_
        rintro e w11 ⟨rfl, hw⟩
        subst w11
        go_wp2_with fail
        refine (refset_any _ _ _ _ _ _ _ _ _ _ _ _ _ _ s10 k2).mono ?_
        rintro e w11 ⟨rfl, hw⟩
        subst w11
        go_wp2_with fail
        refine (refset_any _ _ _ _ _ _ _ _ _ _ _ _ _ _ s5 k5).mono ?_
        rintro e w11 ⟨rfl, hw⟩
        subst w11
        go_wp2_with fail
        go_ret
        exact ⟨rfl, b10⟩

end Go.Proofs.Qxb6613846aFmt
