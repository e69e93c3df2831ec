import Derived.Test.Qxb6612590aDoorSink
namespace Go.Proofs.Qxb6612590aDoor
open Go.RowKit
set_option linter.unusedSimpArgs false
set_option linter.unusedVariables false
attribute [local go_sem ↓] Go.wp_at_zero Go.wp_at_succ

theorem Row.below {B : Nat} {w w' : World} {g cap : Nat} {xs : List UInt8} (h : Row B w g cap xs) (hb : Below w.heap.size w w') : Row B w' g cap xs := by
  obtain ⟨hl, h0 | ⟨b, c, cur, hv, hB, hbb, r⟩⟩ := h.own
  · exact ⟨hl, Or.inl h0⟩
  · exact ⟨hl, Or.inr ⟨b, c, cur, hv, hB, (hb.block b (heap_lt hbb)).trans hbb, r⟩⟩

set_option maxRecDepth 100000 in
theorem guard_no (ad : Option Addr) (len cap : Nat) (i : Int) (w : World) (h : 1048576 < len) :
    Calls Tryd.prog 14 #[.slice ad len cap, .int .i64 i] w fun e w' => e = .returned (.bool false) ∧ w' = w := by
  have q1 : decide ((1048576 : Int) < (len : Int)) = true := by simp; omega
  go_enter Tryd.func14, Tryd.ntmps14
  go_wp2_with fail
  go_ret
  exact ⟨rfl, rfl⟩

set_option maxRecDepth 100000 in
theorem guard_yes (ad : Option Addr) (len cap : Nat) (i : Int) (w : World) (h : len ≤ 1048576) :
    Calls Tryd.prog 14 #[.slice ad len cap, .int .i64 i] w fun e w' => e = .returned (.bool true) ∧ w' = w := by
  have q1 : decide ((1048576 : Int) < (len : Int)) = false := by simp; omega
  go_enter Tryd.func14, Tryd.ntmps14
  go_wp2_with fail
  go_ret
  exact ⟨rfl, rfl⟩

set_option maxHeartbeats 4000000 in
set_option maxRecDepth 100000 in
theorem law_main (ad : Option Addr) (len cap : Nat) (fs : List UInt8) (i : Int) (hi0 : -9223372036854775808 ≤ i) (hi1 : i ≤ 9223372036854775807) (w : World) (hf : In w ad len cap fs) (hB : 0 < len → ∀ a, ad = some a → a.block < w.heap.size) (hcap : len ≤ cap) (hcm : cap ≤ 9223372036854775807) (hlen : len ≤ 131072) (htab : Lib.TabIs Tryd.prog w "internal/strconv.uint64pow10" .u64 Lib.pow10Tab) :
    Calls Tryd.prog 4 #[.slice ad len cap, .int .i64 i] w fun e w' => e = .returned (.bool true) ∧ Below w.heap.size w w' := by
  obtain ⟨i0, hin0, hz0, hz1, hzb⟩ := info5_parts
  have hl := hf.lenEq
  have p1 := itoa_pos i
  have p2 := itoa_le i hi0 hi1
  have pl1 := itoa_pos (len : Int)
  have pl2 := itoa_le (len : Int) (by omega) (by omega)
  have q1 : decide ((131072 : Int) < (len : Int)) = false := by simp; omega
  obtain ⟨k, hk⟩ : ∃ k, Hid ((Lib.itoa i).length = k) := ⟨_, rfl⟩
  obtain ⟨L, hL⟩ : ∃ L, Hid ((bulkText len fs).length = L) := ⟨_, rfl⟩
  have hL1 : 1 ≤ L ∧ L ≤ 131072 + 100 := by rw [← hL.out]; unfold bulkText; simp; omega
  obtain ⟨hL1, hL2⟩ := hL1
  rw [hk.out] at p1 p2
  obtain ⟨A, hA⟩ : ∃ A : List UInt8, Hid (42 :: Lib.itoa i ++ [13, 10] = A) := ⟨42 :: Lib.itoa i ++ [13, 10], Eq.refl (42 :: Lib.itoa i ++ [13, 10])⟩
  obtain ⟨C, hC⟩ : ∃ C : List UInt8, Hid (58 :: Lib.itoa i ++ [13, 10] = C) := ⟨58 :: Lib.itoa i ++ [13, 10], Eq.refl (58 :: Lib.itoa i ++ [13, 10])⟩
  obtain ⟨Z, hZ⟩ : ∃ Z : List UInt8, Hid (bulkText len fs = Z) := ⟨_, rfl⟩
  have lA : A.length = k + 3 := by rw [← hA.out]; simp [hk.out]
  have lC : C.length = k + 3 := by rw [← hC.out]; simp [hk.out]
  have lZ : Z.length = L := by rw [← hZ.out]; exact hL.out
  go_enter Tryd.func4, Tryd.ntmps4
  go_wp2_with fail
  refine (guard_yes ad len cap i w (by omega)).mono ?_
  rintro e w0 ⟨rfl, hw0⟩
  subst w0
  go_wp2_with fail
  refine (itoa_any i hi0 hi1 w).mono ?_
  rintro e w1 ⟨g1, c1, rfl, R1, b1⟩
  rw [hk.out]
  have hf1 := hf.below b1
  go_wp2_with fail
  refine (bulk_any ad len cap fs w1 hf1 (by omega)).mono ?_
  rintro e w2 ⟨g2, c2, rfl, R2, b2⟩
  rw [hL.out]
  rw [hZ.out] at R2
  have D2 := R1.reads.below b2
  have s2 := b2.size
  go_wp2_with fail
  refine (line_any 42 42 rfl g1 0 c1 k (Lib.itoa i) hk.out w2 D2 p1 (by omega)).mono ?_
  rintro e w3 ⟨g3, c3, rfl, R3, b3⟩
  rw [hA.out] at R3
  have ow3 := (R2.below b3).own
  have b13 : Below w1.heap.size w1 w3 := b2.trans (b3.mono s2)
  have s3 := b13.size
  have hn3 := R3.reads.news
  rw [lZ] at ow3
  go_wp2_with (at_builtin; refine wpList_append_lies _ rfl (.tmp 21) (.tmp 23) 24 rfl w1.heap.size 5 i0 _ 1 1 Tryd.underlying24 hin0 hz0 hz1 hzb rfl (by omega) (.slice (some ⟨g2, 0, none⟩) L c2) L _ rfl ow3 ⟨g3, 0, none⟩ (k + 3) c3 (Lib.byteCells A) rfl ?hl hn3 (one_byteCells _) (by omega) ?h63 ?hby s3 w3.heap.size rfl ?_)
  case hl => rw [byteCells_len, Nat.mul_one]; assumption
  case h63 => unfold maxLen; omega
  case hby => omega
  intro g4 c4 w4 own4 grow4 hat4 lt4
  have b4 : Below w1.heap.size w1 w4 := b13.grown grow4 s3 (fun k hk => (ow3.lt k hk).1)
  have D4 := R1.reads.below b4
  have s4 := b4.size
  rw [← byteCells_app] at own4
  have e5 : (Z ++ A).length = L + (k + 3) := by rw [List.length_append, lZ, lA]
  have hW4 : Row w1.heap.size w4 g4 c4 (Z ++ A) := ⟨by rw [e5]; exact own4⟩
  clear grow4 hat4 hn3 ow3 own4 R3 b3 b13 s3 D2 R2 b2 s2
  go_wp2_with fail
  refine (line_any 58 58 rfl g1 0 c1 k (Lib.itoa i) hk.out w4 D4 p1 (by omega)).mono ?_
  rintro e w5 ⟨g5, c5, rfl, R5, b5⟩
  rw [hC.out] at R5
  have ow5 := (hW4.below b5).own
  rw [e5] at ow5
  have b15 : Below w1.heap.size w1 w5 := b4.trans (b5.mono s4)
  have s5 := b15.size
  have hn5 := R5.reads.news
  go_wp2_with (at_builtin; refine wpList_append_lies _ rfl (.tmp 25) (.tmp 27) 24 rfl w1.heap.size 5 i0 _ 1 1 Tryd.underlying24 hin0 hz0 hz1 hzb rfl (by omega) (.slice (some ⟨g4, 0, none⟩) (L + (k + 3)) c4) (L + (k + 3)) _ rfl ow5 ⟨g5, 0, none⟩ (k + 3) c5 (Lib.byteCells C) rfl ?hl hn5 (one_byteCells _) (by omega) ?h63 ?hby s5 w5.heap.size rfl ?_)
  case hl => rw [byteCells_len, Nat.mul_one]; assumption
  case h63 => unfold maxLen; omega
  case hby => omega
  intro g6 c6 w6 own6 grow6 hat6 lt6
  have b6 : Below w1.heap.size w1 w6 := b15.grown grow6 s5 (fun k hk => (ow5.lt k hk).1)
  have s6 := b6.size
  rw [← byteCells_app] at own6
  obtain ⟨T, hT⟩ : ∃ T, Hid (Z ++ A ++ C = T) := ⟨_, rfl⟩
  have eT : T.length = L + (k + 3) + (k + 3) := by rw [← hT.out, List.length_append, e5, lC]
  have hW6 : Row w1.heap.size w6 g6 c6 T := ⟨by rw [eT, ← hT.out]; exact own6⟩
  have b06 : Below w.heap.size w w6 := b1.trans (b6.mono b1.size)
  have hf6 := hf.below b06
  have hB6 : 0 < len → ∀ a, ad = some a → a.block < w6.heap.size := fun h a e => Nat.lt_of_lt_of_le (hB h a e) b06.size
  have htab6 : Lib.TabBelow Tryd.prog w6.heap.size w6 "internal/strconv.uint64pow10" .u64 Lib.pow10Tab := Lib.tabBelow_of_tabIs (Lib.tabBelow_of_tabIs htab w6 b06)
  clear grow6 hat6 hn5 ow5 own6 R5 b5 b15 s5 D4 R1 b1 b4 s4 b6 s6 hf hf1 hB htab hW4
  go_wp2_with fail
  refine (newSink_any w6).mono ?_
  rintro e w7 ⟨rfl, hb7, b7⟩
  obtain ⟨B, hBe⟩ : ∃ B, Hid (w6.heap.size = B) := ⟨_, rfl⟩
  have hr : (B + 3, rObj (B + 2)) ∈ sinkY B := by simp [sinkY]
  have hs : (B + 4, sObj (B + 3) B) ∈ sinkY B := by simp [sinkY]
  have hR7 : Reads w7 (some ⟨g6, 0, none⟩) T := hW6.reads.below b7
  have b07 : Below w.heap.size w w7 := b06.trans (b7.mono b06.size)
  have hBw : w.heap.size ≤ B := by rw [← hBe.out]; exact b06.size
  rw [hBe.out] at hb7 b7 hB6 htab6 ⊢
  have hf7 := hf6.low hB6 b7
  have hg6 : g6 < B := by rw [← hBe.out]; exact hW6.parts.2.1
  have htab7 := htab6.on b7
  obtain ⟨sc0, sc1⟩ := hb7.scell hs
  clear hf6 htab6 b06 hW6 b7 lt6 lt4
  go_wp2_with fail
  refine (sinkWriter_any (B + 3) (B + 4) w7 sc0).mono ?_
  rintro e w8 ⟨rfl, hw8⟩
  subst w8
  go_wp2_with fail
  refine (bulkW_any (sinkY B) B (B + 3) (B + 2) (B + 1) B fs ad len cap hr w7 hb7 hf7 hB6 hcap hcm (by omega) htab7).mono ?_
  rintro e w8 ⟨⟨v8, rfl⟩, h8', b8⟩
  have h8 : Out (sinkY B) B w8 (B + 2) (B + 1) B Z := by rw [← hZ.out]; exact h8'
  clear h8'
  have htab8 := htab7.on b8
  go_wp2_with fail
  refine (array_any (sinkY B) B (B + 3) (B + 2) (B + 1) B _ i hi0 hi1 hr w8 h8 (by omega) htab8).mono ?_
  rintro e w9 ⟨⟨v9, rfl⟩, h9, b9⟩
  rw [hA.out] at h9
  have htab9 := htab8.on b9
  go_wp2_with fail
  refine (integer_any (sinkY B) B (B + 3) (B + 2) (B + 1) B _ i hi0 hi1 hr w9 h9 (by omega) htab9).mono ?_
  rintro e w10 ⟨⟨v10, rfl⟩, h10, b10⟩
  rw [hC.out, hT.out] at h10
  have b710 : Below B w7 w10 := b8.trans (b9.trans b10)
  clear h8 h9 htab7 htab8 htab9 b8 b9 b10 hf7 hb7 sc0 sc1
  go_wp2_with fail
  refine (sinkBytes_any (sinkY B) B (B + 2) (B + 1) B (B + 3) (B + 4) T hr hs w10 h10 (by omega) (by omega)).mono ?_
  rintro e w11 ⟨⟨g11, c11, rfl, R11⟩, b11⟩
  have b711 := b710.trans b11
  have hR11 : Reads w11 (some ⟨g6, 0, none⟩) T := fun j hj => by
    obtain ⟨b, off, e, c⟩ := hR7 j hj
    simp only [Option.some.injEq, Addr.mk.injEq, and_true] at e
    obtain ⟨rfl, rfl⟩ := e
    exact ⟨g6, 0, rfl, cell_low' b711 hg6 c⟩
  have b011 : Below w.heap.size w w11 := b07.trans (b711.mono hBw)
  have eT' : L + (k + 3) + (k + 3) = T.length := eT.symm
  have hT4 : T.length ≤ 1048576 * 4 := by omega
  rw [eT']
  clear h10 b710 b11 b711 b07 hR7 eT eT' lA lC lZ e5
  go_wp2_with fail
  refine (eq_any (some ⟨g11, 0, none⟩) (some ⟨g6, 0, none⟩) c11 c6 T w11 R11.reads hR11 hT4).mono ?_
  rintro e w12 ⟨rfl, m, hw12⟩
  have b12 : Below w.heap.size w w12 := by rw [hw12]; exact b011.trans (below_draws _ _ _)
  clear hw12
  go_wp2_with fail
  go_ret
  exact ⟨rfl, b12⟩

end Go.Proofs.Qxb6612590aDoor
