import Derived.Test.Qxb6612590aDoorDigits
namespace Go.Proofs.Qxb6612590aDoor
open Go.RowKit
set_option linter.unusedSimpArgs false
set_option linter.unusedVariables false
attribute [local go_sem ↓] Go.wp_at_zero Go.wp_at_succ

/-- resp.Writer's struct: one cell, the bufio.Writer. -/
def rObj (q : Nat) : Obj := .cells #[.pointer (some ⟨q, 0, none⟩)] 53 (0, 0)

theorem BW.rcell {Y : List (Nat × Obj)} {B : Nat} {w : World} {q kb bb r : Nat} {o : Option Nat} {xs S : List UInt8} (h : BW Y B w q kb bb o xs S) (hr : (r, rObj q) ∈ Y) : w.cell? ⟨r, 0, none⟩ = some (.pointer (some ⟨q, 0, none⟩)) := by
  have := (h.bys _ hr).1
  rw [heap_cell (b := r) this]; rfl

theorem Out.rcell {Y : List (Nat × Obj)} {B : Nat} {w : World} {q kb bb r : Nat} {O : List UInt8} (h : Out Y B w q kb bb O) (hr : (r, rObj q) ∈ Y) : w.cell? ⟨r, 0, none⟩ = some (.pointer (some ⟨q, 0, none⟩)) := by
  obtain ⟨o, xs, S, hb, -⟩ := h
  exact hb.rcell hr

theorem BW.mid {Y : List (Nat × Obj)} {B : Nat} {w : World} {q kb bb off : Nat} {o : Option Nat} {xs S : List UInt8} (h : BW Y B w q kb bb o xs S) (hoff : xs.length < 65536 → off = xs.length) : Mid w kb off (65536 - xs.length) [] := by
  refine ⟨fun j v hj => by simp [Lib.byteCells] at hj, fun j hj => ?_, by simp, h.kbl⟩
  have e := hoff (by omega)
  subst e
  have := h.thr (xs.length + j) (by omega)
  rw [Nat.zero_add] at this
  exact this

theorem In.low {B : Nat} {w w' : World} {ad : Option Addr} {len cap : Nat} {fs : List UInt8} (h : In w ad len cap fs) (hB : 0 < len → ∀ a, ad = some a → a.block < B) (hb : Below B w w') : In w' ad len cap fs :=
  ⟨h.lenEq, fun j hj => by
    obtain ⟨b, off, e, c⟩ := h.reads j hj
    exact ⟨b, off, e, cell_low' hb (hB (by have := h.lenEq; omega) _ e) c⟩, h.nil⟩

set_option maxHeartbeats 4000000 in
set_option maxRecDepth 100000 in
/-- Array. -/
theorem array_any (Y : List (Nat × Obj)) (B r q kb bb : Nat) (O : List UInt8) (i : Int) (hi0 : -9223372036854775808 ≤ i) (hi1 : i ≤ 9223372036854775807) (hY : (r, rObj q) ∈ Y) (w : World) (h : Out Y B w q kb bb O) (hlim : O.length ≤ 1048576 * 2) (htab : Lib.TabBelow Tryd.prog B w "internal/strconv.uint64pow10" .u64 Lib.pow10Tab) :
    Calls Tryd.prog 18 #[.pointer (some ⟨r, 0, none⟩), .int .i64 i] w fun e w' => (∃ v, e = .returned v) ∧ Out Y B w' q kb bb (O ++ (42 :: Lib.itoa i ++ [13, 10])) ∧ Below B w w' := by
  have c := h.rcell hY
  have hD1 := itoa_pos i
  have hD2 := itoa_le i hi0 hi1
  go_enter Tryd.func18, Tryd.ntmps18
  go_wp2_with fail
  refine (byte_any Y B q kb bb O 42 42 rfl w h (by omega)).mono ?_
  rintro e w1 ⟨rfl, h1, b1⟩
  have c1 := h1.rcell hY
  clear c h
  obtain ⟨o, xs, S, hb, hO⟩ := h1
  have hlen : S.length + xs.length = O.length + 1 := by rw [← List.length_append, hO]; simp
  have hbd : BW Y B w1.drew q kb bb o xs S := hb.draws 1
  have htab1 : Lib.TabBelow Tryd.prog B w1 "internal/strconv.uint64pow10" .u64 Lib.pow10Tab := htab.on b1
  have hl3 : S.length + xs.length ≤ 1048576 * 3 := by omega
  have hl4 : (Lib.itoa i).length ≤ 100 := by omega
  go_wp2_with fail
  go_region_held3 (fun w' => w'.cell? ⟨r, 0, none⟩ = some (.pointer (some ⟨q, 0, none⟩))) (first | exact c1 | assumption | go_keep) (first | (go_at_call 31; refine (availBuf_any Y B q kb bb o xs S _ hbd).mono ?_; rintro e w2 ⟨⟨off, rfl, hoff⟩, m, hw2⟩; have hb2 : BW Y B w2 q kb bb o xs S := hw2 ▸ hbd.draws m; have b2 : Below B w1 w2 := hw2 ▸ (below_draws B w1 1).trans (below_draws B _ m); have c2 := hb2.rcell hY; clear hw2) | (go_at_call 30; refine (appI_any B kb off _ i hi0 hi1 w2 (hb2.mid hoff) hb2.b2 hb2.bw (htab1.on b2)).mono ?_; intro e w3 hA; obtain ⟨a, cap, rfl, b3, hb3, hcall⟩ := digits_out Y B q kb bb off o xs S (Lib.itoa i) w2 w3 e hb2 hoff hA hD1 hl4 hl3; have c3 := hb3.rcell hY) | (go_at_call 29; refine hcall.mono ?_; rintro e w4 ⟨⟨v4, rfl⟩, h4, b4⟩; have c4 := h4.rcell hY))
  have b04 : Below B w w4 := b1.trans (b2.trans (b3.trans b4))
  clear hcall hA hb3 hb2 hbd hb b1 b2 b3 b4 htab htab1 c1 c2 c3
  rw [hO] at h4
  go_wp2_with fail
  refine (crlf_any Y B q kb bb _ w4 h4 (by simp; omega)).mono ?_
  rintro e w5 ⟨⟨v5, rfl⟩, h5, b5⟩
  have b05 := b04.trans b5
  clear h4 b04 b5 c4
  go_wp2_with fail
  go_end0
  exact ⟨⟨_, rfl⟩, by simpa using h5, b05⟩

set_option maxHeartbeats 4000000 in
set_option maxRecDepth 100000 in
/-- Integer. -/
theorem integer_any (Y : List (Nat × Obj)) (B r q kb bb : Nat) (O : List UInt8) (i : Int) (hi0 : -9223372036854775808 ≤ i) (hi1 : i ≤ 9223372036854775807) (hY : (r, rObj q) ∈ Y) (w : World) (h : Out Y B w q kb bb O) (hlim : O.length ≤ 1048576 * 2) (htab : Lib.TabBelow Tryd.prog B w "internal/strconv.uint64pow10" .u64 Lib.pow10Tab) :
    Calls Tryd.prog 19 #[.pointer (some ⟨r, 0, none⟩), .int .i64 i] w fun e w' => (∃ v, e = .returned v) ∧ Out Y B w' q kb bb (O ++ (58 :: Lib.itoa i ++ [13, 10])) ∧ Below B w w' := by
  have c := h.rcell hY
  have hD1 := itoa_pos i
  have hD2 := itoa_le i hi0 hi1
  go_enter Tryd.func19, Tryd.ntmps19
  go_wp2_with fail
  refine (byte_any Y B q kb bb O 58 58 rfl w h (by omega)).mono ?_
  rintro e w1 ⟨rfl, h1, b1⟩
  have c1 := h1.rcell hY
  clear c h
  obtain ⟨o, xs, S, hb, hO⟩ := h1
  have hlen : S.length + xs.length = O.length + 1 := by rw [← List.length_append, hO]; simp
  have hbd : BW Y B w1.drew q kb bb o xs S := hb.draws 1
  have htab1 : Lib.TabBelow Tryd.prog B w1 "internal/strconv.uint64pow10" .u64 Lib.pow10Tab := htab.on b1
  have hl3 : S.length + xs.length ≤ 1048576 * 3 := by omega
  have hl4 : (Lib.itoa i).length ≤ 100 := by omega
  go_wp2_with fail
  go_region_held3 (fun w' => w'.cell? ⟨r, 0, none⟩ = some (.pointer (some ⟨q, 0, none⟩))) (first | exact c1 | assumption | go_keep) (first | (go_at_call 31; refine (availBuf_any Y B q kb bb o xs S _ hbd).mono ?_; rintro e w2 ⟨⟨off, rfl, hoff⟩, m, hw2⟩; have hb2 : BW Y B w2 q kb bb o xs S := hw2 ▸ hbd.draws m; have b2 : Below B w1 w2 := hw2 ▸ (below_draws B w1 1).trans (below_draws B _ m); have c2 := hb2.rcell hY; clear hw2) | (go_at_call 30; refine (appI_any B kb off _ i hi0 hi1 w2 (hb2.mid hoff) hb2.b2 hb2.bw (htab1.on b2)).mono ?_; intro e w3 hA; obtain ⟨a, cap, rfl, b3, hb3, hcall⟩ := digits_out Y B q kb bb off o xs S (Lib.itoa i) w2 w3 e hb2 hoff hA hD1 hl4 hl3; have c3 := hb3.rcell hY) | (go_at_call 29; refine hcall.mono ?_; rintro e w4 ⟨⟨v4, rfl⟩, h4, b4⟩; have c4 := h4.rcell hY))
  have b04 : Below B w w4 := b1.trans (b2.trans (b3.trans b4))
  clear hcall hA hb3 hb2 hbd hb b1 b2 b3 b4 htab htab1 c1 c2 c3
  rw [hO] at h4
  go_wp2_with fail
  refine (crlf_any Y B q kb bb _ w4 h4 (by simp; omega)).mono ?_
  rintro e w5 ⟨⟨v5, rfl⟩, h5, b5⟩
  have b05 := b04.trans b5
  clear h4 b04 b5 c4
  go_wp2_with fail
  go_end0
  exact ⟨⟨_, rfl⟩, by simpa using h5, b05⟩

set_option maxHeartbeats 4000000 in
set_option maxRecDepth 100000 in
/-- Bulk, at a new Writer. -/
theorem bulkW_any (Y : List (Nat × Obj)) (B r q kb bb : Nat) (fs : List UInt8) (ad : Option Addr) (len cap : Nat) (hY : (r, rObj q) ∈ Y) (w : World) (h : BW Y B w q kb bb none [] []) (hf : In w ad len cap fs) (hB : 0 < len → ∀ a, ad = some a → a.block < B) (hcap : len ≤ cap) (hcm : cap ≤ 9223372036854775807) (hlen : len ≤ 1048576) (htab : Lib.TabBelow Tryd.prog B w "internal/strconv.uint64pow10" .u64 Lib.pow10Tab) :
    Calls Tryd.prog 17 #[.pointer (some ⟨r, 0, none⟩), .slice ad len cap] w fun e w' => (∃ v, e = .returned v) ∧ Out Y B w' q kb bb (36 :: Lib.itoa len ++ [13, 10] ++ fs ++ [13, 10]) ∧ Below B w w' := by
  have c := h.rcell hY
  have hD1 := itoa_pos (len : Int)
  have hi0 : -9223372036854775808 ≤ (len : Int) := by omega
  have hi1 : (len : Int) ≤ 9223372036854775807 := by omega
  have hD2 := itoa_le (len : Int) hi0 hi1
  go_enter Tryd.func17, Tryd.ntmps17
  go_wp2_with fail
  refine (byte_room Y B q kb bb none [] [] 36 36 rfl w h (by simp)).mono ?_
  rintro e w1 ⟨rfl, hb, b1⟩
  have c1 := hb.rcell hY
  clear c h
  obtain ⟨xs, hxs⟩ : ∃ xs : List UInt8, Hid (xs = [36]) := ⟨_, rfl⟩
  have hbd : BW Y B w1.drew q kb bb none xs [] := by rw [hxs.out]; exact hb.draws 1
  have htab1 : Lib.TabBelow Tryd.prog B w1 "internal/strconv.uint64pow10" .u64 Lib.pow10Tab := htab.on b1
  have hl4 : xs.length + (Lib.itoa (len : Int)).length ≤ 65536 := by rw [hxs.out]; simp; omega
  go_wp2_with fail
  go_region_held3 (fun w' => w'.cell? ⟨r, 0, none⟩ = some (.pointer (some ⟨q, 0, none⟩))) (first | exact c1 | assumption | go_keep) (first | (go_at_call 31; refine (availBuf_any Y B q kb bb none xs [] _ hbd).mono ?_; rintro e w2 ⟨⟨off, rfl, hoff⟩, m, hw2⟩; have hb2 : BW Y B w2 q kb bb none xs [] := hw2 ▸ hbd.draws m; have b2 : Below B w1 w2 := hw2 ▸ (below_draws B w1 1).trans (below_draws B _ m); have c2 := hb2.rcell hY; clear hw2) | (go_at_call 30; refine (appI_any B kb off _ (len : Int) hi0 hi1 w2 (hb2.mid hoff) hb2.b2 hb2.bw (htab1.on b2)).mono ?_; intro e w3 hA; obtain ⟨a, cap1, rfl, b3, hb3, hcall⟩ := digits_fit Y B q kb bb off none xs [] (Lib.itoa (len : Int)) w2 w3 e hb2 hoff hA hD1 hl4; have c3 := hb3.rcell hY) | (go_at_call 29; refine hcall.mono ?_; rintro e w4 ⟨⟨v4, rfl⟩, h4, b4⟩; have c4 := h4.rcell hY))
  have b04 : Below B w w4 := b1.trans (b2.trans (b3.trans b4))
  rw [hxs.out] at h4
  clear hcall hA hb3 hb2 hbd hb b1 b2 b3 b4 htab htab1 c1 c2 c3
  go_wp2_with fail
  refine (crlf_fit Y B q kb bb none _ [] w4 h4 (by simp; omega)).mono ?_
  rintro e w5 ⟨⟨v5, rfl⟩, h5, b5⟩
  have b05 := b04.trans b5
  have c5 := h5.rcell hY
  have hf5 : In w5 ad len cap fs := hf.low hB b05
  clear h4 b04 b5 c4
  go_wp2_with fail
  refine (write_arg Y B q kb bb none _ [] fs ad len cap w5 h5 hf5 hB hcap hcm (by simp) (by simp; omega) (by simp; omega)).mono ?_
  rintro e w6 ⟨⟨v6, rfl⟩, h6, b6⟩
  have b06 := b05.trans b6
  have c6 := h6.rcell hY
  have hfl := hf.lenEq
  clear h5 b05 b6 c5 hf5
  go_wp2_with fail
  refine (crlf_any Y B q kb bb _ w6 h6 (by simp; omega)).mono ?_
  rintro e w7 ⟨⟨v7, rfl⟩, h7, b7⟩
  have b07 := b06.trans b7
  clear h6 b06 b7 c6
  go_wp2_with fail
  go_end0
  exact ⟨⟨_, rfl⟩, by simpa using h7, b07⟩

end Go.Proofs.Qxb6612590aDoor
