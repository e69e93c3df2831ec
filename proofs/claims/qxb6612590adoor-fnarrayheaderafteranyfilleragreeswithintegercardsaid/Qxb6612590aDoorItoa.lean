import Derived.Test.Qxb6612590aDoorLine
import Derived.Deep.CutRange
import Derived.Lib.ItoaLen
namespace Go.Proofs.Qxb6612590aDoor
open Go.RowKit
set_option linter.unusedSimpArgs false
set_option linter.unusedVariables false

/-- The array of the digits: from place q on it holds D. -/
structure Digs (w : World) (g q : Nat) (D : List UInt8) : Prop where
  len : q + D.length = 20
  ex : ∃ f : Nat → Int, w.rowIs g 62 20 (fun m => .int .u8 (f m)) ∧ ∀ j, j < D.length → f (q + j) = ((D.getD j 0).toNat : Int)

theorem Digs.at {w : World} {g q : Nat} {D : List UInt8} (h : Digs w g q D) (i : Nat) (hi : i < 20) : ∃ x, w.cell? ⟨g, i, none⟩ = some (.int .u8 x) ∧ w.frozen? ⟨g, i, none⟩ = false := by
  obtain ⟨f, hf, -⟩ := h.ex
  exact ⟨_, hf.cell hi, hf.frozen i⟩
theorem Digs.read {w : World} {g q : Nat} {D : List UInt8} (h : Digs w g q D) (j : Nat) (hj : j < D.length) : w.cell? ⟨g, q + j, none⟩ = some (.int .u8 ((D.getD j 0).toNat : Int)) := by
  obtain ⟨f, hf, hd⟩ := h.ex
  have hl := h.len
  rw [hf.cell (by omega), hd j hj]
theorem Digs.put {w : World} {g q : Nat} {D : List UInt8} (h : Digs w g (q + 1) D) (d : UInt8) : Digs (w.setCell ⟨g, q, none⟩ (.int .u8 (d.toNat : Int))) g q (d :: D) := by
  obtain ⟨f, hf, hd⟩ := h.ex
  have hl := h.len
  refine ⟨by simp; omega, fun m => if m = q then (d.toNat : Int) else f m, (hf.set q _).congr fun m _ => ?_, fun j hj => ?_⟩
  · show (if m = q then Value.int .u8 (d.toNat : Int) else .int .u8 (f m)) = .int .u8 (if m = q then (d.toNat : Int) else f m)
    split <;> rfl
  · cases j with
    | zero => simp
    | succ j =>
      have hj' : j < D.length := by simpa using hj
      have := hd j hj'
      show (if q + (j + 1) = q then _ else f (q + (j + 1))) = _
      rw [if_neg (by omega), show q + (j + 1) = q + 1 + j by omega, this]
      simp
theorem Digs.below {w w' : World} {g q B : Nat} {D : List UInt8} (h : Digs w g q D) (hb : Below B w w') (hg : g < B) : Digs w' g q D := by
  obtain ⟨f, hf, hd⟩ := h.ex
  exact ⟨h.len, f, hf.of_block (hb.block g hg), hd⟩
theorem digs_start (w : World) : Digs (w.alloc (.cells #[.int .u8 0, .int .u8 0, .int .u8 0, .int .u8 0, .int .u8 0, .int .u8 0, .int .u8 0, .int .u8 0, .int .u8 0, .int .u8 0, .int .u8 0, .int .u8 0, .int .u8 0, .int .u8 0, .int .u8 0, .int .u8 0, .int .u8 0, .int .u8 0, .int .u8 0, .int .u8 0] 62)) w.heap.size 20 [] :=
  ⟨rfl, fun _ => 0, World.rowIs_alloc w _ 62 _ (fun i hi => by
    have hi' : i < 20 := hi
    show (Array.replicate 20 (Value.int .u8 0))[i]? = _
    simp [hi']), fun j hj => absurd hj (Nat.not_lt_zero _)⟩

theorem Row.mono {B B' : Nat} {w : World} {g cap : Nat} {xs : List UInt8} (h : Row B w g cap xs) (hb : B' ≤ B) : Row B' w g cap xs := by
  obtain ⟨hl, h0 | ⟨b, c, cur, hv, hB, r⟩⟩ := h.own
  · exact ⟨hl, Or.inl h0⟩
  · exact ⟨hl, Or.inr ⟨b, c, cur, hv, Nat.le_trans hb hB, r⟩⟩

theorem digit_nat (u : Nat) : ((UInt8.ofNat (48 + u % 10)).toNat : Int) = 48 + (u : Int) % 10 := by
  have : (UInt8.ofNat (48 + u % 10)).toNat = 48 + u % 10 := by
    rw [UInt8.toNat_ofNat']; omega
  rw [this]; omega

def pre (v : Int) : List UInt8 := if v < 0 then [45] else []

set_option maxHeartbeats 1000000 in
set_option maxRecDepth 100000 in
theorem itoa_any (v : Int) (h0 : -9223372036854775808 ≤ v) (h1 : v ≤ 9223372036854775807) (w : World) :
    Calls Tryd.prog 15 #[.int .i64 v] w fun e w' => ∃ g cap', e = .returned (.slice (some ⟨g, 0, none⟩) (Lib.itoa v).length cap') ∧ Row w.heap.size w' g cap' (Lib.itoa v) ∧ Below w.heap.size w w' := by
  obtain ⟨i0, hi0, hz0, hz1, hzb⟩ := info5_parts
  obtain ⟨U, hU⟩ : ∃ U : Nat, Hid (U = v.natAbs) := ⟨_, rfl⟩
  have hU64 : U < 18446744073709551616 := by have := hU.out; omega
  have hlen : (Lib.decDigits U).length ≤ 20 := by rw [Lib.decDigits_length]; exact Lib.nDigits_le20 U hU64
  go_enter Tryd.func15, Tryd.ntmps15
  go_upto_if 10 with fail
  go_cut [3] from 10 to 17 (fun s3 wx => s3 = .int .u64 (U : Int) ∧ wx = w)
  case first =>
    by_cases hneg : v < 0
    · go_wp2_with fail
      go_meet
      have hu := hU.out
      exact ⟨by congr 1; omega, rfl⟩
    · go_wp2_with fail
      go_meet
      have hu := hU.out
      exact ⟨by congr 1; omega, rfl⟩
  case rest =>
    obtain ⟨rfl, hw⟩ := hcut
    subst wc
    go_wp2_with fail
    go_loopw [3, 6] (fun uv iv wr => ∃ (q x : Nat) (D : List UInt8), q < 20 ∧ uv = .int .u64 (x : Int) ∧ iv = .int .i64 ((q : Int) + 1) ∧ x < 18446744073709551616 ∧ Digs wr w.heap.size (q + 1) D ∧ Hid (Lib.decDigits U = Lib.decDigits x ++ D) ∧ Below w.heap.size w wr) (fun uv _ _ => (intOf uv).toNat)
    case atStart => exact ⟨19, U, [], by omega, rfl, by simp, hU64, digs_start w, by show _ = _; simp, (Below.refl _ _).alloc (Nat.le_refl _) _⟩
    case round =>
      obtain ⟨q, x, D, hq, rfl, rfl, hx, hD, hdec, hbel⟩ := hrel
      obtain ⟨y, c0, f0⟩ := hD.at q (by omega)
      have i0' : (0 : Int) ≤ (q : Int) := by omega
      have i1' : (q : Int) < 20 := by omega
      have hput := hD.put (UInt8.ofNat (48 + x % 10))
      rw [digit_nat] at hput
      have hmk : ∀ wx : World, (Instr.makeSlice 24 (.int .i64 0) (.int .i64 21)).run Tryd.prog wx = .ok (.slice (some ⟨wx.heap.size, 0, none⟩) 0 21) (wx.alloc (.cells (madeCells #[.int .u8 0] 21) 5)) := fun wx => make5 21 (by omega) wx
      have hbel2 : ∀ y, Below w.heap.size w (wr.setCell ⟨w.heap.size, q, none⟩ y) := fun y => hbel.setCell (Nat.le_refl _) _
      by_cases hx10 : x < 10
      · have e10 : ((x : Int) / 10 == 0) = true := by simp; omega
        have hdec2 : Hid (Lib.decDigits U = UInt8.ofNat (48 + x % 10) :: D) := by
          show _ = _
          rw [hdec.out, Lib.decDigits_one hx10, Nat.mod_eq_of_lt hx10]; rfl
        obtain ⟨E, hE⟩ : ∃ E, Hid (E = UInt8.ofNat (48 + x % 10) :: D) := ⟨_, rfl⟩
        rw [← hE.out] at hput hdec2
        obtain ⟨W, hWd⟩ : ∃ W, W = wr.setCell ⟨w.heap.size, q, none⟩ (.int .u8 (48 + (x : Int) % 10)) := ⟨_, rfl⟩
        have hbW := hbel2 (.int .u8 (48 + (x : Int) % 10))
        rw [← hWd] at hput hbW
        have hlt0 : w.heap.size < W.heap.size := by
          obtain ⟨f, hf, -⟩ := hput.ex
          exact hf.lt
        go_upto_if 31 with fail
        have hsz : wr.heap.size = W.heap.size := by rw [hWd]; simp
        rw [← hWd, hsz]
        obtain ⟨nb, hnb⟩ : ∃ nb : Bool, Hid (decide (v < 0) = nb) := ⟨_, rfl⟩
        rw [hnb.out]
        clear hWd hbel2 hD hdec hbel c0 f0 hsz e10
        have ow0 := World.ownsRow_made (base := w.heap.size + 1) (e := 5) W (madeCells #[.int .u8 0] 21) 21 hlt0 (by unfold maxLen; omega) (by rw [size_madeCells, Nat.mul_one])
        go_cut [7] from 32 to 34 (fun s7 wx => ∃ g cap, s7 = .slice (some ⟨g, 0, none⟩) (pre v).length cap ∧ Row (w.heap.size + 1) wx g cap (pre v) ∧ Below (w.heap.size + 1) W wx)
        case first =>
          cases nb
          rotate_left
          · have hp : pre v = [45] := if_pos (of_decide_eq_true hnb.out)
            go_wp2_with (at_builtin; refine wpList_append_lies _ rfl (.tmp 32) (.tmp 33) 24 rfl (w.heap.size + 1) 5 i0 _ 1 1 Tryd.underlying24 hi0 hz0 hz1 hzb rfl (by omega) (.slice (some ⟨W.heap.size, 0, none⟩) 0 21) 0 [] rfl (ow0.alloc _) ⟨W.heap.size + 1, 0, none⟩ 1 1 [.int .u8 45] rfl rfl ?hnews ?h1 (by omega) ?h63 ?hby ?hbase (W.heap.size + 2) ?hH ?_)
            case hnews =>
              have := World.news_of_block (cs := #[Value.int .u8 45]) (t := 5) (fr := (0, 0)) (heap_alloc_new (W.alloc (.cells (madeCells #[.int .u8 0] 21) 5)) (.cells #[Value.int .u8 45] 5))
              rw [Deep.nblk_alloc] at this
              exact this
            case h1 => simp [Value.oneCell']
            case h63 => unfold maxLen; omega
            case hby => omega
            case hbase => rw [Deep.nblk_alloc, Deep.nblk_alloc]; omega
            case hH => rw [Deep.nblk_alloc, Deep.nblk_alloc]
            intro g1 c1 w1 own1 grow1 hat1 lt1
            have bb : Below (w.heap.size + 1) W w1 := (((Below.refl _ W).alloc hlt0 _).alloc (by rw [Deep.nblk_alloc]; omega) _).grown grow1 (by rw [Deep.nblk_alloc, Deep.nblk_alloc]; omega) (fun k hk => (ow0.lt k hk).1)
            have hR : Row (w.heap.size + 1) w1 g1 c1 [45] := ⟨own1⟩
            go_wp2_with fail
            go_meet
            exact ⟨g1, c1, by rw [hp]; rfl, by rw [hp]; exact hR, bb⟩
          · have hp : pre v = [] := if_neg (of_decide_eq_false hnb.out)
            go_wp2_with fail
            go_meet
            exact ⟨W.heap.size, 21, by rw [hp]; rfl, by rw [hp]; exact ⟨ow0⟩, (Below.refl _ W).alloc hlt0 _⟩
        case rest =>
          obtain ⟨g1, c1, rfl, hR1, bb1⟩ := hcut
          clear ow0
          have hEl := hput.len
          go_wp2_with fail
          go_loopw [6, 7] (fun iv ov wx => ∃ m g cap : Nat, q ≤ m ∧ m ≤ 20 ∧ iv = .int .i64 (m : Int) ∧ ov = .slice (some ⟨g, 0, none⟩) ((pre v).length + (m - q)) cap ∧ Row (w.heap.size + 1) wx g cap (pre v ++ E.take (m - q)) ∧ Below (w.heap.size + 1) W wx) (fun iv _ _ => 20 - (intOf iv).toNat)
          case atStart => exact ⟨q, g1, c1, Nat.le_refl _, by omega, rfl, by simp, by simpa using hR1, bb1⟩
          case round =>
            obtain ⟨m, g2, c2, hm0, hm1, rfl, rfl, hR2, bb2⟩ := hrel
            by_cases hlt : m < 20
            · obtain ⟨n2, hn2⟩ : ∃ n2, Hid ((pre v).length + (m - q) = n2) := ⟨_, rfl⟩
              have hrd := (hput.below bb2 (by omega)).read (m - q) (by omega)
              rw [show q + (m - q) = m by omega] at hrd
              have hgd : E[m - q]? = some (E.getD (m - q) 0) := by rw [List.getD_eq_getElem?_getD, List.getElem?_eq_getElem (by omega)]; rfl
              obtain ⟨d, hd⟩ : ∃ d, Hid (E.getD (m - q) 0 = d) := ⟨_, rfl⟩
              rw [hd.out] at hrd hgd
              have i0' : (0 : Int) ≤ (m : Int) := by omega
              have i1' : (m : Int) < 20 := by omega
              have hpl : (pre v).length ≤ 1 := by unfold pre; split <;> simp
              have ow2 : wr.ownsRow (w.heap.size + 1) 5 1 (.slice (some ⟨g2, 0, none⟩) n2 c2) n2 (Lib.byteCells (pre v ++ E.take (m - q))) := by
                have := hR2.own
                have e : (pre v ++ E.take (m - q)).length = n2 := by rw [← hn2.out, List.length_append, List.length_take]; omega
                rw [e] at this; exact this
              have hn20 : n2 ≤ 21 := by have := hn2.out; omega
              rw [hn2.out]
              have hz2 := bb2.size
              go_wp2_with (at_builtin; refine wpList_append_lies _ rfl (.tmp 39) (.tmp 43) 24 rfl (w.heap.size + 1) 5 i0 _ 1 1 Tryd.underlying24 hi0 hz0 hz1 hzb rfl (by omega) (.slice (some ⟨g2, 0, none⟩) n2 c2) n2 _ rfl (ow2.alloc _) ⟨wr.heap.size, 0, none⟩ 1 1 [.int .u8 (d.toNat : Int)] rfl rfl ?hnews ?h1 (by omega) ?h63 ?hby ?hbase (wr.heap.size + 1) ?hH ?_)
              case hnews => exact World.news_of_block (cs := #[Value.int .u8 (d.toNat : Int)]) (t := 5) (fr := (0, 0)) (heap_alloc_new wr _)
              case h1 => simp [Value.oneCell']
              case h63 => unfold maxLen; omega
              case hby => omega
              case hbase => rw [Deep.nblk_alloc]; omega
              case hH => rw [Deep.nblk_alloc]
              intro g3 c3 w3 own3 grow3 hat3 lt3
              have bb3 : Below (w.heap.size + 1) W w3 := (bb2.alloc (by omega) _).grown grow3 (by rw [Deep.nblk_alloc]; omega) (fun k hk => (ow2.lt k hk).1)
              have hR3 : Row (w.heap.size + 1) w3 g3 c3 (pre v ++ E.take (m + 1 - q)) := ⟨by
                have e : (pre v ++ E.take (m + 1 - q)).length = n2 + 1 := by rw [List.length_append, List.length_take, ← hn2.out]; omega
                have e2 : Lib.byteCells (pre v ++ E.take (m + 1 - q)) = Lib.byteCells (pre v ++ E.take (m - q)) ++ [Value.int .u8 (d.toNat : Int)] := by
                  rw [show m + 1 - q = m - q + 1 by omega, List.take_add_one, hgd]
                  simp [Lib.byteCells]
                rw [e, e2]; exact own3⟩
              have en : n2 + 1 = (pre v).length + (m + 1 - q) := by have := hn2.out; omega
              clear grow3 hat3 own3
              go_wp2_with fail
              go_roundw
              case rel => exact ⟨m + 1, g3, c3, by omega, by omega, by go_num, by rw [en], hR3, bb3⟩
              case measure => simp [intOf]; omega
            · have hm20 : m = 20 := by omega
              subst hm20
              have hfin : pre v ++ E.take (20 - q) = Lib.itoa v := by
                have : E.take (20 - q) = E := List.take_of_length_le (by omega)
                rw [this, ← hdec2.out, hU.out]
                unfold pre Lib.itoa
                split
                · rfl
                · rw [show v.natAbs = v.toNat by omega]; rfl
              have hl2 : (pre v).length + (20 - q) = (Lib.itoa v).length := by rw [← hfin, List.length_append, List.length_take]; omega
              rw [hfin] at hR2
              rw [hl2]
              have hBf : Below w.heap.size w wr := hbW.trans (bb2.mono (by omega))
              go_wp2_with fail
              go_ret
              exact ⟨g2, c2, rfl, hR2.mono (by omega), hBf⟩
      · have e10 : ((x : Int) / 10 == 0) = false := by simp; omega
        have hdec2 : Hid (Lib.decDigits U = Lib.decDigits (x / 10) ++ (UInt8.ofNat (48 + x % 10) :: D)) := by
          show _ = _
          rw [hdec.out]
          conv => lhs; rw [Lib.decDigits, dif_neg hx10]
          simp
        have hq1 : 1 ≤ q := by
          have a1 := hput.len
          have a2 : (Lib.decDigits U).length = (Lib.decDigits (x / 10)).length + (UInt8.ofNat (48 + x % 10) :: D).length := by rw [hdec2.out, List.length_append]
          have a3 := Lib.nDigits_pos (x / 10)
          rw [← Lib.decDigits_length] at a3
          omega
        obtain ⟨q', rfl⟩ : ∃ q', q = q' + 1 := ⟨q - 1, by omega⟩
        go_wp2_with fail
        go_roundw
        case rel => exact ⟨q', x / 10, _, by omega, by simp, by simp, by omega, hput, hdec2, hbel2 _⟩
        case measure => simp [intOf]; omega

end Go.Proofs.Qxb6612590aDoor
