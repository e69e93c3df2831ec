import Derived.Test.Qxb6612590aDoorDec
namespace Go.Proofs.Qxb6612590aDoor
open Go.RowKit
set_option linter.unusedSimpArgs false
set_option linter.unusedVariables false

theorem one_byteCells (xs : List UInt8) : ∀ u ∈ Lib.byteCells xs, u.oneCell' = true := by
  intro u hu
  simp only [Lib.byteCells, List.mem_map] at hu
  obtain ⟨b, _, rfl⟩ := hu
  rfl

theorem byteCells_len (xs : List UInt8) : (Lib.byteCells xs).length = xs.length := by simp [Lib.byteCells]
theorem byteCells_app (xs ys : List UInt8) : Lib.byteCells (xs ++ ys) = Lib.byteCells xs ++ Lib.byteCells ys := by simp [Lib.byteCells]

theorem Reads.news {w : World} {b off : Nat} {xs : List UInt8} (h : Reads w (some ⟨b, off, none⟩) xs) : ∀ j u, (Lib.byteCells xs)[j]? = some u → w.cell? ((⟨b, off, none⟩ : Addr).add j) = some u := fun j u hj => by
  have hl : j < xs.length := by
    have := (List.getElem?_eq_some_iff.1 hj).1
    rwa [byteCells_len] at this
  obtain ⟨b', off', e, c⟩ := h j hl
  simp only [Option.some.injEq, Addr.mk.injEq, and_true] at e
  obtain ⟨rfl, rfl⟩ := e
  rw [byteCells_get xs j hl] at hj
  rw [Go.WideShapes.add_plain, c]; exact hj

set_option maxHeartbeats 1000000 in
set_option maxRecDepth 100000 in
theorem line_any (t : Int) (tb : UInt8) (ht : (tb.toNat : Int) = t) (b off cap len : Nat) (bs : List UInt8) (hl : bs.length = len) (w : World) (hr : Reads w (some ⟨b, off, none⟩) bs) (hpos : 0 < len) (hlen : len ≤ 1048576) :
    Calls Tryd.prog 13 #[.int .u8 t, .slice (some ⟨b, off, none⟩) len cap] w fun e w' => ∃ g cap', e = .returned (.slice (some ⟨g, 0, none⟩) (len + 3) cap') ∧ Row w.heap.size w' g cap' (tb :: bs ++ [13, 10]) ∧ Below w.heap.size w w' := by
  obtain ⟨i0, hi0, hz0, hz1, hz2⟩ := info5_parts
  have hmk : ∀ wx : World, (Instr.makeSlice 24 (.int .i64 0) (.int .i64 ((len : Int) + 3))).run Tryd.prog wx = .ok (.slice (some ⟨wx.heap.size, 0, none⟩) 0 (len + 3)) (wx.alloc (.cells (madeCells #[.int .u8 0] (len + 3)) 5)) := fun wx => by
    have := make5 (len + 3) (by omega) wx
    simpa using this
  have hO := own_made w (len + 3) (by omega)
  go_enter Tryd.func13, Tryd.ntmps13
  go_wp2_with (at_builtin; refine wpList_append_lies _ rfl (.tmp 10) (.tmp 12) 24 rfl w.heap.size 5 i0 _ 1 1 Tryd.underlying24 hi0 hz0 hz1 hz2 rfl (by omega) (.slice (some ⟨w.heap.size, 0, none⟩) 0 (len + 3)) 0 [] rfl (hO.alloc _) ⟨w.heap.size + 1, 0, none⟩ 1 1 [.int .u8 t] rfl rfl ?hnews ?h1 (by omega) ?h63 ?hby ?hbase (w.heap.size + 2) ?hH ?_)
  case hnews =>
    have := World.news_of_block (cs := #[Value.int .u8 t]) (t := 5) (fr := (0, 0)) (heap_alloc_new (w.alloc (.cells (madeCells #[.int .u8 0] (len + 3)) 5)) (.cells #[Value.int .u8 t] 5))
    rw [Deep.nblk_alloc] at this
    exact this
  case h1 => simp [Value.oneCell']
  case h63 => unfold maxLen; omega
  case hby => omega
  case hbase => rw [Deep.nblk_alloc, Deep.nblk_alloc]; omega
  case hH => rw [Deep.nblk_alloc, Deep.nblk_alloc]
  intro g1 c1 w1 own1 grow1 hat1 lt1
  have b1 : Below w.heap.size w w1 := (((Below.refl w.heap.size w).alloc (Nat.le_refl _) _).alloc (by rw [Deep.nblk_alloc]; omega) _).grown grow1 (by rw [Deep.nblk_alloc, Deep.nblk_alloc]; omega) (fun k hk => (hO.lt k hk).1)
  clear grow1 hat1
  have hr1 := hr.below b1
  have hn1 := hr1.news
  have hs1 := b1.size
  go_wp2_with (at_builtin; refine wpList_append_lies _ rfl (.tmp 14) (.tmp 15) 24 rfl w.heap.size 5 i0 _ 1 1 Tryd.underlying24 hi0 hz0 hz1 hz2 rfl (by omega) (.slice (some ⟨g1, 0, none⟩) (0 + 1) c1) (0 + 1) _ rfl own1 ⟨b, off, none⟩ len cap (Lib.byteCells bs) rfl ?hl hn1 (one_byteCells bs) hpos ?h63 ?hby ?hbase w1.heap.size rfl ?_)
  case hl => rw [byteCells_len, hl, Nat.mul_one]
  case h63 => unfold maxLen; omega
  case hby => omega
  case hbase => exact hs1
  intro g2 c2 w2 own2 grow2 hat2 lt2
  have b2 : Below w.heap.size w w2 := b1.grown grow2 hs1 (fun k hk => (own1.lt k hk).1)
  have hs2 := b2.size
  clear grow2 hat2 own1 b1 hr1 hn1 hs1
  go_wp2_with (at_builtin; refine wpList_append_lies _ rfl (.tmp 17) (.tmp 18) 24 rfl w.heap.size 5 i0 _ 1 1 Tryd.underlying24 hi0 hz0 hz1 hz2 rfl (by omega) (.slice (some ⟨g2, 0, none⟩) (0 + 1 + len) c2) (0 + 1 + len) _ rfl (own2.alloc _) ⟨w2.heap.size, 0, none⟩ 2 2 [.int .u8 13, .int .u8 10] rfl rfl ?hnews ?h1 (by omega) ?h63 ?hby ?hbase (w2.heap.size + 1) ?hH ?_)
  case hnews => exact World.news_of_block (cs := #[Value.int .u8 13, .int .u8 10]) (t := 5) (fr := (0, 0)) (heap_alloc_new w2 _)
  case h1 => simp [Value.oneCell']
  case h63 => unfold maxLen; omega
  case hby => omega
  case hbase => rw [Deep.nblk_alloc]; omega
  case hH => rw [Deep.nblk_alloc]
  intro g3 c3 w3 own3 grow3 hat3 lt3
  have b3 : Below w.heap.size w w3 := (b2.alloc hs2 _).grown grow3 (by rw [Deep.nblk_alloc]; omega) (fun k hk => (own2.lt k hk).1)
  clear grow3 hat3
  have e1 : 0 + 1 + len + 2 = len + 3 := by omega
  have hR : Row w.heap.size w3 g3 c3 (tb :: bs ++ [13, 10]) := ⟨by
    have e2 : (tb :: bs ++ [13, 10]).length = 0 + 1 + len + 2 := by simp [hl]; omega
    have e3 : Lib.byteCells (tb :: bs ++ [13, 10]) = [] ++ [Value.int .u8 t] ++ Lib.byteCells bs ++ [Value.int .u8 13, .int .u8 10] := by simp [Lib.byteCells, ht]
    rw [e2, e3]; exact own3⟩
  rw [e1]
  go_wp2_with fail
  go_ret
  exact ⟨g3, c3, rfl, hR, b3⟩

end Go.Proofs.Qxb6612590aDoor
