import Derived.Test.Qxb6612590aDoorItoa
import Derived.Laws.AppendOwnNone
namespace Go.Proofs.Qxb6612590aDoor
open Go.RowKit
set_option linter.unusedSimpArgs false
set_option linter.unusedVariables false

theorem itoa_pos (v : Int) : 0 < (Lib.itoa v).length := by
  unfold Lib.itoa
  split
  · simp
  · rw [Lib.decDigits_length]; exact Lib.nDigits_pos _
theorem itoa_le (v : Int) (h0 : -9223372036854775808 ≤ v) (h1 : v ≤ 9223372036854775807) : (Lib.itoa v).length ≤ 21 := Lib.itoa_length_le v h0 h1

/-- A slice of bytes that came in. -/
structure In (w : World) (ad : Option Addr) (len cap : Nat) (fs : List UInt8) : Prop where
  lenEq : fs.length = len
  reads : Reads w ad fs
  nil : ad = none → len = 0 ∧ cap = 0

theorem In.below {w w' : World} {ad : Option Addr} {len cap : Nat} {fs : List UInt8} (h : In w ad len cap fs) (hb : Below w.heap.size w w') : In w' ad len cap fs := ⟨h.lenEq, h.reads.below hb, h.nil⟩

theorem In.news {w : World} {a : Addr} {len cap : Nat} {fs : List UInt8} (h : In w (some a) len cap fs) : ∀ j u, (Lib.byteCells fs)[j]? = some u → w.cell? (a.add j) = some u := by
  intro j u hj
  have hl : j < fs.length := by
    have := (List.getElem?_eq_some_iff.1 hj).1
    rwa [byteCells_len] at this
  obtain ⟨b, off, e, -⟩ := h.reads j hl
  simp only [Option.some.injEq] at e
  subst e
  exact h.reads.news j u hj

def bulkText (len : Nat) (fs : List UInt8) : List UInt8 := 36 :: Lib.itoa (len : Int) ++ [13, 10] ++ fs ++ [13, 10]

set_option maxHeartbeats 1000000 in
set_option maxRecDepth 100000 in
theorem bulk_any (ad : Option Addr) (len cap : Nat) (fs : List UInt8) (w : World) (hf : In w ad len cap fs) (hlen : len ≤ 1048576) :
    Calls Tryd.prog 16 #[.slice ad len cap] w fun e w' => ∃ g cap', e = .returned (.slice (some ⟨g, 0, none⟩) (bulkText len fs).length cap') ∧ Row w.heap.size w' g cap' (bulkText len fs) ∧ Below w.heap.size w w' := by
  obtain ⟨i0, hi0, hz0, hz1, hzb⟩ := info5_parts
  have hl := hf.lenEq
  have p1 := itoa_pos (len : Int)
  have p2 := itoa_le (len : Int) (by omega) (by omega)
  go_enter Tryd.func16, Tryd.ntmps16
  go_wp2_with fail
  refine (itoa_any (len : Int) (by omega) (by omega) _).mono ?_
  rintro e w1 ⟨g1, c1, rfl, R1, b1⟩
  obtain ⟨k, hk⟩ : ∃ k, Hid ((Lib.itoa (len : Int)).length = k) := ⟨_, rfl⟩
  rw [hk.out] at p1 p2 ⊢
  go_wp2_with fail
  refine (line_any 36 36 rfl g1 0 c1 k (Lib.itoa (len : Int)) hk.out _ R1.reads p1 (by omega)).mono ?_
  rintro e w2 ⟨g2, c2, rfl, R2, hb2⟩
  have b2 := b1.trans (hb2.mono b1.size)
  have R2' := R2.mono b1.size
  have hf2 := hf.below b2
  clear R1 R2 b1 hb2 hf
  have ow2 := R2'.own
  have e2 : (36 :: Lib.itoa (len : Int) ++ [13, 10]).length = k + 3 := by simp [hk.out]
  rw [e2] at ow2
  have s2 := b2.size
  cases ad with
  | none =>
    obtain ⟨rfl, rfl⟩ := hf2.nil rfl
    have hfs : fs = [] := List.eq_nil_of_length_eq_zero hl
    subst hfs
    go_wp2_with (first | (at_builtin; refine wpList_append_own_none rfl (.tmp 8) (.tmp 9) 24 rfl w.heap.size 5 i0 1 Tryd.underlying24 hi0 (.slice (some ⟨g2, 0, none⟩) (k + 3) c2) (k + 3) _ rfl ow2 rfl ?_) | (at_builtin; refine wpList_append_lies _ rfl (.tmp 11) (.tmp 12) 24 rfl w.heap.size 5 i0 _ 1 1 Tryd.underlying24 hi0 hz0 hz1 hzb rfl (by omega) (.slice (some ⟨g2, 0, none⟩) (k + 3) c2) (k + 3) _ rfl (ow2.alloc _) ⟨w2.heap.size, 0, none⟩ 2 2 [.int .u8 13, .int .u8 10] rfl rfl ?hnews ?h1 (by omega) ?h63 ?hby ?hbase (w2.heap.size + 1) ?hH ?_))
    case hnews => exact World.news_of_block (cs := #[Value.int .u8 13, .int .u8 10]) (t := 5) (fr := (0, 0)) (heap_alloc_new w2 _)
    case h1 => simp [Value.oneCell']
    case h63 => unfold maxLen; omega
    case hby => omega
    case hbase => rw [Deep.nblk_alloc]; omega
    case hH => rw [Deep.nblk_alloc]
    intro g3 c3 w3 own3 grow3 hat3 lt3
    have b3 : Below w.heap.size w w3 := (b2.alloc s2 _).grown grow3 (by rw [Deep.nblk_alloc]; omega) (fun k hk => (ow2.lt k hk).1)
    have eT : (bulkText 0 []).length = k + 3 + 2 := by
      have h := hk.out
      unfold bulkText
      simp only [List.length_append, List.length_cons, List.length_nil]
      omega
    have hR : Row w.heap.size w3 g3 c3 (bulkText 0 []) := ⟨by
      rw [eT]
      have e3 : Lib.byteCells (bulkText 0 []) = Lib.byteCells (36 :: Lib.itoa ((0 : Nat) : Int) ++ [13, 10]) ++ [Value.int .u8 13, .int .u8 10] := by unfold bulkText; simp [Lib.byteCells]
      rw [e3]; exact own3⟩
    clear grow3 hat3 own3
    go_wp2_with fail
    go_ret
    exact ⟨g3, c3, congrArg (fun n => Ending.returned (.slice (some ⟨g3, 0, none⟩) n c3)) (by omega), hR, b3⟩
  | some a =>
    have hn2 := hf2.news
    go_wp2_with (at_builtin; refine wpList_append_own _ rfl (.tmp 8) (.tmp 9) 24 rfl w.heap.size 5 i0 _ 1 1 Tryd.underlying24 hi0 hz0 hz1 hzb rfl (by omega) (.slice (some ⟨g2, 0, none⟩) (k + 3) c2) (k + 3) _ rfl ow2 a len cap (Lib.byteCells fs) rfl ?hl hn2 (one_byteCells fs) ?h63 ?hby s2 ?_)
    case hl => rw [byteCells_len, hl, Nat.mul_one]
    case h63 => unfold maxLen; omega
    case hby => omega
    intro v3 w3 own3 grow3 _
    have b3 : Below w.heap.size w w3 := b2.grown grow3 s2 (fun k hk => (ow2.lt k hk).1)
    have s3 := b3.size
    clear grow3 hn2
    go_wp2_with (at_builtin; refine wpList_append_lies _ rfl (.tmp 11) (.tmp 12) 24 rfl w.heap.size 5 i0 _ 1 1 Tryd.underlying24 hi0 hz0 hz1 hzb rfl (by omega) v3 (k + 3 + len) _ rfl (own3.alloc _) ⟨w3.heap.size, 0, none⟩ 2 2 [.int .u8 13, .int .u8 10] rfl rfl ?hnews ?h1 (by omega) ?h63 ?hby ?hbase (w3.heap.size + 1) ?hH ?_)
    case hnews => exact World.news_of_block (cs := #[Value.int .u8 13, .int .u8 10]) (t := 5) (fr := (0, 0)) (heap_alloc_new w3 _)
    case h1 => simp [Value.oneCell']
    case h63 => unfold maxLen; omega
    case hby => omega
    case hbase => rw [Deep.nblk_alloc]; omega
    case hH => rw [Deep.nblk_alloc]
    intro g4 c4 w4 own4 grow4 hat4 lt4
    have b4 : Below w.heap.size w w4 := (b3.alloc s3 _).grown grow4 (by rw [Deep.nblk_alloc]; omega) (fun k hk => (own3.lt k hk).1)
    have eT : (bulkText len fs).length = k + 3 + len + 2 := by unfold bulkText; simp [hk.out, hl]; omega
    have hR : Row w.heap.size w4 g4 c4 (bulkText len fs) := ⟨by
      rw [eT]
      have e3 : Lib.byteCells (bulkText len fs) = Lib.byteCells (36 :: (Lib.itoa (len : Int) ++ [13, 10])) ++ (Lib.byteCells fs ++ [Value.int .u8 13, .int .u8 10]) := by unfold bulkText; simp [Lib.byteCells]
      rw [e3]; exact own4⟩
    clear grow4 hat4 own4
    go_wp2_with fail
    go_ret
    exact ⟨g4, c4, congrArg (fun n => Ending.returned (.slice (some ⟨g4, 0, none⟩) n c4)) (by omega), hR, b4⟩

end Go.Proofs.Qxb6612590aDoor
