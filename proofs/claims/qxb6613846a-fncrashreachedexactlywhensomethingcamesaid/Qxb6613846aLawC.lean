import Derived.Test.Qxb6613846aInBytes
import Derived.Deep.AppendLies
namespace Go.Proofs.Qxb6613846a
open Go.RowKit
set_option linter.unusedSimpArgs false
set_option linter.unusedVariables false

theorem own_ge {w : World} {B n : Nat} {v : Value} {xs : List Value} {e : TypeId} {size : Nat} (h : w.ownsRow B e size v n xs) (k : Nat) (hk : v.ownBlock = some k) : B ≤ k := by
  obtain ⟨_, h | ⟨g, cap, cur, rfl, hg, _⟩⟩ := h
  · rw [h.1] at hk; cases hk
  · simp [Value.ownBlock] at hk; omega

/-- The rows of an outer slice behind one store into it. -/
theorem rows_set {w : World} {tb n i : Nat} {V : Nat → Value} {Ls : Nat → Nat} (hr : w.rowIs tb 44 n V) (hV : ∀ j, j < n → ∃ ra rc, V j = .slice ra (Ls j) rc) (L' : Nat) (a' : Option Addr) (c' : Nat) :
    ∀ j, j < n → ∃ tb' off ra rc, (some ⟨tb, 0, none⟩ : Option Addr) = some ⟨tb', off, none⟩ ∧ (w.setCell ⟨tb, i, none⟩ (.slice a' L' c')).cell? ⟨tb', off + j, none⟩ = some (.slice ra (if j = i then L' else Ls j) rc) := fun j hj => by
  have h1 := (hr.set i (.slice a' L' c')).cell hj
  by_cases e : j = i
  · rw [if_pos e] at h1
    exact ⟨tb, 0, a', c', rfl, by rw [Nat.zero_add, h1, if_pos e]⟩
  · rw [if_neg e] at h1
    obtain ⟨ra, rc, e1⟩ := hV j hj
    exact ⟨tb, 0, ra, rc, rfl, by rw [Nat.zero_add, h1, if_neg e, e1]⟩

set_option maxHeartbeats 2000000 in
set_option maxRecDepth 100000 in
theorem lawC_main (ad td bd : Option Addr) (len cap n tcap bl bcap : Nat) (Ls : Nat → Nat) (k : Bool) (i : Nat) (v : ByteArray) (w : World) (hs : Strs w ad len) (hr : Rws w td n Ls) (hb : Bools w bd bl) (hml : len ≤ maxLen) (hmn : n ≤ maxLen) (hmL : ∀ i, i < n → Ls i ≤ maxLen) (hmb : bl ≤ maxLen) (hmv : v.size ≤ maxLen) (hin : i < n) :
    Calls Try.prog 7 #[.slice ad len cap, .slice td n tcap, .bool k, .slice bd bl bcap, .int .i64 (i : Int), .string v] w fun e w' => e = .returned (.bool true) ∧ Below w.heap.size w w' := by
  have x0 : (0 : Int) ≤ (i : Int) := by omega
  have x1 : (i : Int) < (n : Int) := by omega
  have q1 : decide ((i : Int) < 0) = false := by simp
  have q2 : decide (n ≤ i) = false := by simp; omega
  obtain ⟨i0, hi0, hzz⟩ := Option.map_eq_some_iff.1 info79
  simp only [Prod.mk.injEq] at hzz
  obtain ⟨hz0, hz1, hz2⟩ := hzz
  go_enter Try.func7, Try.ntmps7
  go_wp2_with fail
  refine (bytesC_any ad td bd len cap n tcap bl bcap Ls k _ v _ hs hr hml hmn hmL hmb hmv).mono ?_
  rintro e w1 ⟨⟨b, rfl, hbd⟩, hw⟩
  subst w1
  cases b
  · go_wp2_with fail
    go_ret
    exact ⟨rfl, Below.refl _ _⟩
  obtain ⟨g1, g2, g3, g4⟩ := hbd rfl
  clear hbd
  go_wp2_with fail
  refine (inboxBytes_any ad td bd len cap n tcap bl bcap Ls v _ hs hr hml hmn hmL hmb hmv).mono ?_
  rintro e w1 ⟨u, rfl, u0, u1, hw⟩
  subst w1
  clear hml hmn hmL hmb hmv
  by_cases hu : 1048576 < u
  · go_wp2_with fail
    go_ret
    exact ⟨rfl, Below.refl _ _⟩
  have q3 : decide (1048576 < u) = false := by simpa using hu
  go_wp2_with fail
  refine (values_any ad len cap _ hs g1).mono ?_
  rintro e w1 ⟨a1, c1, rfl, -, -, b1⟩
  go_wp2_with fail
  refine (valueLists_any td n tcap Ls _ (hr.below b1) g2 g4).mono ?_
  rintro e w2 ⟨a2, c2, rfl, l2, b2⟩
  have bb2 : Below w.heap.size w w2 := b1.trans (b2.mono b1.size)
  go_wp2_with fail
  refine (bools_any bd bl bcap _ (hb.below bb2) g3).mono ?_
  rintro e w3 ⟨a3, c3, rfl, b3⟩
  have l3 := (l2.below b3).rows
  have bb3 : Below w.heap.size w w3 := bb2.trans (b3.mono bb2.size)
  go_wp2_with fail
  refine (newInbox_any _ _ _ _ _ _ _ _ _ _ _).mono ?_
  rintro e w4 ⟨rfl, hw⟩
  have I4 : InboxAt w4 w3.heap.size n Ls := by rw [hw]; exact inbox_of_row _ _ _ l3
  have bb4 : Below w.heap.size w w4 := by rw [hw]; exact bb3.alloc bb3.size _
  clear hw b1 b2 b3 bb2 bb3 l2 l3
  obtain ⟨p1, hp1⟩ : ∃ p1, p1 = w3.heap.size := ⟨_, rfl⟩
  rw [← hp1] at I4 ⊢
  clear hp1
  go_wp2_with fail
  refine (valueLists_any td n tcap Ls _ (hr.below bb4) g2 g4).mono ?_
  rintro e w5 ⟨a5, c5, rfl, l5, b5⟩
  have I5 := I4.below b5
  have bb5 : Below w.heap.size w w5 := bb4.trans (b5.mono bb4.size)
  go_wp2_with fail
  refine (newInbox_any _ _ _ _ _ _ _ _ _ _ _).mono ?_
  rintro e w6 ⟨rfl, hw⟩
  have J6 : InboxAt w6 w5.heap.size n Ls := by rw [hw]; exact inbox_of_row _ _ _ l5.rows
  have I6 : InboxAt w6 p1 n Ls := by rw [hw]; exact I5.below ((Below.refl _ _).alloc (Nat.le_refl _) _)
  have bb6 : Below w.heap.size w w6 := by rw [hw]; exact bb5.alloc bb5.size _
  clear hw I4 I5 bb4 bb5 b5 l5
  obtain ⟨p2, hp2⟩ : ∃ p2, p2 = w5.heap.size := ⟨_, rfl⟩
  rw [← hp2] at J6 ⊢
  clear hp2
  go_wp2_with fail
  refine (valueLists_any td n tcap Ls _ (hr.below bb6) g2 g4).mono ?_
  rintro e w7 ⟨a7, c7, rfl, l7, b7⟩
  rcases l7.ex with ⟨_, h0⟩ | ⟨tb, V, rfl, htB, hrow, hV⟩
  · omega
  obtain ⟨xs, ra, rc, eVi, hown⟩ := hV i hin
  rw [eVi] at hown
  have r0 := hrow.cell hin
  rw [eVi] at r0
  have hLi := g4 i hin
  obtain ⟨L, hL⟩ : ∃ L, Hid (Ls i = L) := ⟨_, rfl⟩
  rw [hL.out] at hown r0 hLi
  have htlt := hrow.lt
  have hne : ∀ kk, (Value.slice ra L rc).ownBlock = some kk → kk ≠ tb := fun kk hk => own_ne_row hown hrow hk
  have hz7 : w6.heap.size ≤ w7.heap.size := b7.size
  go_wp2_with (at_builtin; refine wpList_append_lies _ rfl (.tmp 61) (.tmp 63) 44 rfl w6.heap.size 79 i0 _ 1 16 Try.underlying44 hi0 hz0 hz1 hz2 rfl (by omega) (.slice ra L rc) L xs rfl (hown.alloc _) ⟨w7.heap.size, 0, none⟩ 1 1 [.string v] rfl rfl ?hnews ?h1 (by omega) ?h63 ?hby ?hbase (w7.heap.size + 1) ?hH ?_)
  case hnews => exact World.news_of_block (cs := #[.string v]) (t := 79) (fr := (0, 0)) (heap_alloc_new w7 _)
  case h1 => simp [Value.oneCell']
  case h63 => unfold maxLen; omega
  case hby => omega
  case hbase => simp; omega
  case hH => simp
  intro g cap1 w8 hown8 hgrow hat hlt8
  have hfar : w8.heap[tb]? = (w7.alloc (.cells #[.string v] 79)).heap[tb]? := hgrow.block tb (by simp; omega) (fun e => hne tb e.symm rfl)
  have hrow8 : w8.rowIs tb 44 n V := (hrow.alloc _).of_block hfar
  have r8 := hrow8.cell hin
  rw [eVi, hL.out] at r8
  have f8 := hrow8.frozen i
  have bb8 : Below w6.heap.size w6 w8 := (b7.alloc hz7 _).grown hgrow (by simp; omega) (fun kk hk => own_ge hown kk hk)
  have hrows := rows_set (i := i) (Ls := Ls) hrow8 (fun j hj => by obtain ⟨_, ra, rc, e, _⟩ := hV j hj; exact ⟨ra, rc, e⟩) (L + 1) (some ⟨g, 0, none⟩) cap1
  have bb9 : ∀ x, Below w6.heap.size w6 (w8.setCell ⟨tb, i, none⟩ x) := fun x => bb8.setCell htB x
  clear hgrow hat hown8 hfar hrow8 bb8 hne r0 hown
  go_wp2_with fail
  have B9 := bb9 (.slice (some ⟨g, 0, none⟩) (L + 1) cap1)
  obtain ⟨w9, hw9⟩ : ∃ w9, w9 = w8.setCell ⟨tb, i, none⟩ (.slice (some ⟨g, 0, none⟩) (L + 1) cap1) := ⟨_, rfl⟩
  rw [← hw9] at hrows B9 ⊢
  clear bb9 hw9 r8 f8 hV hrow l7 b7
  have I9 := I6.below B9
  have J9 := J6.below B9
  have bb9 : Below w.heap.size w w9 := bb6.trans (B9.mono bb6.size)
  refine (values_any ad len cap _ (hs.below bb9) g1).mono ?_
  rintro e w10 ⟨a10, c10, rfl, -, -, b10⟩
  have bb10 : Below w.heap.size w w10 := bb9.trans (b10.mono bb9.size)
  go_wp2_with fail
  refine (bools_any bd bl bcap _ (hb.below bb10) g3).mono ?_
  rintro e w11 ⟨a11, c11, rfl, b11⟩
  have bb11 : Below w.heap.size w w11 := bb10.trans (b11.mono bb10.size)
  have b911 : Below w9.heap.size w9 w11 := b10.trans (b11.mono b10.size)
  have hrows11 : ∀ j, j < n → ∃ tb' off ra rc, (some ⟨tb, 0, none⟩ : Option Addr) = some ⟨tb', off, none⟩ ∧ w11.cell? ⟨tb', off + j, none⟩ = some (.slice ra (if j = i then L + 1 else Ls j) rc) := fun j hj => by
    obtain ⟨tb', off, ra, rc, e, c⟩ := hrows j hj
    exact ⟨tb', off, ra, rc, e, cell_later b911 c⟩
  go_wp2_with fail
  refine (newInbox_any _ _ _ _ _ _ _ _ _ _ _).mono ?_
  rintro e w12 ⟨rfl, hw⟩
  have P12 : InboxAt w12 w11.heap.size n (fun j => if j = i then L + 1 else Ls j) := by rw [hw]; exact inbox_of_row _ _ _ hrows11
  have B12 : Below w9.heap.size w9 w12 := by rw [hw]; exact b911.alloc b911.size _
  have bb12 : Below w.heap.size w w12 := bb9.trans (B12.mono bb9.size)
  have I12 := I9.below B12
  have J12 := J9.below B12
  clear hw hrows hrows11 b10 b11 b911 bb10 bb11 I9 J9 B9 bb9 I6 J6 B12
  obtain ⟨p3, hp3⟩ : ∃ p3, p3 = w11.heap.size := ⟨_, rfl⟩
  rw [← hp3] at P12 ⊢
  clear hp3
  go_wp2_with fail
  refine (valueLists_any td n tcap Ls _ (hr.below bb12) g2 g4).mono ?_
  rintro e w13 ⟨a13, c13, rfl, l13, b13⟩
  rcases l13.ex with ⟨_, h0⟩ | ⟨tc, U, rfl, htC, hrowc, hU⟩
  · omega
  have r13 := hrowc.cell hin
  obtain ⟨_, ra', rc', eUi, _⟩ := hU i hin
  rw [eUi] at r13
  have rr : ∀ o, (w13.alloc o).cell? ⟨tc, i, none⟩ = some (.slice ra' (Ls i) rc') := fun o => by have := (hrowc.alloc o).cell hin; rw [eUi] at this; exact this
  have ff : ∀ o, (w13.alloc o).frozen? ⟨tc, i, none⟩ = false := fun o => (hrowc.alloc o).frozen i
  have f13 := hrowc.frozen i
  go_wp2_with fail
  have hrowsc := rows_set (i := i) (Ls := Ls) (hrowc.alloc (.cells #[] 79)) (fun j hj => by obtain ⟨_, ra, rc, e, _⟩ := hU j hj; exact ⟨ra, rc, e⟩) 0 (some ⟨w13.heap.size, 0, none⟩) 0
  have B14 : Below w12.heap.size w12 ((w13.alloc (.cells #[] 79)).setCell ⟨tc, i, none⟩ (.slice (some ⟨w13.heap.size, 0, none⟩) 0 0)) := (b13.alloc b13.size _).setCell htC _
  obtain ⟨w14, hw14⟩ : ∃ w14, w14 = (w13.alloc (.cells #[] 79)).setCell ⟨tc, i, none⟩ (.slice (some ⟨w13.heap.size, 0, none⟩) 0 0) := ⟨_, rfl⟩
  rw [← hw14] at hrowsc B14 ⊢
  clear hw14 rr ff r13 f13 hrowc hU l13 b13
  have I14 := I12.below B14
  have J14 := J12.below B14
  have P14 := P12.below B14
  have bb14 : Below w.heap.size w w14 := bb12.trans (B14.mono bb12.size)
  refine (values_any ad len cap _ (hs.below bb14) g1).mono ?_
  rintro e w15 ⟨a15, c15, rfl, -, -, b15⟩
  have bb15 : Below w.heap.size w w15 := bb14.trans (b15.mono bb14.size)
  go_wp2_with fail
  refine (bools_any bd bl bcap _ (hb.below bb15) g3).mono ?_
  rintro e w16 ⟨a16, c16, rfl, b16⟩
  have b1416 : Below w14.heap.size w14 w16 := b15.trans (b16.mono b15.size)
  have hrows16 : ∀ j, j < n → ∃ tb' off ra rc, (some ⟨tc, 0, none⟩ : Option Addr) = some ⟨tb', off, none⟩ ∧ w16.cell? ⟨tb', off + j, none⟩ = some (.slice ra (if j = i then 0 else Ls j) rc) := fun j hj => by
    obtain ⟨tb', off, ra, rc, e, c⟩ := hrowsc j hj
    exact ⟨tb', off, ra, rc, e, cell_later b1416 c⟩
  go_wp2_with fail
  refine (newInbox_any _ _ _ _ _ _ _ _ _ _ _).mono ?_
  rintro e w17 ⟨rfl, hw⟩
  have G17 : InboxAt w17 w16.heap.size n (fun j => if j = i then 0 else Ls j) := by rw [hw]; exact inbox_of_row _ _ _ hrows16
  have B17 : Below w14.heap.size w14 w17 := by rw [hw]; exact b1416.alloc b1416.size _
  have bb17 : Below w.heap.size w w17 := bb14.trans (B17.mono bb14.size)
  have I17 := I14.below B17
  have J17 := J14.below B17
  have P17 := P14.below B17
  clear hw hrowsc hrows16 b15 b16 b1416 bb15 I14 J14 P14 I12 J12 P12 bb12 bb14 B17 B14
  obtain ⟨p4, hp4⟩ : ∃ p4, p4 = w16.heap.size := ⟨_, rfl⟩
  rw [← hp4] at G17 ⊢
  clear hp4
  go_wp2_with fail
  refine (zzCrashReached_any p3 n _ i _ P17 hin g2).mono ?_
  rintro e w18 ⟨rfl, hw⟩
  subst w18
  rw [if_pos rfl]
  have z1 : decide (0 < L + 1) = true := by simp
  rw [z1]
  go_wp2_with fail
  refine (zzCrashReached_any p4 n _ i _ G17 hin g2).mono ?_
  rintro e w18 ⟨rfl, hw⟩
  subst w18
  rw [if_pos rfl]
  have z2 : decide (0 < 0) = false := by decide
  rw [z2]
  go_wp2_with fail
  go_loop [19] (fun jv => ∃ j : Nat, j ≤ n ∧ jv = .int .i64 j) (fun jv => n - (intOf jv).toNat)
  case atStart => exact ⟨0, Nat.zero_le _, rfl⟩
  case round =>
    obtain ⟨j, hj, rfl⟩ := hrel
    by_cases hlt : j < n
    · have y0 : (0 : Int) ≤ (j : Int) := by omega
      have y1 : (j : Int) < (n : Int) := by omega
      go_wp2_with fail
      refine (zzCrashReached_any p1 n Ls j _ I17 hlt g2).mono ?_
      rintro e w18 ⟨rfl, hw⟩
      subst w18
      obtain ⟨d, hd⟩ : ∃ d, Hid (decide (0 < Ls j) = d) := ⟨_, rfl⟩
      rw [hd.out]
      go_wp2_with fail
      refine (zzCrashReached_any p2 n Ls j _ J17 hlt g2).mono ?_
      rintro e w18 ⟨rfl, hw⟩
      subst w18
      rw [hd.out]
      by_cases hji : j = i
      · have e1 : ((j : Int) != (i : Int)) = false := by simp; omega
        go_wp2_with fail
        go_round
        case rel => exact ⟨j + 1, by omega, by go_num⟩
        case measure => simp [intOf]; omega
      · have e1 : ((j : Int) != (i : Int)) = true := by simp; omega
        go_wp2_with fail
        refine (zzCrashReached_any p3 n _ j _ P17 hlt g2).mono ?_
        rintro e w18 ⟨rfl, hw⟩
        subst w18
        rw [if_neg hji, hd.out]
        go_wp2_with fail
        refine (zzCrashReached_any p4 n _ j _ G17 hlt g2).mono ?_
        rintro e w18 ⟨rfl, hw⟩
        subst w18
        rw [if_neg hji, hd.out]
        go_wp2_with fail
        go_round
        case rel => exact ⟨j + 1, by omega, by go_num⟩
        case measure => simp [intOf]; omega
    · go_wp2_with fail
      go_ret
      exact ⟨rfl, bb17⟩

end Go.Proofs.Qxb6613846a
