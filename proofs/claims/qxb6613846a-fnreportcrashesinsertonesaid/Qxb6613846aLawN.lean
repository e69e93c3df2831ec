import Derived.Test.Qxb6613846aInsert
namespace Go.Proofs.Qxb6613846a
open Go.RowKit
set_option linter.unusedSimpArgs false
set_option linter.unusedVariables false
attribute [local go_sem ↓] Go.wp_at_zero Go.wp_at_succ

theorem take_succ_plist {W : World} {xs : List Value} {cs : List (Option Cr)} {j : Nat} (h : PList W xs (cs.take j)) (hj : j < cs.length) {q : Value} (hq : PtrTo W q (cs.getD j none)) : PList W (xs ++ [q]) (cs.take (j + 1)) := by
  have := h.snoc hq
  have e : cs.take (j + 1) = cs.take j ++ [cs.getD j none] := by
    rw [List.take_succ_eq_append_getElem hj]; simp [List.getD_eq_getElem?_getD, hj]
  rw [e]; exact this

theorem drop_succ_plist {W : World} {xs : List Value} {pre cs : List (Option Cr)} {a m : Nat} (h : PList W xs (pre ++ (cs.drop a).take m)) (hj : a + m < cs.length) {q : Value} (hq : PtrTo W q (cs.getD (a + m) none)) : PList W (xs ++ [q]) (pre ++ (cs.drop a).take (m + 1)) := by
  have := h.snoc hq
  have e : (cs.drop a).take (m + 1) = (cs.drop a).take m ++ [cs.getD (a + m) none] := by
    rw [List.take_succ_eq_append_getElem (by rw [List.length_drop]; omega)]; simp [List.getD_eq_getElem?_getD, hj]
  rw [e, ← List.append_assoc]; exact this

set_option maxHeartbeats 2000000 in
set_option maxRecDepth 100000 in
theorem lawN_main (ad : Option Addr) (len cap : Nat) (cs : List (Option Cr)) (r : Int) (a : Nat) (rd : Option Addr) (rlen rcap : Nat) (zs : List Int) (w : World) (hp : Ptrs w ad len cs) (hml : len ≤ maxLen) (hcm : ∀ c, some c ∈ cs → c.len ≤ maxLen) (hz : Ints w rd rlen zs) (hrm : rlen ≤ maxLen) (hc : a ≤ len) :
    Calls Try.prog 6 #[.slice ad len cap, .int .i64 r, .int .i64 (a : Int), .slice rd rlen rcap] w fun e w' => e = .returned (.bool true) ∧ Below w.heap.size w w' := by
  have hl2 : Hid (cs.length = len) := hp.length
  have hc0 : (0 : Int) ≤ (a : Int) := by omega
  have hc1 : (a : Int) ≤ (len : Int) := by omega
  have q1 : decide ((a : Int) < 0) = false := by simp
  have q2 : decide (len < a) = false := by simp; omega
  go_enter Try.func6, Try.ntmps6
  go_wp2_with fail
  refine (bytesI_any ad len cap cs _ _ rd rlen rcap _ hp hml hcm hrm).mono ?_
  rintro e w1 ⟨⟨b, rfl, hbd⟩, hw⟩
  subst w1
  cases b
  · go_wp2_with fail
    go_ret
    exact ⟨rfl, Below.refl _ _⟩
  obtain ⟨⟨hlen, hsm0⟩, hrl⟩ := hbd rfl
  have hsm : ∀ c, some c ∈ cs → c.len ≤ 1048576 := small_of (fun i hi => hsm0 i (by rw [← hl2.out]; exact hi))
  clear hbd hsm0 hcm hml hrm
  go_wp2_with fail
  refine (ptrBytes_any ad len cap cs _ hp hlen hsm).mono ?_
  rintro e w1 ⟨t, rfl, t0, t1, hw⟩
  subst w1
  go_wp2_with fail
  refine (add_any _ _ _ _ (by omega) (by omega) (by omega) (by omega)).mono ?_
  rintro e w1 ⟨t2, rfl, t20, t21, -, hw⟩
  subst w1
  by_cases ht : 1048576 < t2
  · go_wp2_with fail
    go_ret
    exact ⟨rfl, Below.refl _ _⟩
  have q3 : decide (1048576 < t2) = false := by simpa using ht
  go_wp2_with fail
  refine (crashPtrs_any ad len cap cs _ hp hlen hsm).mono ?_
  rintro e w1 ⟨ad', cap', cs', rfl, hcap1, hcap2, hp1, hsame, hsm1, hb1⟩
  go_wp2_with fail
  refine (zzreport_any ad' len cap' cs' r _ hp1 (by omega)).mono ?_
  rintro e w2 ⟨v2, rfl, hv2, hb2⟩
  obtain ⟨ea, ecap, rfl, he2⟩ := hv2.open
  clear hv2
  have hp2 := hp1.below hb2
  have hl3 : Hid (cs'.length = len) := hp1.length
  obtain ⟨es, hes⟩ : ∃ es, Hid (evsFrom r 0 cs' = es) := ⟨_, rfl⟩
  rw [hes.out] at he2 ⊢
  have hz2 : Ints w2 rd rlen zs := (hz.below hb1).below hb2
  go_wp2_with fail
  refine (ints_any rd rlen rcap zs _ hz2 hrl).mono ?_
  rintro e w3 ⟨rd', rcap', rfl, hrn0, hz3, hb3⟩
  have hrn : Hid (rd'.isNone = rd.isNone) := hrn0
  clear hrn0
  have hp3 := hp2.below hb3
  have he3 := he2.below hb3
  have hz3o := hz2.below hb3
  have hb4 : Below w.heap.size w w3 := hb1.trans ((hb2.mono hb1.size).trans (hb3.mono (Nat.le_trans hb1.size hb2.size)))
  go_wp2_with fail
  have hbA : Below w3.heap.size w3 (w3.alloc (.cells #[.int .i64 ((a : Int) + 1), .int .i64 r, .slice rd' rlen rcap'] 68)) := (Below.refl _ _).alloc (Nat.le_refl _) _
  have hA : CrAt (w3.alloc (.cells #[.int .i64 ((a : Int) + 1), .int .i64 r, .slice rd' rlen rcap'] 68)) w3.heap.size 0 ⟨(a : Int) + 1, r, rd', rlen, rcap'⟩ :=
    ⟨by simp [go_sem], by simp [go_sem], by simp [go_sem], zs, hz3.below hbA⟩
  obtain ⟨W0, hW0⟩ : ∃ W0, W0 = w3.alloc (.cells #[.int .i64 ((a : Int) + 1), .int .i64 r, .slice rd' rlen rcap'] 68) := ⟨_, rfl⟩
  rw [← hW0] at hbA hA ⊢
  clear hW0
  have hpW := hp3.below hbA
  have heW := he3.below hbA
  have hzW := hz3.below hbA
  have hzoW := hz3o.below hbA
  have hbW : Below w.heap.size w W0 := hb4.trans (hbA.mono hb4.size)
  have hpo := hp.below hbW
  clear hb1 hb2 hb3 hb4 hbA hp1 hp2 hp3 he2 he3 hz2 hz3 hz3o
  obtain ⟨pA, hpA⟩ : ∃ pA, pA = w3.heap.size := ⟨_, rfl⟩
  rw [← hpA] at hA ⊢
  clear hpA
  obtain ⟨i0, hi0, hzz⟩ := Option.map_eq_some_iff.1 info66
  simp only [Prod.mk.injEq] at hzz
  obtain ⟨hz0, hz1, hz2⟩ := hzz
  go_loopw [13, 14] (fun v i wx => ∃ (j : Nat) (xs : List Value), j ≤ a ∧ i = .int .i64 j ∧ wx.ownsRow W0.heap.size 66 1 v j xs ∧ PList W0 xs (cs'.take j) ∧ Below W0.heap.size W0 wx) (fun _ i _ => a - (intOf i).toNat)
  case atStart => exact ⟨0, [], Nat.zero_le _, rfl, by simp [World.ownsRow], ⟨rfl, fun i hi => by simp at hi⟩, Below.refl _ _⟩
  case round =>
    obtain ⟨j, xs, hj, rfl, hown, hpl, hbx⟩ := hrel
    by_cases hlt : j < a
    · have hltl : j < len := by omega
      obtain ⟨b, off, rfl, hcell⟩ := hpW.cells j hltl
      obtain ⟨q, hq, hqt⟩ := hcell.open
      replace hq := cell_later hbx hq
      have hpl2 := take_succ_plist hpl (by rw [hl3.out]; exact hltl) hqt
      have i1 : (0 : Int) ≤ (j : Int) := by omega
      have i2 : (j : Int) < (len : Int) := by omega
      clear hcell hqt
      go_wp2_with (at_builtin; refine wpList_append_lies _ rfl (.tmp 63) (.tmp 68) 52 rfl W0.heap.size 66 i0 _ 1 8 Try.underlying52 hi0 hz0 hz1 hz2 rfl (by omega) u13 j xs rfl (hown.alloc _) ⟨wr.heap.size, 0, none⟩ 1 1 [.pointer q] rfl rfl ?hnews ?h1 (by omega) ?h63 ?hby ?hbase (wr.heap.size + 1) ?hH ?_)
      case hnews => exact World.news_of_block (cs := #[.pointer q]) (t := 66) (fr := (0, 0)) (heap_alloc_new wr _)
      case h1 => simp [Value.oneCell']
      case h63 => unfold maxLen; omega
      case hby => omega
      case hbase => have := hbx.size; simp; omega
      case hH => simp
      intro g cap1 w5 hown1 hgrow hat hlt5
      have hb5 : Below W0.heap.size W0 w5 := (hbx.alloc hbx.size _).grown hgrow (by have := hbx.size; simp; omega) (fun k hk => own_block_ge hown k hk)
      go_wp2_with fail
      go_roundw
      case rel => exact ⟨j + 1, _, by omega, by go_num, hown1, hpl2, hb5⟩
      case measure => simp [intOf]; omega
    · have hja : j = a := by omega
      subst hja
      go_wp2_with (at_builtin; refine wpList_append_lies _ rfl (.tmp 70) (.tmp 72) 52 rfl W0.heap.size 66 i0 _ 1 8 Try.underlying52 hi0 hz0 hz1 hz2 rfl (by omega) u13 j xs rfl (hown.alloc _) ⟨wr.heap.size, 0, none⟩ 1 1 [.pointer (some ⟨pA, 0, none⟩)] rfl rfl ?hnews ?h1 (by omega) ?h63 ?hby ?hbase (wr.heap.size + 1) ?hH ?_)
      case hnews => exact World.news_of_block (cs := #[.pointer (some ⟨pA, 0, none⟩)]) (t := 66) (fr := (0, 0)) (heap_alloc_new wr _)
      case h1 => simp [Value.oneCell']
      case h63 => unfold maxLen; omega
      case hby => omega
      case hbase => have := hbx.size; simp; omega
      case hH => simp
      intro g cap1 w5 hown1 hgrow hat hlt5
      have hb5 : Below W0.heap.size W0 w5 := (hbx.alloc hbx.size _).grown hgrow (by have := hbx.size; simp; omega) (fun k hk => own_block_ge hown k hk)
      have hpl5 : PList W0 (xs ++ [.pointer (some ⟨pA, 0, none⟩)]) (cs'.take j ++ [some ⟨(j : Int) + 1, r, rd', rlen, rcap'⟩] ++ (cs'.drop j).take 0) := by
        rw [List.take_zero, List.append_nil]; exact hpl.snoc ⟨pA, 0, rfl, hA⟩
      clear hgrow hat hown hpl hbx
      go_wp2_with fail
      go_loopw [13, 15] (fun v i wx => ∃ (m : Nat) (xs : List Value), j + m ≤ len ∧ i = .int .i64 ((j + m : Nat) : Int) ∧ wx.ownsRow W0.heap.size 66 1 v (j + 1 + m) xs ∧ PList W0 xs (cs'.take j ++ [some ⟨(j : Int) + 1, r, rd', rlen, rcap'⟩] ++ (cs'.drop j).take m) ∧ Below W0.heap.size W0 wx) (fun _ i _ => len - (intOf i).toNat)
      case atStart => exact ⟨0, _, by omega, rfl, hown1, hpl5, hb5⟩
      case round =>
        clear hown1 hpl5 hb5
        obtain ⟨m, ys, hm, rfl, hown, hpl, hbx⟩ := hrel
        by_cases hlt2 : j + m < len
        · obtain ⟨b, off, rfl, hcell⟩ := hpW.cells (j + m) hlt2
          obtain ⟨q, hq, hqt⟩ := hcell.open
          replace hq := cell_later hbx hq
          have hpl2 := drop_succ_plist hpl (by rw [hl3.out]; exact hlt2) hqt
          obtain ⟨n, hn⟩ : ∃ n, Hid (n = j + m) := ⟨_, rfl⟩
          obtain ⟨n1, hn1⟩ : ∃ n1, Hid (n1 = j + 1 + m) := ⟨_, rfl⟩
          have hnn : n1 ≤ 1048577 := by have := hn1.out; omega
          rw [← hn.out] at hlt2 hq hm ⊢
          rw [← hn1.out] at hown
          have i1 : (0 : Int) ≤ (n : Int) := by omega
          have i2 : (n : Int) < (len : Int) := by omega
          clear hcell hqt
          go_wp2_with (at_builtin; refine wpList_append_lies _ rfl (.tmp 81) (.tmp 86) 52 rfl W0.heap.size 66 i0 _ 1 8 Try.underlying52 hi0 hz0 hz1 hz2 rfl (by omega) u13 n1 ys rfl (hown.alloc _) ⟨wr.heap.size, 0, none⟩ 1 1 [.pointer q] rfl rfl ?hnews ?h1 (by omega) ?h63 ?hby ?hbase (wr.heap.size + 1) ?hH ?_)
          case hnews => exact World.news_of_block (cs := #[.pointer q]) (t := 66) (fr := (0, 0)) (heap_alloc_new wr _)
          case h1 => simp [Value.oneCell']
          case h63 => unfold maxLen; omega
          case hby => omega
          case hbase => have := hbx.size; simp; omega
          case hH => simp
          intro g cap1 w5 hown1 hgrow hat hlt5
          have hb5 : Below W0.heap.size W0 w5 := (hbx.alloc hbx.size _).grown hgrow (by have := hbx.size; simp; omega) (fun k hk => own_block_ge hown k hk)
          go_wp2_with fail
          go_roundw
          case rel => exact ⟨m + 1, _, by rw [← Nat.add_assoc, ← hn.out]; omega, by rw [← Nat.add_assoc, ← hn.out]; go_num, by rw [← Nat.add_assoc, ← hn1.out]; exact hown1, hpl2, hb5⟩
          case measure => simp [intOf]; omega
        · have hfull : (cs'.drop j).take m = cs'.drop j := List.take_of_length_le (by rw [List.length_drop, hl3.out]; omega)
          rw [hfull] at hpl
          have hgl : (cs'.take j ++ [some (⟨(j : Int) + 1, r, rd', rlen, rcap'⟩ : Cr)] ++ cs'.drop j).length = len + 1 := by simp [hl3.out]; omega
          obtain ⟨gl, hgle⟩ : ∃ gl, Hid (gl = cs'.take j ++ [some (⟨(j : Int) + 1, r, rd', rlen, rcap'⟩ : Cr)] ++ cs'.drop j) := ⟨_, rfl⟩
          rw [← hgle.out] at hpl hgl
          rw [show j + 1 + m = gl.length by rw [hgl]; omega] at hown
          obtain ⟨gg, gcap, hv, hpg⟩ := ptrs_of_own hown hpl hbx (by rw [hgl]; omega)
          rw [hv]
          have HGL : Hid (gl.length = len + 1) := hgl
          obtain ⟨nl, hnl⟩ : ∃ nl, Hid (gl.length = nl) := ⟨_, rfl⟩
          rw [hnl.out] at hpg ⊢
          have hnlb : nl ≤ 1048577 := by rw [← hnl.out, HGL.out]; omega
          have hd1 : decide (((j + m : Nat) : Int) < (len : Int)) = false := by simp; omega
          have hefs := insert_evs r cs' j (by rw [hl3.out]; exact hc) ⟨(j : Int) + 1, r, rd', rlen, rcap'⟩ rfl
          rw [← hgle.out] at hefs
          have hees := split_evs r cs' j (by rw [hl3.out]; exact hc)
          rw [hes.out] at hees
          have HEE : Hid (es = evsFrom r 0 (cs'.take j) ++ (evsFrom r 0 (cs'.drop j)).map fun e => (e.1 + (j : Int), e.2)) := hees
          have HEF : Hid (evsFrom r 0 gl = evsFrom r 0 (cs'.take j) ++ ((((j + 1 : Nat) : Int), (⟨(j : Int) + 1, r, rd', rlen, rcap'⟩ : Cr)) :: (evsFrom r 0 (cs'.drop j)).map fun e => (e.1 + ((j + 1 : Nat) : Int), e.2))) := hefs
          clear hgl hown hv hefs hees hfull hpl
          obtain ⟨nn, hnn⟩ : ∃ nn, Hid (nn = j + m) := ⟨_, rfl⟩
          rw [← hnn.out] at hlt2 hm hd1 ⊢
          go_wp2_with fail
          refine (zzreport_any (some ⟨gg, 0, none⟩) nl gcap gl r _ hpg (by omega)).mono ?_
          rintro e w6 ⟨v6, rfl, hv6, hb6⟩
          obtain ⟨fa, fcap, rfl, hf6⟩ := hv6.open
          clear hv6
          obtain ⟨F, hF⟩ : ∃ F, Hid (evsFrom r 0 (cs'.take j) = F) := ⟨_, rfl⟩
          obtain ⟨G, hG⟩ : ∃ G, Hid (evsFrom r 0 (cs'.drop j) = G) := ⟨_, rfl⟩
          obtain ⟨fs, hfs⟩ : ∃ fs, Hid (evsFrom r 0 gl = fs) := ⟨_, rfl⟩
          rw [hfs.out] at hf6 ⊢
          replace HEE : Hid (es = F ++ G.map fun e => (e.1 + (j : Int), e.2)) := by have := HEE.out; rw [hF.out, hG.out] at this; exact this
          replace HEF : Hid (fs = F ++ ((((j + 1 : Nat) : Int), (⟨(j : Int) + 1, r, rd', rlen, rcap'⟩ : Cr)) :: G.map fun e => (e.1 + ((j + 1 : Nat) : Int), e.2))) := by have := HEF.out; rw [hF.out, hG.out, hfs.out] at this; exact this
          have hb7 : Below W0.heap.size W0 w6 := hbx.trans (hb6.mono hbx.size)
          have hp7 := hpW.below hb7
          have he7 := heW.below hb7
          have hz7 := hzW.below hb7
          have hzo7 := hzoW.below hb7
          have hpo7 := hpo.below hb7
          have hbw7 : Below w.heap.size w w6 := hbW.trans (hb7.mono hbW.size)
          have hcnt : Hid ((evsFrom r 0 cs).length = es.length) := by rw [← hes.out]; exact (evs_congr r cs' cs 0 (by rw [hl3.out, hl2.out]) (fun m hm => hsame m (by rw [← hl3.out]; exact hm))).symm
          have hint : Hid (∀ i, i < es.length → ∃ zs, Ints w6 (es.getD i (0, cr0)).2.ad (es.getD i (0, cr0)).2.len zs ∧ (es.getD i (0, cr0)).2.len ≤ 1048576 ∧ 0 < (es.getD i (0, cr0)).1 ∧ (es.getD i (0, cr0)).1 ≤ 1048576) := fun i hi => by
            have hm := mem_getD es i (0, cr0) hi
            rw [← hes.out] at hm
            obtain ⟨h1, h2, h3⟩ := evsFrom_mem r cs' 0 _ hm
            rw [hes.out] at h1 h2 h3
            obtain ⟨zs, hz⟩ := hp7.ints _ h1
            rw [hl3.out] at h3
            exact ⟨zs, hz, hsm1 _ h1, by omega, by omega⟩
          have hel : es.length ≤ 1048576 := by have := evsFrom_le r cs' 0; rw [hes.out, hl3.out] at this; omega
          have hlE : Hid (es.length = F.length + G.length) := by show es.length = _; rw [HEE.out]; simp
          have hlF : Hid (fs.length = F.length + G.length + 1) := by show fs.length = _; rw [HEF.out]; simp; omega
          have hFle : ∀ i, i < F.length → (F.getD i (0, cr0)).1 ≤ (j : Int) := fun i hi => by
            have hm := mem_getD F i (0, cr0) hi
            rw [← hF.out] at hm
            have := (evsFrom_mem r _ 0 _ hm).2.2
            rw [hF.out, List.length_take, hl3.out] at this
            omega
          have hGpos : ∀ i, i < G.length → 0 < (G.getD i (0, cr0)).1 := fun i hi => by
            have hm := mem_getD G i (0, cr0) hi
            rw [← hG.out] at hm
            have := (evsFrom_mem r _ 0 _ hm).2.1
            rw [hG.out] at this
            omega
          have hpos : Hid (∀ i, i < es.length → ((es.getD i (0, cr0)).1 ≤ (j : Int) ↔ i < F.length)) := fun i hi => by
            rw [HEE.out]
            rcases Nat.lt_or_ge i F.length with h | h
            · rw [getD_left _ _ _ h]; exact ⟨fun _ => h, fun _ => hFle i h⟩
            · obtain ⟨k, rfl⟩ : ∃ k, i = F.length + k := ⟨i - F.length, by omega⟩
              have hk : k < G.length := by have := hlE.out; omega
              rw [getD_right F G (fun e => (e.1 + (j : Int), e.2)) k (0, cr0) (0, cr0) hk]
              have := hGpos k hk
              exact ⟨fun h' => by dsimp only at h'; omega, fun h' => by omega⟩
          have heq1 : Hid (∀ i, i < F.length → fs.getD i (0, cr0) = es.getD i (0, cr0)) := fun i hi => by rw [HEE.out, HEF.out, getD_left _ _ _ hi, getD_left _ _ _ hi]
          have heq2 : Hid (fs.getD F.length (0, cr0) = ((j : Int) + 1, ⟨(j : Int) + 1, r, rd', rlen, rcap'⟩)) := by
            show fs.getD F.length (0, cr0) = _
            rw [HEF.out]; simp [List.getD_eq_getElem?_getD]
          have heq3 : Hid (∀ i, F.length ≤ i → i < es.length → fs.getD (i + 1) (0, cr0) = ((es.getD i (0, cr0)).1 + 1, (es.getD i (0, cr0)).2)) := fun i hi hie => by
            obtain ⟨k, rfl⟩ : ∃ k, i = F.length + k := ⟨i - F.length, by omega⟩
            have hk : k < G.length := by have := hlE.out; omega
            rw [HEE.out, HEF.out, getD_right F G (fun e => (e.1 + (j : Int), e.2)) k (0, cr0) (0, cr0) hk]
            have e1 : (F ++ ((((j + 1 : Nat) : Int), (⟨(j : Int) + 1, r, rd', rlen, rcap'⟩ : Cr)) :: G.map fun e => (e.1 + ((j + 1 : Nat) : Int), e.2))).getD (F.length + k + 1) (0, cr0) = (G.map fun e => (e.1 + ((j + 1 : Nat) : Int), e.2)).getD k (0, cr0) := by
              rw [Nat.add_assoc]; simp [List.getD_eq_getElem?_getD, List.getElem?_append_right]
            rw [e1]
            have e2 := getD_right [] G (fun e => (e.1 + ((j + 1 : Nat) : Int), e.2)) k (0, cr0) (0, cr0) hk
            simp only [List.nil_append, List.length_nil, Nat.zero_add] at e2
            rw [e2]
            simp only [Prod.mk.injEq, and_true]
            omega
          obtain ⟨nF, hnF⟩ : ∃ nF, Hid (F.length = nF) := ⟨_, rfl⟩
          rw [hnF.out] at hpos heq1 heq2 heq3 hlE hlF
          have hnFle : nF ≤ es.length := by have := hlE.out; omega
          have hfl : (fs.length : Int) ≤ 1048577 := by have := hlE.out; have := hlF.out; omega
          have hff : Hid (fs.length = es.length + 1) := by show fs.length = _; have := hlE.out; have := hlF.out; omega
          clear hFle hGpos HEE HEF hF hG hfs hes hsame hp7 hpW heW hzW hzoW hpo hbW hb7 hb6 hbx hpg hlE hlF hsm1 hgle hnF hA
          go_wp2_with fail
          go_loop [17, 18] (fun wv k => ∃ (i u : Nat), i ≤ len ∧ k = .int .i64 i ∧ wv = .int .i64 u ∧ Hid ((evsFrom r 0 (cs.take i)).length = u) ∧ u ≤ i) (fun _ k => len - (intOf k).toNat)
          case atStart => exact ⟨0, 0, Nat.zero_le _, rfl, rfl, rfl, Nat.le_refl _⟩
          case round =>
            obtain ⟨i, u, hi, rfl, rfl, hu, huj⟩ := hrel
            by_cases hlt3 : i < len
            · obtain ⟨b, off, rfl, hcell⟩ := hpo7.cells i hlt3
              have hsucc := evsFrom_take_succ r cs i (by rw [hl2.out]; exact hlt3)
              have i1 : (0 : Int) ≤ (i : Int) := by omega
              have i2 : (i : Int) < (len : Int) := by omega
              cases hx : cs.getD i none with
              | none =>
                rw [hx] at hcell hsucc
                have hs' : Hid ((evsFrom r 0 (cs.take (i + 1))).length = u) := by show List.length _ = _; rw [hsucc]; simp [evsFrom, hu.out]
                clear hx hsucc
                unfold PtrCell at hcell
                go_wp2_with fail
                go_round
                case rel => exact ⟨i + 1, u, by omega, by go_num, rfl, hs', by omega⟩
                case measure => simp [intOf]; omega
              | some d =>
                rw [hx] at hcell hsucc
                clear hx
                obtain ⟨pb, po, hc', hcr⟩ := hcell
                obtain ⟨cp, cr, cad, clen, ccap⟩ := d
                obtain ⟨-, d1, -, -⟩ := hcr
                dsimp only at d1
                by_cases hr : cr = r
                · have hs' : Hid ((evsFrom r 0 (cs.take (i + 1))).length = u + 1) := by show List.length _ = _; rw [hsucc]; simp [evsFrom, hr, hu.out]
                  subst hr
                  clear hsucc
                  go_wp2_with fail
                  go_round
                  case rel => exact ⟨i + 1, u + 1, by omega, by go_num, by go_num, hs', by omega⟩
                  case measure => simp [intOf]; omega
                · have hs' : Hid ((evsFrom r 0 (cs.take (i + 1))).length = u) := by show List.length _ = _; rw [hsucc]; simp [evsFrom, hr, hu.out]
                  clear hsucc
                  go_wp2_with fail
                  go_round
                  case rel => exact ⟨i + 1, u, by omega, by go_num, rfl, hs', by omega⟩
                  case measure => simp [intOf]; omega
            · have hue : u = es.length := by
                have := hu.out
                rw [List.take_of_length_le (by rw [hl2.out]; omega), hcnt.out] at this
                exact this.symm
              subst hue
              clear hu hcnt
              have e1 : ((fs.length : Int) != (es.length : Int) + 1) = false := by have := hff.out; simp; omega
              go_wp2_with fail
              go_loop [19, 20] (fun pv k => ∃ (n u : Nat), n ≤ es.length ∧ k = .int .i64 n ∧ pv = .int .i64 u ∧ Hid (u = min n nF) ∧ u ≤ n) (fun _ k => es.length - (intOf k).toNat)
              case atStart => exact ⟨0, 0, Nat.zero_le _, rfl, rfl, (by omega : 0 = min 0 nF), Nat.le_refl _⟩
              case round =>
                clear hlt3 huj hi
                obtain ⟨n, u, hn, rfl, rfl, hu, hun⟩ := hrel
                by_cases hlt3 : n < es.length
                · obtain ⟨g1, o1, rfl, ev1⟩ := he7 n hlt3
                  have hp3 := hpos.out n hlt3
                  have c3 := ev1.c3
                  obtain ⟨p, hpp⟩ : ∃ p, Hid ((es.getD n (0, cr0)).1 = p) := ⟨_, rfl⟩
                  rw [hpp.out] at c3 hp3
                  have HP3 : Hid (p ≤ (j : Int) ↔ n < nF) := hp3
                  have i1 : (0 : Int) ≤ (n : Int) := by omega
                  have i2 : (n : Int) < (es.length : Int) := by omega
                  clear ev1 hp3
                  by_cases hpj : p ≤ (j : Int)
                  · have hnf := HP3.out.1 hpj
                    have hu2 : Hid (u + 1 = min (n + 1) nF) := by show _ = _; rw [hu.out]; omega
                    go_wp2_with fail
                    go_round
                    case rel => exact ⟨n + 1, u + 1, by omega, by go_num, by go_num, hu2, by omega⟩
                    case measure => simp [intOf]; omega
                  · have hnf : ¬ n < nF := fun h => hpj (HP3.out.2 h)
                    have hu2 : Hid (u = min (n + 1) nF) := by show _ = _; rw [hu.out]; omega
                    go_wp2_with fail
                    go_round
                    case rel => exact ⟨n + 1, u, by omega, by go_num, rfl, hu2, by omega⟩
                    case measure => simp [intOf]; omega
                · have huF : u = nF := by have := hu.out; omega
                  subst huF
                  clear hu hpos
                  go_wp2_with fail
                  go_loopw [21] (fun k wx => ∃ m : Nat, m ≤ u ∧ k = .int .i64 m ∧ Below w6.heap.size w6 wx) (fun k _ => u - (intOf k).toNat)
                  case atStart => exact ⟨0, Nat.zero_le _, rfl, Below.refl _ _⟩
                  case round =>
                    clear hlt3 hun hn
                    obtain ⟨m, hm, rfl, hbm⟩ := hrel
                    by_cases hlt3 : m < u
                    · have hme : m < es.length := by omega
                      have hmf : m < fs.length := by have := hff.out; omega
                      obtain ⟨zs2, hz, hzl, -, -⟩ := hint.out m hme
                      obtain ⟨g1, o1, rfl, ev1⟩ := hf6 m hmf
                      obtain ⟨g2, o2, rfl, ev2⟩ := he7 m hme
                      rw [heq1.out m hlt3] at ev1
                      obtain ⟨⟨p, cp, cr, cad, clen, ccap⟩, hq⟩ : ∃ q, es.getD m (0, cr0) = q := ⟨_, rfl⟩
                      rw [hq] at hz hzl ev1 ev2
                      dsimp only at hz hzl ev1 ev2
                      clear hq
                      obtain ⟨a0, a1, a2, a3, a4, a5, a6⟩ := ev1.below hbm
                      obtain ⟨b0, b1, b2, b3, b4, b5, b6⟩ := ev2.below hbm
                      have hzd : Ints wr.drew cad clen zs2 := (hz.below hbm).below (Below.drew (Below.refl _ _))
                      have i1 : (0 : Int) ≤ (m : Int) := by omega
                      have i2 : (m : Int) < (es.length : Int) := by omega
                      have i3 : (m : Int) < (fs.length : Int) := by omega
                      have ev1d : EvAt wr.drew g1 (o1 + m * 7) r p cad clen ccap := (ev1.below hbm).below (Below.drew (Below.refl _ _))
                      have ev2d : EvAt wr.drew g2 (o2 + m * 7) r p cad clen ccap := (ev2.below hbm).below (Below.drew (Below.refl _ _))
                      clear ev1 ev2 hz
                      go_wp2_with fail
                      go_region_held3 (fun w' => (w'.cell? ⟨g1, o1 + m * 7, none⟩ = some (.int .i64 r) ∧ w'.cell? ⟨g1, o1 + m * 7 + 1, none⟩ = some (.int .i64 0) ∧ w'.cell? ⟨g1, o1 + m * 7 + 2, none⟩ = some (.int .i8 2) ∧ w'.cell? ⟨g1, o1 + m * 7 + 3, none⟩ = some (.int .i64 p) ∧ w'.cell? ⟨g1, o1 + m * 7 + 4, none⟩ = some (.int .i64 0) ∧ w'.cell? ⟨g1, o1 + m * 7 + 5, none⟩ = some (.string ⟨#[]⟩) ∧ w'.cell? ⟨g1, o1 + m * 7 + 6, none⟩ = some (.slice cad clen ccap)) ∧ (w'.cell? ⟨g2, o2 + m * 7, none⟩ = some (.int .i64 r) ∧ w'.cell? ⟨g2, o2 + m * 7 + 1, none⟩ = some (.int .i64 0) ∧ w'.cell? ⟨g2, o2 + m * 7 + 2, none⟩ = some (.int .i8 2) ∧ w'.cell? ⟨g2, o2 + m * 7 + 3, none⟩ = some (.int .i64 p) ∧ w'.cell? ⟨g2, o2 + m * 7 + 4, none⟩ = some (.int .i64 0) ∧ w'.cell? ⟨g2, o2 + m * 7 + 5, none⟩ = some (.string ⟨#[]⟩) ∧ w'.cell? ⟨g2, o2 + m * 7 + 6, none⟩ = some (.slice cad clen ccap))) (first | assumption | go_keep)
                        (first | (go_at_call 23; refine (sameEvent_any r p ⟨#[]⟩ cad cad clen ccap ccap zs2 _ hzd hzd rfl hzl).mono ?_; rintro e w8 ⟨rfl, hb8⟩; have hS := And.intro (ev1d.below hb8).conj (ev2d.below hb8).conj))
                      have hb9 : Below w6.heap.size w6 w8 := hbm.drew.trans (hb8.mono hbm.size)
                      go_wp2_with fail
                      go_roundw
                      case rel => exact ⟨m + 1, by omega, by go_num, hb9⟩
                      case measure => simp [intOf]; omega
                    · have hufl : u < fs.length := by have := hff.out; omega
                      obtain ⟨g1, o1, rfl, ev1⟩ := hf6 u hufl
                      rw [heq2.out] at ev1
                      dsimp only at ev1
                      obtain ⟨a0, a1, a2, a3, a4, a5, a6⟩ := ev1.below hbm
                      have hz9 := hz7.below hbm
                      have hzo9 := hzo7.below hbm
                      have i1 : (0 : Int) ≤ (u : Int) := by omega
                      have i3 : (u : Int) < (fs.length : Int) := by omega
                      clear ev1
                      go_wp2_with fail
                      refine (sameEvent_any r ((j : Int) + 1) ⟨#[]⟩ rd' rd rlen rcap' rcap zs _ hz9 hzo9 hrn.out hrl).mono ?_
                      rintro e w8 ⟨rfl, hb8⟩
                      have hb9 : Below w6.heap.size w6 w8 := hbm.trans (hb8.mono hbm.size)
                      clear hbm a0 a1 a2 a3 a4 a5 a6 hz9 hzo9 hm hlt3
                      go_wp2_with fail
                      go_loopw [22] (fun k wx => ∃ m : Nat, u ≤ m ∧ m ≤ es.length ∧ k = .int .i64 m ∧ Below w6.heap.size w6 wx) (fun k _ => es.length - (intOf k).toNat)
                      case atStart => exact ⟨u, Nat.le_refl _, by omega, rfl, hb9⟩
                      case round =>
                        obtain ⟨m, hum, hm, rfl, hbm⟩ := hrel
                        by_cases hlt3 : m < es.length
                        · have hmf : m + 1 < fs.length := by have := hff.out; omega
                          obtain ⟨zs2, hz, hzl, hz0', hz1'⟩ := hint.out m hlt3
                          obtain ⟨g1', o1', eg, ev1⟩ := hf6 (m + 1) hmf
                          simp only [Option.some.injEq, Addr.mk.injEq, and_true] at eg
                          obtain ⟨rfl, rfl⟩ := eg
                          obtain ⟨g2, o2, rfl, ev2⟩ := he7 m hlt3
                          rw [heq3.out m hum hlt3] at ev1
                          obtain ⟨⟨p, cp, cr, cad, clen, ccap⟩, hq⟩ : ∃ q, es.getD m (0, cr0) = q := ⟨_, rfl⟩
                          rw [hq] at hz hzl hz0' hz1' ev1 ev2
                          dsimp only at hz hzl hz0' hz1' ev1 ev2
                          clear hq
                          obtain ⟨b0, b1, b2, b3, b4, b5, b6⟩ := ev2.below hbm
                          have i1 : (0 : Int) ≤ (m : Int) := by omega
                          have i2 : (m : Int) < (es.length : Int) := by omega
                          have i3 : (m : Int) + 1 < (fs.length : Int) := by omega
                          have i4 : (0 : Int) ≤ (m : Int) + 1 := by omega
                          have ev1r : EvAt (wr.alloc (.cells #[.int .i64 r, .int .i64 0, .int .i8 2, .int .i64 (p + 1), .int .i64 0, .string ⟨#[]⟩, .slice cad clen ccap] 63)) g1 (o1 + (m + 1) * 7) r (p + 1) cad clen ccap := (ev1.below hbm).below ((Below.refl _ _).alloc (Nat.le_refl _) _)
                          have hzr : Ints (wr.alloc (.cells #[.int .i64 r, .int .i64 0, .int .i8 2, .int .i64 (p + 1), .int .i64 0, .string ⟨#[]⟩, .slice cad clen ccap] 63)).drew cad clen zs2 := ((hz.below hbm).below ((Below.refl _ _).alloc (Nat.le_refl _) _)).below (Below.drew (Below.refl _ _))
                          have ebox : EvAt (wr.alloc (.cells #[.int .i64 r, .int .i64 0, .int .i8 2, .int .i64 (p + 1), .int .i64 0, .string ⟨#[]⟩, .slice cad clen ccap] 63)) wr.heap.size 0 r (p + 1) cad clen ccap := ⟨by simp [go_sem], by simp [go_sem], by simp [go_sem], by simp [go_sem], by simp [go_sem], by simp [go_sem], by simp [go_sem]⟩
                          have hwrap : IntKind.i64.wrap ((m : Int) + 1) = (m : Int) + 1 := wrap_small _ (by omega) (by omega)
                          have hnat : ((m : Int) + 1).toNat = m + 1 := by omega
                          have ev1d := ev1r.below (Below.drew (Below.refl _ _))
                          have eboxd := ebox.below (Below.drew (Below.refl _ _))
                          clear ev1 ev2 hz
                          go_wp2_with fail
                          obtain ⟨a0, a1, a2, a3, a4, a5, a6⟩ := ev1r
                          go_region_held3 (fun w' => (w'.cell? ⟨g1, o1 + (m + 1) * 7, none⟩ = some (.int .i64 r) ∧ w'.cell? ⟨g1, o1 + (m + 1) * 7 + 1, none⟩ = some (.int .i64 0) ∧ w'.cell? ⟨g1, o1 + (m + 1) * 7 + 2, none⟩ = some (.int .i8 2) ∧ w'.cell? ⟨g1, o1 + (m + 1) * 7 + 3, none⟩ = some (.int .i64 (p + 1)) ∧ w'.cell? ⟨g1, o1 + (m + 1) * 7 + 4, none⟩ = some (.int .i64 0) ∧ w'.cell? ⟨g1, o1 + (m + 1) * 7 + 5, none⟩ = some (.string ⟨#[]⟩) ∧ w'.cell? ⟨g1, o1 + (m + 1) * 7 + 6, none⟩ = some (.slice cad clen ccap)) ∧ (w'.cell? ⟨wr.heap.size, 0, none⟩ = some (.int .i64 r) ∧ w'.cell? ⟨wr.heap.size, 0 + 1, none⟩ = some (.int .i64 0) ∧ w'.cell? ⟨wr.heap.size, 0 + 2, none⟩ = some (.int .i8 2) ∧ w'.cell? ⟨wr.heap.size, 0 + 3, none⟩ = some (.int .i64 (p + 1)) ∧ w'.cell? ⟨wr.heap.size, 0 + 4, none⟩ = some (.int .i64 0) ∧ w'.cell? ⟨wr.heap.size, 0 + 5, none⟩ = some (.string ⟨#[]⟩) ∧ w'.cell? ⟨wr.heap.size, 0 + 6, none⟩ = some (.slice cad clen ccap))) (first | assumption | go_keep)
                            (first | (go_at_call 23; refine (sameEvent_any r (p + 1) ⟨#[]⟩ cad cad clen ccap ccap zs2 _ hzr hzr rfl hzl).mono ?_; rintro e w10 ⟨rfl, hb10⟩; have hS := And.intro (ev1d.below hb10).conj (eboxd.below hb10).conj))
                          have hb11 : Below w6.heap.size w6 w10 := (hbm.alloc hbm.size _).drew.trans (hb10.mono (by simp; exact Nat.le_succ_of_le hbm.size))
                          go_wp2_with fail
                          go_roundw
                          case rel => exact ⟨m + 1, by omega, by omega, by go_num, hb11⟩
                          case measure => simp [intOf]; omega
                        · go_wp2_with fail
                          go_ret
                          exact ⟨rfl, hbw7.trans (hbm.mono hbw7.size)⟩

end Go.Proofs.Qxb6613846a
