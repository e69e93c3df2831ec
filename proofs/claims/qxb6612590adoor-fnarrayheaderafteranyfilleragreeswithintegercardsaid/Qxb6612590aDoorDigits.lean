import Derived.Test.Qxb6612590aDoorAppI
namespace Go.Proofs.Qxb6612590aDoor
open Go.RowKit
set_option linter.unusedSimpArgs false
set_option linter.unusedVariables false

/-- The Writer's state over a change of the row's spare alone. -/
theorem BW.spare {Y : List (Nat × Obj)} {B : Nat} {w w' : World} {q kb bb : Nat} {o : Option Nat} {xs S : List UInt8} (h : BW Y B w q kb bb o xs S) (hk : Kept kb w w') (hlow : ∀ j v, j < xs.length → w.cell? ⟨kb, j, none⟩ = some v → w'.cell? ⟨kb, j, none⟩ = some v) (hthr : ∀ b m, w.there kb b m → w'.there kb b m) :
    BW Y B w' q kb bb o xs S ∧ Below B w w' := by
  have hql := heap_lt h.blk
  obtain ⟨hbl, hol⟩ := h.buf.lt
  refine ⟨⟨(hk.block q hql h.ne1).trans h.blk, h.le, fun j v hj => ?_, hthr _ _ h.thr, bf_block h.buf (hk.block bb hbl (Ne.symm h.ne3)) (fun g e => hk.block g (hol g e) (fun e2 => h.ne5 (by rw [e, e2]))), h.ne1, h.ne2, h.ne3, h.ne4, h.ne5, Nat.lt_of_lt_of_le h.kbl hk.size, h.b1, h.b2, h.b3, h.b4, Nat.le_trans h.bw hk.size, fun p hp => by
    obtain ⟨e1, n1, n2, n3, n4, n5⟩ := h.bys p hp
    exact ⟨(hk.block p.1 n5 n2).trans e1, n1, n2, n3, n4, Nat.lt_of_lt_of_le n5 hk.size⟩⟩, hk.low h.b2 h.bw⟩
  have hl : j < xs.length := by
    have := (List.getElem?_eq_some_iff.1 hj).1
    rwa [byteCells_len] at this
  have := h.rng j v hj
  rw [Nat.zero_add] at this ⊢
  exact hlow j v hl this

/-- What AppendInt has laid goes out by Write. -/
theorem digits_out (Y : List (Nat × Obj)) (B q kb bb off : Nat) (o : Option Nat) (xs S D : List UInt8) (w w' : World) (e : Ending) (h : BW Y B w q kb bb o xs S) (hoff : xs.length < 65536 → off = xs.length) (hA : App w w' kb off (65536 - xs.length) [] D e) (hD : 1 ≤ D.length) (hD2 : D.length ≤ 100) (hlim : S.length + xs.length ≤ 1048576 * 3) :
    ∃ a cap, e = .returned (.slice (some a) D.length cap) ∧ Below B w w' ∧ BW Y B w' q kb bb o xs S ∧ Calls Tryd.prog 29 #[.pointer (some ⟨q, 0, none⟩), .slice (some a) D.length cap] w' fun e w'' => (∃ v, e = .returned v) ∧ Out Y B w'' q kb bb (S ++ xs ++ D) ∧ Below B w' w'' := by
  have hle := h.le
  cases hA with
  | room hr he hk hrng hlow hthr =>
    simp only [List.length_nil, Nat.zero_add, List.nil_append] at hr he hrng
    have ho := hoff (by omega)
    subst ho
    obtain ⟨hb, hbel⟩ := h.spare hk (fun j v hj => hlow j v (Or.inl hj)) hthr
    refine ⟨_, _, he, hbel, hb, ?_⟩
    exact (write_fit Y B q kb bb o xs S D ⟨kb, xs.length, none⟩ D.length _ w' hb rfl hD (by omega) (fun j u hj => by rw [Go.WideShapes.add_plain]; exact hrng j u hj)).mono fun e w'' ⟨he, h1, h2⟩ => ⟨he, ⟨o, xs ++ D, S, h1, by simp⟩, h2⟩
  | grow hg g cap' he hrow hk hlow hthr =>
    simp only [List.length_nil, Nat.zero_add, List.nil_append] at hg he hrow
    obtain ⟨hb, hbel⟩ := h.spare hk (fun j v hj => hlow j v (by
      by_cases hf : xs.length < 65536
      · left; rw [hoff hf]; exact hj
      · omega)) hthr
    obtain ⟨hgB, hgl, hcells⟩ := (⟨hrow⟩ : Row w.heap.size w' g cap' D).parts
    refine ⟨_, _, he, hbel, hb, ?_⟩
    have hql := heap_lt h.blk
    obtain ⟨hbl, hol⟩ := h.buf.lt
    have hkl := h.kbl
    have hcap : D.length ≤ cap' ∧ cap' ≤ maxLen := by
      obtain ⟨_, h0 | ⟨b, c, cur, hv, hB, hbb, hc1, hc2, _⟩⟩ := hrow
      · simp at h0
      · simp only [Value.slice.injEq] at hv
        obtain ⟨_, _, rfl⟩ := hv
        exact ⟨hc1, hc2⟩
    unfold maxLen at hcap
    have hfar : Far w' q kb bb o g 0 D := ⟨fun j u hj => by have := hcells j u hj; rw [Go.WideShapes.add_plain] at this; exact this, by omega, by omega, by omega, fun e => by have := hol g e; omega, hgl⟩
    exact write_over Y B q kb bb g 0 o xs S D D.length cap' w' hb hfar rfl hcap.1 (by omega) (by omega) (by omega) (by omega)

/-- .. where they fit. -/
theorem digits_fit (Y : List (Nat × Obj)) (B q kb bb off : Nat) (o : Option Nat) (xs S D : List UInt8) (w w' : World) (e : Ending) (h : BW Y B w q kb bb o xs S) (hoff : xs.length < 65536 → off = xs.length) (hA : App w w' kb off (65536 - xs.length) [] D e) (hD : 1 ≤ D.length) (hfit : xs.length + D.length ≤ 65536) :
    ∃ a cap, e = .returned (.slice (some a) D.length cap) ∧ Below B w w' ∧ BW Y B w' q kb bb o xs S ∧ Calls Tryd.prog 29 #[.pointer (some ⟨q, 0, none⟩), .slice (some a) D.length cap] w' fun e w'' => (∃ v, e = .returned v) ∧ BW Y B w'' q kb bb o (xs ++ D) S ∧ Below B w' w'' := by
  cases hA with
  | room hr he hk hrng hlow hthr =>
    simp only [List.length_nil, Nat.zero_add, List.nil_append] at hr he hrng
    have ho := hoff (by omega)
    subst ho
    obtain ⟨hb, hbel⟩ := h.spare hk (fun j v hj => hlow j v (Or.inl hj)) hthr
    refine ⟨_, _, he, hbel, hb, ?_⟩
    exact (write_fit Y B q kb bb o xs S D ⟨kb, xs.length, none⟩ D.length _ w' hb rfl hD (by omega) (fun j u hj => by rw [Go.WideShapes.add_plain]; exact hrng j u hj)).mono fun e w'' ⟨he, h1, h2⟩ => ⟨he, h1, h2⟩
  | grow hg g cap' he hrow hk hlow hthr =>
    simp only [List.length_nil, Nat.zero_add] at hg
    omega

end Go.Proofs.Qxb6612590aDoor
