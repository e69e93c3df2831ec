import Derived.Test.Qxb6613846aFmtNew
import Derived.WalkKit
import Derived.ProofKit
import Derived.OpenShut
import Derived.ShutString
import Derived.ChangeOld
import Derived.Below
import Derived.Deep.Slices
import Derived.Deep.Strs
import Derived.Lib.SmallJoins
namespace Go.Proofs.Qxb6613846aFmt
open Go.ChangeShapes Go.WideShapes Go.ChangeAt Go.RowKit
open Go.Joins (open_agg3)
set_option linter.unusedVariables false

theorem cells9 : Tryf.prog.cellsOf 9 = 1 := by kernel_rfl
theorem cells3 : Tryf.prog.cellsOf 3 = 1 := by kernel_rfl
theorem cells4 : Tryf.prog.cellsOf 4 = 1 := by kernel_rfl
theorem cells22 : Tryf.prog.cellsOf 22 = 1 := by kernel_rfl
theorem cells23 : Tryf.prog.cellsOf 23 = 1 := by kernel_rfl
theorem cells50 : Tryf.prog.cellsOf 50 = 3 := by kernel_rfl
theorem cells27 : Tryf.prog.cellsOf 27 = 3 := by kernel_rfl
theorem cells25 : Tryf.prog.cellsOf 25 = 7 := by kernel_rfl

theorem plain_of {w : World} {a : Addr} {v : Value} (z : w.cell? (a.add 0) = some v) : ∃ b off, a = ⟨b, off, none⟩ := by
  obtain ⟨b, off, spot⟩ := a
  have hspot : spot = none := by simpa [Addr.add] using World.cell?_spot z
  subst hspot
  exact ⟨b, off, rfl⟩

set_option maxRecDepth 100000 in
theorem open_strs {H : Type} {enc : TypeId × Value → H} {w : World} {held : Bool} {n : Nat} {cs : List Value} {y : DataW H × List MemPlace}
    (h : DataW.trod enc Tryf.prog w 0 (fun _ => true) held n 28 cs = some y) : ∃ ad len cap S, cs = [.slice ad len cap] ∧ len ≤ maxLen ∧ Strs w ad len S ∧ ∀ i, i < len → (S i).size ≤ maxLen := by
  rcases Go.Deep.open_slice1 Tryf.underlying28 cells9 h with ⟨hcs, _⟩ | ⟨a, l, c, m, n, V, D, Pl, hcs, _, hlc, hcm, hmm, _, hx⟩
  · exact ⟨none, 0, 0, fun _ => ⟨#[]⟩, hcs, Nat.zero_le _, ⟨fun i hi => absurd hi (Nat.not_lt_zero _)⟩, fun i hi => absurd hi (Nat.not_lt_zero _)⟩
  · simp only [if_true] at hmm
    subst hmm
    have each : ∀ i, i < m → ∃ s : ByteArray, V i = .string s ∧ s.size ≤ maxLen := fun i hi => by
      obtain ⟨s, e, _, hs⟩ := DataW.trod_string Tryf.underlying9 (hx i hi).2
      simp at e
      exact ⟨s, e, hs⟩
    obtain ⟨S, hS⟩ := Go.Deep.choose_lt each
    refine ⟨some a, l, m, S, hcs, Nat.le_trans hlc hcm, ⟨fun i hi => ?_⟩, fun i hi => (hS i (by omega)).2⟩
    obtain ⟨c0, t0⟩ := hx i (by omega)
    obtain ⟨b, off, rfl⟩ := plain_of (hx 0 (by omega)).1
    rw [Go.WideShapes.add_plain, (hS i (by omega)).1] at c0
    exact ⟨b, off, rfl, c0⟩

set_option maxRecDepth 100000 in
theorem open_is {H : Type} {enc : TypeId × Value → H} {w : World} {held : Bool} {n : Nat} {cs : List Value} {y : DataW H × List MemPlace}
    (h : DataW.trod enc Tryf.prog w 0 (fun _ => true) held n 23 cs = some y) : ∃ ad len cap zs, cs = [.slice ad len cap] ∧ len ≤ maxLen ∧ Ints w ad len zs := by
  rcases open_ints Tryf.underlying23 Tryf.underlying3 cells3 h with ⟨hcs, _⟩ | ⟨x, l, c, zs, hcs, _, hl, hm, hz, _, hcell, hwz⟩
  · exact ⟨none, 0, 0, [], hcs, Nat.zero_le _, rfl, fun i hi => absurd hi (Nat.not_lt_zero _)⟩
  · refine ⟨some x, l, c, zs.take l, hcs, Nat.le_trans hl hm, ⟨?_, fun i hi => ?_⟩⟩
    · simp at hz; rw [List.length_take]; omega
    · simp at hz
      have h0 := hcell i (by omega)
      obtain ⟨b, off, rfl⟩ := plain_of (hcell 0 (by omega))
      rw [Go.WideShapes.add_plain] at h0
      refine ⟨b, off, rfl, ?_⟩
      have e : (zs.take l).getD i 0 = zs.getD i 0 := by simp [List.getD_eq_getElem?_getD, hi]
      rw [e]; exact h0

set_option maxRecDepth 100000 in
theorem open_chs {H : Type} {enc : TypeId × Value → H} {w : World} {held : Bool} {n : Nat} {cs : List Value} {y : DataW H × List MemPlace}
    (h : DataW.trod enc Tryf.prog w 0 (fun _ => true) held n 22 cs = some y) : ∃ ad len cap P R V, cs = [.slice ad len cap] ∧ len ≤ maxLen ∧ Chs w ad len P R V ∧ ∀ i, i < len → (V i).size ≤ maxLen := by
  rcases Go.Deep.open_slice Tryf.underlying22 h with ⟨hcs, _⟩ | ⟨a, l, c, m, n, D, Pl, hcs, _, hlc, hcm, hmm, _, hx⟩
  · exact ⟨none, 0, 0, fun _ => 0, fun _ => 0, fun _ => ⟨#[]⟩, hcs, Nat.zero_le _, ⟨fun i hi => absurd hi (Nat.not_lt_zero _)⟩, fun i hi => absurd hi (Nat.not_lt_zero _)⟩
  · simp only [if_true] at hmm
    subst hmm
    have each : ∀ i, i < m → ∃ q : Int × Int × ByteArray, w.cell? (a.add (i * 3)) = some (.int .i64 q.1) ∧ w.cell? (a.add (i * 3 + 1)) = some (.int .i64 q.2.1) ∧ w.cell? (a.add (i * 3 + 2)) = some (.string q.2.2) ∧ q.2.2.size ≤ maxLen := fun i hi => by
      obtain ⟨cs', h1, h2⟩ := hx i hi
      rw [cells50] at h1
      obtain ⟨_, hlen, hcell⟩ := World.cells?_some h1
      obtain ⟨y0, y1, y2, k, _, _, g0, g1, g2⟩ := Go.Deep.trod_struct3 Tryf.underlying50 h2
      match cs', hlen with
      | [v0, v1, v2], _ =>
        simp [cells3, cells9] at g0 g1 g2
        obtain ⟨x0, e0, _, _⟩ := DataW.trod_int Tryf.underlying3 g0
        obtain ⟨x1, e1, _, _⟩ := DataW.trod_int Tryf.underlying3 g1
        obtain ⟨s, e2, _, hs⟩ := DataW.trod_string Tryf.underlying9 g2
        simp at e0 e1 e2
        subst e0 e1 e2
        have t0 := hcell 0 (by omega)
        have t1 := hcell 1 (by omega)
        have t2 := hcell 2 (by omega)
        rw [Go.Deep.add_add] at t0 t1 t2
        exact ⟨(x0, x1, s), by simpa using t0, by simpa using t1, by simpa using t2, hs⟩
    obtain ⟨q, hq⟩ := Go.Deep.choose_lt each
    refine ⟨some a, l, m, fun i => (q i).1, fun i => (q i).2.1, fun i => (q i).2.2, hcs, Nat.le_trans hlc hcm, ⟨fun i hi => ?_⟩, fun i hi => (hq i (by omega)).2.2.2⟩
    obtain ⟨c0, c1, c2, _⟩ := hq i (by omega)
    obtain ⟨b, off, rfl⟩ := plain_of (by simpa using (hq 0 (by omega)).1)
    rw [Go.WideShapes.add_plain] at c0 c1 c2
    exact ⟨b, off, rfl, c0, by rw [Nat.add_assoc]; exact c1, by rw [Nat.add_assoc]; exact c2⟩

/-- A point that came in by value. -/
theorem open_point {H : Type} {enc : TypeId × Value → H} {w : World} {r : Reach} {b0 base : Nat} {spare : Nat → Bool} {held : Bool} {v : Value} {d : DataW H} {p : List MemPlace}
    (hv : Value.okWide Tryf.prog w r b0 27 v) (h : DataW.Trod enc Tryf.prog w base spare held 27 v d p) : ∃ (a : Bool) (x y : Int), v = .agg #[.bool a, .int .i64 x, .int .i64 y] := by
  obtain ⟨c0, c1, c2, y0, y1, y2, m, rfl, rfl, rfl, hy0, hy1, hy2⟩ := open_agg3 Tryf.underlying27 (by kernel_rfl) cells27 hv h
  obtain ⟨a, e0, _⟩ := DataW.trod_bool Tryf.underlying4 hy0
  obtain ⟨x, e1, _, _⟩ := DataW.trod_int Tryf.underlying3 hy1
  obtain ⟨y, e2, _, _⟩ := DataW.trod_int Tryf.underlying3 hy2
  simp at e0 e1 e2
  subst e0 e1 e2
  exact ⟨a, x, y, rfl⟩

theorem array7 {xs : Array Value} (h : xs.size = 7) : ∃ a b c d e f g, xs = #[a, b, c, d, e, f, g] := by
  obtain ⟨l⟩ := xs
  match l, h with
  | [a, b, c, d, e, f, g], _ => exact ⟨a, b, c, d, e, f, g, rfl⟩

set_option maxRecDepth 100000 in
/-- A script that came in by value. -/
theorem open_scr {H : Type} {enc : TypeId × Value → H} {w : World} {r : Reach} {b0 : Nat} {held : Bool} {v : Value} {d : DataW H} {p : List MemPlace}
    (hv : Value.okWide Tryf.prog w r b0 25 v) (h : DataW.Trod enc Tryf.prog w 0 (fun _ => true) held 25 v d p) :
    ∃ (n u : ByteArray) (ca : Option Addr) (cl cc : Nat) (oa : Option Addr) (ol oc : Nat) (nx fl : Int) (rs : Bool) (P R : Nat → Int) (V : Nat → ByteArray) (zs : List Int),
      v = .agg #[.string n, .string u, .slice ca cl cc, .slice oa ol oc, .int .i64 nx, .int .i64 fl, .bool rs] ∧ Chs w ca cl P R V ∧ (∀ i, i < cl → (V i).size ≤ maxLen) ∧ Ints w oa ol zs ∧ cl ≤ maxLen ∧ ol ≤ maxLen ∧ n.size ≤ maxLen ∧ u.size ≤ maxLen := by
  obtain ⟨cs, rfl, hsz⟩ := okWide_struct Tryf.underlying25 hv
  obtain ⟨v0, v1, v2, v3, v4, v5, v6, rfl⟩ := array7 (hsz.trans cells25)
  obtain ⟨fuel, hf⟩ := h
  obtain ⟨xs, k, _, _, hl, hlen, hfs⟩ := DataW.trod_struct Tryf.underlying25 hf
  match xs, hlen with
  | [y0, y1, y2, y3, y4, y5, y6], _ =>
    have g0 := hfs 0 _ rfl
    have g1 := hfs 1 _ rfl
    have g2 := hfs 2 _ rfl
    have g3 := hfs 3 _ rfl
    have g4 := hfs 4 _ rfl
    have g5 := hfs 5 _ rfl
    have g6 := hfs 6 _ rfl
    simp [Value.cells, cells9, cells22, cells23, cells3, cells4] at g0 g1 g2 g3 g4 g5 g6
    obtain ⟨n, e0, _, hn⟩ := DataW.trod_string Tryf.underlying9 g0
    obtain ⟨u, e1, _, hu⟩ := DataW.trod_string Tryf.underlying9 g1
    obtain ⟨ca, cl, cc, P, R, V, e2, hcl, hc, hV⟩ := open_chs g2
    obtain ⟨oa, ol, oc, zs, e3, hol, hi⟩ := open_is g3
    obtain ⟨nx, e4, _, _⟩ := DataW.trod_int Tryf.underlying3 g4
    obtain ⟨fl, e5, _, _⟩ := DataW.trod_int Tryf.underlying3 g5
    obtain ⟨rs, e6, _⟩ := DataW.trod_bool Tryf.underlying4 g6
    simp at e0 e1 e2 e3 e4 e5 e6
    subst e0 e1 e2 e3 e4 e5 e6
    exact ⟨n, u, ca, cl, cc, oa, ol, oc, nx, fl, rs, P, R, V, zs, rfl, hc, hV, hi, hcl, hol, hn, hu⟩

end Go.Proofs.Qxb6613846aFmt
