import Derived.Test.Qxb6605559aModsV
import Derived.ProofKit
import Derived.OpenShut
import Derived.Lib.SmallJoins
import Derived.Deep.Slices
namespace Go.Proofs.Qxb6605559aMods
open Go.ChangeShapes Go.WideShapes Go.ChangeAt Go.RowKit Go.Joins Go.Deep
set_option linter.unusedVariables false

theorem cells65 : Trym.prog.cellsOf 65 = 3 := by kernel_rfl
theorem cells28 : Trym.prog.cellsOf 28 = 13 := by kernel_rfl
theorem cells25 : Trym.prog.cellsOf 25 = 7 := by kernel_rfl
theorem cells22 : Trym.prog.cellsOf 22 = 1 := by kernel_rfl
theorem cells4 : Trym.prog.cellsOf 4 = 1 := by kernel_rfl
theorem cells23 : Trym.prog.cellsOf 23 = 1 := by kernel_rfl

/-- An entry's three cells. -/
theorem entry_of {H : Type} {enc : TypeId × Value → H} {w : World} {base : Nat} {sp : Nat → Bool} {held : Bool} {n : Nat} {cs : List Value} {x : DataW H × List MemPlace} (h : DataW.trod enc Trym.prog w base sp held n 65 cs = some x) :
    ∃ a b c, cs = [.int .u32 a, .int .u8 b, .int .u32 c] ∧ (Lit.int .u32 a).wf = true ∧ (Lit.int .u8 b).wf = true ∧ (Lit.int .u32 c).wf = true := by
  obtain ⟨xs, m, _, _, hl, hlen, hf⟩ := DataW.trod_struct Trym.underlying65 h
  rw [cells65] at hl
  match cs, hl with
  | [c0, c1, c2], _ =>
    have f0 : DataW.trod enc Trym.prog w base sp held m 26 (([c0, c1, c2].drop 0).take (Trym.prog.cellsOf 26)) = xs[0]? := hf 0 _ rfl
    have f1 : DataW.trod enc Trym.prog w base sp held m 5 (([c0, c1, c2].drop 1).take (Trym.prog.cellsOf 5)) = xs[1]? := hf 1 _ rfl
    have f2 : DataW.trod enc Trym.prog w base sp held m 26 (([c0, c1, c2].drop 2).take (Trym.prog.cellsOf 26)) = xs[2]? := hf 2 _ rfl
    match xs, hlen with
    | [y0, y1, y2], _ =>
      simp only [cells5, cells26, List.drop_zero, List.drop_succ_cons, List.take_succ_cons, List.take_zero, List.getElem?_cons_zero, List.getElem?_cons_succ] at f0 f1 f2
      obtain ⟨a0, e0, _, w0⟩ := DataW.trod_int Trym.underlying26 f0
      obtain ⟨a1, e1, _, w1⟩ := DataW.trod_int Trym.underlying5 f1
      obtain ⟨a2, e2, _, w2⟩ := DataW.trod_int Trym.underlying26 f2
      simp at e0 e1 e2
      subst e0 e1 e2
      exact ⟨a0, a1, a2, rfl, w0, w1, w2⟩

/-- The seven counts. -/
theorem counts_of {H : Type} {enc : TypeId × Value → H} {w : World} {base : Nat} {sp : Nat → Bool} {held : Bool} {n : Nat} {c0 c1 c2 c3 c4 c5 c6 : Value} {x : DataW H × List MemPlace} (h : DataW.trod enc Trym.prog w base sp held n 25 [c0, c1, c2, c3, c4, c5, c6] = some x) :
    ∃ r t m u p l e, c0 = .int .u64 r ∧ c1 = .int .u64 t ∧ c2 = .int .u64 m ∧ c3 = .int .u64 u ∧ c4 = .int .u64 p ∧ c5 = .int .u64 l ∧ c6 = .int .u64 e ∧ (Lit.int .u64 l).wf = true := by
  obtain ⟨xs, m, _, _, hl, hlen, hf⟩ := DataW.trod_struct Trym.underlying25 h
  have f0 : DataW.trod enc Trym.prog w base sp held m 23 (([c0, c1, c2, c3, c4, c5, c6].drop 0).take (Trym.prog.cellsOf 23)) = xs[0]? := hf 0 _ rfl
  have f1 : DataW.trod enc Trym.prog w base sp held m 23 (([c0, c1, c2, c3, c4, c5, c6].drop 1).take (Trym.prog.cellsOf 23)) = xs[1]? := hf 1 _ rfl
  have f2 : DataW.trod enc Trym.prog w base sp held m 23 (([c0, c1, c2, c3, c4, c5, c6].drop 2).take (Trym.prog.cellsOf 23)) = xs[2]? := hf 2 _ rfl
  have f3 : DataW.trod enc Trym.prog w base sp held m 23 (([c0, c1, c2, c3, c4, c5, c6].drop 3).take (Trym.prog.cellsOf 23)) = xs[3]? := hf 3 _ rfl
  have f4 : DataW.trod enc Trym.prog w base sp held m 23 (([c0, c1, c2, c3, c4, c5, c6].drop 4).take (Trym.prog.cellsOf 23)) = xs[4]? := hf 4 _ rfl
  have f5 : DataW.trod enc Trym.prog w base sp held m 23 (([c0, c1, c2, c3, c4, c5, c6].drop 5).take (Trym.prog.cellsOf 23)) = xs[5]? := hf 5 _ rfl
  have f6 : DataW.trod enc Trym.prog w base sp held m 23 (([c0, c1, c2, c3, c4, c5, c6].drop 6).take (Trym.prog.cellsOf 23)) = xs[6]? := hf 6 _ rfl
  match xs, hlen with
  | [y0, y1, y2, y3, y4, y5, y6], _ =>
    simp only [cells23, List.drop_zero, List.drop_succ_cons, List.take_succ_cons, List.take_zero, List.getElem?_cons_zero, List.getElem?_cons_succ] at f0 f1 f2 f3 f4 f5 f6
    obtain ⟨a0, e0, _, w0⟩ := DataW.trod_int Trym.underlying23 f0
    obtain ⟨a1, e1, _, w1⟩ := DataW.trod_int Trym.underlying23 f1
    obtain ⟨a2, e2, _, w2⟩ := DataW.trod_int Trym.underlying23 f2
    obtain ⟨a3, e3, _, w3⟩ := DataW.trod_int Trym.underlying23 f3
    obtain ⟨a4, e4, _, w4⟩ := DataW.trod_int Trym.underlying23 f4
    obtain ⟨a5, e5, _, w5⟩ := DataW.trod_int Trym.underlying23 f5
    obtain ⟨a6, e6, _, w6⟩ := DataW.trod_int Trym.underlying23 f6
    simp at e0 e1 e2 e3 e4 e5 e6
    exact ⟨a0, a1, a2, a3, a4, a5, a6, e0, e1, e2, e3, e4, e5, e6, w5⟩

theorem entries_of {H : Type} {enc : TypeId × Value → H} {w : World} {base : Nat} {sp : Nat → Bool} {held : Bool} {fuel : Nat} {c : Value} {x : DataW H × List MemPlace} (h : DataW.trod enc Trym.prog w base sp held fuel 22 [c] = some x) :
    ∃ (a : Option Addr) (len cap : Nat) (en eh eq : Nat → Int), c = .slice a len cap ∧ len ≤ maxLen ∧ SrcE w a len cap en eh eq ∧ ∀ i, i < len → (Lit.int .u32 (en i)).wf = true ∧ (Lit.int .u8 (eh i)).wf = true ∧ (Lit.int .u32 (eq i)).wf = true := by
  rcases open_slice Trym.underlying22 h with ⟨e, _⟩ | ⟨ad, len, cap, m, n, D, Pl, e, hb, hl, hm, hmm, _, hx⟩
  · simp at e
    exact ⟨none, 0, 0, fun _ => 0, fun _ => 0, fun _ => 0, e, Nat.zero_le _, Or.inl ⟨rfl, rfl, rfl⟩, fun i hi => by omega⟩
  · simp at e
    by_cases h0 : len = 0
    · subst h0
      exact ⟨some ad, 0, cap, fun _ => 0, fun _ => 0, fun _ => 0, e, Nat.zero_le _, Or.inr (Or.inl ⟨rfl, ad, rfl⟩), fun i hi => by omega⟩
    · have hle : len ≤ m := by rw [hmm]; split <;> omega
      have hg : ∀ i, i < len → ∃ g : Int × Int × Int, w.cells? base (ad.add (i * 3)) 3 = some [.int .u32 g.1, .int .u8 g.2.1, .int .u32 g.2.2] ∧ (Lit.int .u32 g.1).wf = true ∧ (Lit.int .u8 g.2.1).wf = true ∧ (Lit.int .u32 g.2.2).wf = true := by
        intro i hi
        obtain ⟨cs, h1, h2⟩ := hx i (by omega)
        rw [cells65] at h1
        obtain ⟨a, b, c, rfl, a1, a2, a3⟩ := entry_of h2
        exact ⟨(a, b, c), h1, a1, a2, a3⟩
      obtain ⟨G, hG⟩ := choose_lt (α := Int × Int × Int) (p := fun i g => w.cells? base (ad.add (i * 3)) 3 = some [.int .u32 g.1, .int .u8 g.2.1, .int .u32 g.2.2] ∧ (Lit.int .u32 g.1).wf = true ∧ (Lit.int .u8 g.2.1).wf = true ∧ (Lit.int .u32 g.2.2).wf = true) hg
      obtain ⟨b, off, spot⟩ := ad
      have c00 := (World.cells?_some (hG 0 (by omega)).1).2.2 0 (by omega)
      have hspot : spot = none := by
        have : w.cell? ⟨b, off, spot⟩ = some (.int .u32 (G 0).1) := by simpa [Addr.add] using c00
        exact World.cell?_spot this
      subst hspot
      have cc : ∀ i, i < len → ∀ j, j < 3 → w.cell? ⟨b, off + i * 3 + j, none⟩ = [Value.int .u32 (G i).1, .int .u8 (G i).2.1, .int .u32 (G i).2.2][j]? := by
        intro i hi j hj
        have := (World.cells?_some (hG i hi).1).2.2 j hj
        rw [add_plain, add_plain] at this
        exact this
      refine ⟨some ⟨b, off, none⟩, len, cap, fun i => (G i).1, fun i => (G i).2.1, fun i => (G i).2.2, e, by omega, Or.inr (Or.inr ⟨b, off, rfl, ?_, ?_⟩), fun i hi => (hG i hi).2⟩
      · exact World.block_lt_of_cell? w ⟨b, off + 0 * 3 + 0, none⟩ (cc 0 (by omega) 0 (by omega))
      · intro i hi
        exact ⟨cc i hi 0 (by omega), cc i hi 1 (by omega), cc i hi 2 (by omega)⟩

/-- A State that came in. -/
theorem open_state {H : Type} {enc : TypeId × Value → H} {w : World} {base b0 : Nat} {r0 : Reach} {sp : Nat → Bool} {held : Bool} {v : Value} {d : DataW H} {ps : List MemPlace} (hv : Value.okWide Trym.prog w r0 b0 28 v) (h : DataW.Trod enc Trym.prog w base sp held 28 v d ps) :
    ∃ (a : Option Addr) (len cap : Nat) (en eh eq : Nat → Int) (nm : Bool) (r t m u p l e cn ch cs : Int) (hc : Bool), v = stV a len cap nm r t m u p l e cn ch cs hc ∧ len ≤ maxLen ∧ SrcE w a len cap en eh eq ∧
      (∀ i, i < len → (Lit.int .u32 (en i)).wf = true ∧ (Lit.int .u8 (eh i)).wf = true ∧ (Lit.int .u32 (eq i)).wf = true) ∧ (Lit.int .u64 l).wf = true ∧ (Lit.int .u32 cn).wf = true ∧ (Lit.int .u8 ch).wf = true ∧ (Lit.int .u32 cs).wf = true := by
  obtain ⟨cs, rfl, hsz⟩ := okWide_struct Trym.underlying28 hv
  rw [cells28] at hsz
  obtain ⟨L⟩ := cs
  match L, hsz with
  | [c0, c1, c2, c3, c4, c5, c6, c7, c8, c9, c10, c11, c12], _ =>
    obtain ⟨fuel, hf0⟩ := h
    obtain ⟨xs, m, _, _, hl, hlen, hf⟩ := DataW.trod_struct Trym.underlying28 hf0
    have f0 : DataW.trod enc Trym.prog w base sp held m 22 (([c0, c1, c2, c3, c4, c5, c6, c7, c8, c9, c10, c11, c12].drop 0).take (Trym.prog.cellsOf 22)) = xs[0]? := hf 0 _ rfl
    have f1 : DataW.trod enc Trym.prog w base sp held m 4 (([c0, c1, c2, c3, c4, c5, c6, c7, c8, c9, c10, c11, c12].drop 1).take (Trym.prog.cellsOf 4)) = xs[1]? := hf 1 _ rfl
    have f2 : DataW.trod enc Trym.prog w base sp held m 25 (([c0, c1, c2, c3, c4, c5, c6, c7, c8, c9, c10, c11, c12].drop 2).take (Trym.prog.cellsOf 25)) = xs[2]? := hf 2 _ rfl
    have f3 : DataW.trod enc Trym.prog w base sp held m 26 (([c0, c1, c2, c3, c4, c5, c6, c7, c8, c9, c10, c11, c12].drop 9).take (Trym.prog.cellsOf 26)) = xs[3]? := hf 3 _ rfl
    have f4 : DataW.trod enc Trym.prog w base sp held m 5 (([c0, c1, c2, c3, c4, c5, c6, c7, c8, c9, c10, c11, c12].drop 10).take (Trym.prog.cellsOf 5)) = xs[4]? := hf 4 _ rfl
    have f5 : DataW.trod enc Trym.prog w base sp held m 26 (([c0, c1, c2, c3, c4, c5, c6, c7, c8, c9, c10, c11, c12].drop 11).take (Trym.prog.cellsOf 26)) = xs[5]? := hf 5 _ rfl
    have f6 : DataW.trod enc Trym.prog w base sp held m 4 (([c0, c1, c2, c3, c4, c5, c6, c7, c8, c9, c10, c11, c12].drop 12).take (Trym.prog.cellsOf 4)) = xs[6]? := hf 6 _ rfl
    match xs, hlen with
    | [y0, y1, y2, y3, y4, y5, y6], _ =>
      simp only [cells22, cells4, cells25, cells26, cells5, List.drop_zero, List.drop_succ_cons, List.take_succ_cons, List.take_zero, List.getElem?_cons_zero, List.getElem?_cons_succ] at f0 f1 f2 f3 f4 f5 f6
      obtain ⟨a, len, cap, en, eh, eq, rfl, hm, hsrc, hwf⟩ := entries_of f0
      obtain ⟨nm, e1, _⟩ := DataW.trod_bool Trym.underlying4 f1
      obtain ⟨r, t, m, u, p, l, e, rfl, rfl, rfl, rfl, rfl, rfl, rfl, wl⟩ := counts_of f2
      obtain ⟨cn, e3, _, w3⟩ := DataW.trod_int Trym.underlying26 f3
      obtain ⟨ch, e4, _, w4⟩ := DataW.trod_int Trym.underlying5 f4
      obtain ⟨cs, e5, _, w5⟩ := DataW.trod_int Trym.underlying26 f5
      obtain ⟨hc, e6, _⟩ := DataW.trod_bool Trym.underlying4 f6
      simp at e1 e3 e4 e5 e6
      subst e1 e3 e4 e5 e6
      exact ⟨a, len, cap, en, eh, eq, nm, r, t, m, u, p, l, e, cn, ch, cs, hc, rfl, hm, hsrc, hwf, wl, w3, w4, w5⟩

end Go.Proofs.Qxb6605559aMods
