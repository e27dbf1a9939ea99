import Derived.Test.Qxb6601415aModsT
import Derived.OpenShut
import Derived.Deep.Slices
namespace Go.Proofs.Qxb6601415aMods
open Go.RowKit Go.Extern.Stop Go.WideShapes Go.Deep
set_option linter.unusedVariables false
set_option linter.unusedSimpArgs false

theorem cells5 : Trym.prog.cellsOf 5 = 1 := by kernel_rfl
theorem cells3 : Trym.prog.cellsOf 3 = 1 := by kernel_rfl
theorem cells4 : Trym.prog.cellsOf 4 = 1 := by kernel_rfl
theorem cells34 : Trym.prog.cellsOf 34 = 20 := by kernel_rfl
theorem cells49 : Trym.prog.cellsOf 49 = 1 := by kernel_rfl
theorem cells50 : Trym.prog.cellsOf 50 = 21 := by kernel_rfl
theorem cells60 : Trym.prog.cellsOf 60 = 43 := by kernel_rfl
theorem cells77 : Trym.prog.cellsOf 77 = 21 := by kernel_rfl

theorem cell_of_wf {z : Int} (h : (Lit.int .u8 z).wf = true) : ∃ b : UInt8, Value.int .u8 z = cell b := by
  have hz : 0 ≤ z ∧ z ≤ 255 := by
    simp [Lit.wf, IntKind.min, IntKind.max, IntKind.signed, IntKind.bits] at h
    omega
  refine ⟨UInt8.ofNat z.toNat, ?_⟩
  have h1 : (UInt8.ofNat z.toNat).toNat = z.toNat := by
    rw [UInt8.toNat_ofNat']
    omega
  simp only [cell, h1]
  congr 1
  have : (Int.ofNat z.toNat) = z := Int.toNat_of_nonneg hz.1
  exact this.symm

theorem idc_of : ∀ cs : List Value, (∀ v ∈ cs, ∃ b : UInt8, v = cell b) → ∃ l : List UInt8, cs = idc l
  | [], _ => ⟨[], rfl⟩
  | c :: cs, h => by
    obtain ⟨b, rfl⟩ := h c (by simp)
    obtain ⟨l, rfl⟩ := idc_of cs (fun v hv => h v (by simp [hv]))
    exact ⟨b :: l, rfl⟩

theorem cut_at {l b : List Value} {a n : Nat} (h : (l.drop a).take n = b) : l.drop a = b ++ l.drop (a + n) :=
  (List.take_append_drop n (l.drop a)).symm.trans (by rw [h, List.drop_drop])
instance : Inhabited Tr := ⟨⟨[], [], 0, 0, false⟩⟩

section
variable {H : Type} {enc : TypeId × Value → H} {w : World} {base : Nat} {sp : Nat → Bool} {held : Bool}

theorem open_id {fuel : Nat} {cs : List Value} {x : DataW H × List MemPlace} (h : DataW.trod enc Trym.prog w base sp held fuel 34 cs = some x) : ∃ l : List UInt8, l.length = 20 ∧ cs = idc l := by
  obtain ⟨xs, m, _, _, hl, hlen, hx⟩ := DataW.trod_array Trym.underlying34 h
  rw [cells34] at hl
  obtain ⟨l, hl2⟩ := idc_of cs (fun v hv => by
    obtain ⟨i, hi, rfl⟩ := List.mem_iff_getElem.1 hv
    have h1 := hx i (by omega)
    rw [cells5, Nat.mul_one] at h1
    rw [List.getElem?_eq_getElem (by omega)] at h1
    obtain ⟨z, hz, _, hw⟩ := DataW.trod_int Trym.underlying5 h1
    rw [List.drop_eq_getElem_cons hi] at hz
    rw [List.take_succ_cons, List.take_zero] at hz
    rw [(List.cons.inj hz).1]
    exact cell_of_wf hw)
  exact ⟨l, by rw [← hl, hl2, idc_length], hl2⟩

theorem open_wait {fuel : Nat} {cs : List Value} {x : DataW H × List MemPlace} (h : DataW.trod enc Trym.prog w base sp held fuel 77 cs = some x) : ∃ a : List UInt8 × Int, cs = ent a.1 (.int .i64 a.2) ∧ a.1.length = 20 := by
  obtain ⟨xs, m, _, _, hl, hlen, hf⟩ := DataW.trod_struct Trym.underlying77 h
  rw [cells77] at hl
  have f0 : DataW.trod enc Trym.prog w base sp held m 34 ((cs.drop 0).take (Trym.prog.cellsOf 34)) = xs[0]? := hf 0 _ rfl
  have f1 : DataW.trod enc Trym.prog w base sp held m 3 ((cs.drop 20).take (Trym.prog.cellsOf 3)) = xs[1]? := hf 1 _ rfl
  rw [List.getElem?_eq_getElem (by rw [hlen]; decide)] at f0 f1
  rw [cells34] at f0
  rw [cells3] at f1
  obtain ⟨l, hl1, hl2⟩ := open_id f0
  obtain ⟨z, hz, _⟩ := DataW.trod_int Trym.underlying3 f1
  refine ⟨(l, z), ?_, hl1⟩
  rw [List.take_of_length_le (by simp; omega)] at hz
  rw [List.drop_zero] at hl2
  rw [ent, ← hl2, ← hz, List.take_append_drop]

theorem open_tree {fuel : Nat} {cs : List Value} {x : DataW H × List MemPlace} (h : DataW.trod enc Trym.prog w base sp held fuel 60 cs = some x) : ∃ a : Tr, cs = trc a ∧ a.ok := by
  obtain ⟨xs, m, _, _, hl, hlen, hf⟩ := DataW.trod_struct Trym.underlying60 h
  rw [cells60] at hl
  have f0 : DataW.trod enc Trym.prog w base sp held m 34 ((cs.drop 0).take (Trym.prog.cellsOf 34)) = xs[0]? := hf 0 _ rfl
  have f1 : DataW.trod enc Trym.prog w base sp held m 34 ((cs.drop 20).take (Trym.prog.cellsOf 34)) = xs[1]? := hf 1 _ rfl
  have f2 : DataW.trod enc Trym.prog w base sp held m 3 ((cs.drop 40).take (Trym.prog.cellsOf 3)) = xs[2]? := hf 2 _ rfl
  have f3 : DataW.trod enc Trym.prog w base sp held m 3 ((cs.drop 41).take (Trym.prog.cellsOf 3)) = xs[3]? := hf 3 _ rfl
  have f4 : DataW.trod enc Trym.prog w base sp held m 4 ((cs.drop 42).take (Trym.prog.cellsOf 4)) = xs[4]? := hf 4 _ rfl
  rw [List.getElem?_eq_getElem (by rw [hlen]; decide)] at f0 f1 f2 f3 f4
  rw [cells34] at f0 f1
  rw [cells3] at f2 f3
  rw [cells4] at f4
  obtain ⟨l, hl1, hl2⟩ := open_id f0
  obtain ⟨g, hg1, hg2⟩ := open_id f1
  obtain ⟨z, hz, _⟩ := DataW.trod_int Trym.underlying3 f2
  obtain ⟨y, hy, _⟩ := DataW.trod_int Trym.underlying3 f3
  obtain ⟨q, hq, _⟩ := DataW.trod_bool Trym.underlying4 f4
  refine ⟨⟨l, g, z, y, q⟩, ?_, hl1, hg1⟩
  rw [List.drop_zero] at hl2
  have e1 : cs.drop 20 = idc g ++ cs.drop 40 := cut_at hg2
  have e2 : cs.drop 40 = [.int .i64 z] ++ cs.drop 41 := cut_at hz
  have e3 : cs.drop 41 = [.int .i64 y] ++ cs.drop 42 := cut_at hy
  rw [List.take_of_length_le (by simp; omega)] at hq
  have e0 : cs = idc l ++ cs.drop 20 := by rw [← hl2, List.take_append_drop]
  rw [e0, e1, e2, e3, hq]
  simp [trc]

/-- A slice of wide elements that came in. -/
theorem open_wide {A : Type} [Inhabited A] {t e sz : Nat} (ht : Trym.prog.underlying t = some (.slice e)) (hsz : Trym.prog.cellsOf e = sz) (hpos : 0 < sz) (rd : A → List Value) (Q : A → Prop)
    (he : ∀ m cs x, DataW.trod enc Trym.prog w base sp held m e cs = some x → ∃ a, cs = rd a ∧ Q a) {fuel : Nat} {c : Value} {x : DataW H × List MemPlace} (h : DataW.trod enc Trym.prog w base sp held fuel t [c] = some x) :
    ∃ (a : Option Addr) (len cap : Nat) (f : Nat → A), c = .slice a len cap ∧ (∀ i, i < len → Q (f i)) ∧
      ((a = none ∧ len = 0 ∧ cap = 0) ∨ (len = 0 ∧ ∃ x, a = some x) ∨ ∃ b off, a = some ⟨b, off, none⟩ ∧ WRow w b off len sz (fun i => rd (f i))) := by
  rcases open_slice ht h with ⟨e, _⟩ | ⟨ad, len, cap, m, n, D, Pl, e, hb, hl, hm, hmm, _, hx⟩
  · simp at e
    exact ⟨none, 0, 0, fun _ => default, e, fun i hi => absurd hi (by omega), .inl ⟨rfl, rfl, rfl⟩⟩
  · simp at e
    by_cases h0 : len = 0
    · subst h0
      exact ⟨some ad, 0, cap, fun _ => default, e, fun i hi => absurd hi (by omega), .inr (.inl ⟨rfl, ad, rfl⟩)⟩
    · have hle : len ≤ m := by rw [hmm]; split <;> omega
      have hg : ∀ i, i < len → ∃ g : A, w.cells? base (ad.add (i * sz)) sz = some (rd g) ∧ Q g := by
        intro i hi
        obtain ⟨cs, h1, h2⟩ := hx i (by omega)
        rw [hsz] at h1
        obtain ⟨g, rfl, hq⟩ := he _ _ _ h2
        exact ⟨g, h1, hq⟩
      obtain ⟨G, hG⟩ := choose_lt hg
      obtain ⟨b, off, spot⟩ := ad
      have c00 := World.cells?_some (hG 0 (by omega)).1
      have hspot : spot = none := by
        have h3 := c00.2.2 0 hpos
        rw [List.getElem?_eq_getElem (by omega)] at h3
        have h4 : w.cell? ⟨b, off, spot⟩ = some ((rd (G 0))[0]'(by omega)) := by simpa [Addr.add] using h3
        exact World.cell?_spot h4
      subst hspot
      refine ⟨some ⟨b, off, none⟩, len, cap, G, e, fun i hi => (hG i hi).2, .inr (.inr ⟨b, off, rfl, ?_⟩)⟩
      intro i hi j v hv
      have h3 := World.cells?_some (hG i hi).1
      have hj : j < sz := by
        rw [← h3.2.1]
        exact (List.getElem?_eq_some_iff.1 hv).1
      have h4 := h3.2.2 j hj
      rw [add_plain, add_plain] at h4
      exact h4.trans hv

theorem open_trees {fuel : Nat} {c : Value} {x : DataW H × List MemPlace} (h : DataW.trod enc Trym.prog w base sp held fuel 49 [c] = some x) :
    ∃ (a : Option Addr) (len cap : Nat) (f : Nat → Tr), c = .slice a len cap ∧ TreesW w c len f := by
  obtain ⟨a, len, cap, f, rfl, hq, h⟩ := open_wide (A := Tr) (sz := 43) Trym.underlying49 cells60 (by omega) trc Tr.ok (fun m cs x h => open_tree h) h
  refine ⟨a, len, cap, f, rfl, ?_⟩
  rcases h with ⟨rfl, rfl, rfl⟩ | ⟨rfl, x, rfl⟩ | ⟨b, off, rfl, hr⟩
  · exact .inl ⟨.inl ⟨rfl, rfl⟩, hq⟩
  · exact .inr ⟨rfl, x, cap, rfl⟩
  · exact .inl ⟨.inr ⟨b, off, cap, rfl, hr⟩, hq⟩

structure Bs where
  id : List UInt8
  ta : Option Addr
  tn : Nat
  tc : Nat
  tt : Nat → Tr
instance : Inhabited Bs := ⟨⟨[], none, 0, 0, fun _ => default⟩⟩

theorem open_base {fuel : Nat} {cs : List Value} {x : DataW H × List MemPlace} (h : DataW.trod enc Trym.prog w base sp held fuel 50 cs = some x) : ∃ a : Bs, cs = ent a.id (.slice a.ta a.tn a.tc) ∧ a.id.length = 20 ∧ TreesW w (.slice a.ta a.tn a.tc) a.tn a.tt := by
  obtain ⟨xs, m, _, _, hl, hlen, hf⟩ := DataW.trod_struct Trym.underlying50 h
  rw [cells50] at hl
  have f0 : DataW.trod enc Trym.prog w base sp held m 34 ((cs.drop 0).take (Trym.prog.cellsOf 34)) = xs[0]? := hf 0 _ rfl
  have f1 : DataW.trod enc Trym.prog w base sp held m 49 ((cs.drop 20).take (Trym.prog.cellsOf 49)) = xs[1]? := hf 1 _ rfl
  rw [List.getElem?_eq_getElem (by rw [hlen]; decide)] at f0 f1
  rw [cells34] at f0
  rw [cells49] at f1
  obtain ⟨l, hl1, hl2⟩ := open_id f0
  rw [List.take_of_length_le (by simp; omega)] at f1
  have hd : (cs.drop 20).length = 1 := by simp; omega
  obtain ⟨c, hc⟩ := List.length_eq_one_iff.1 hd
  rw [hc] at f1
  obtain ⟨a, len, cap, f, rfl, ht⟩ := open_trees f1
  refine ⟨⟨l, a, len, cap, f⟩, ?_, hl1, ht⟩
  rw [List.drop_zero] at hl2
  rw [ent, ← hl2, ← hc, List.take_append_drop]

end
end Go.Proofs.Qxb6601415aMods
