import Derived.Test.Qxb6605559aModsRows
import Derived.Test.Qxb6605559aModsL
import Derived.WalkKit
import Derived.ProofKit
import Derived.OpenShut
import Derived.ShutString
import Derived.ChangeOld
import Derived.Below
import Derived.Lib.SmallJoins
import Derived.Deep.Slices
namespace Go.Proofs.Qxb6605559aMods.fnCounterSequenceRun
open Go.ChangeShapes Go.WideShapes Go.ChangeAt Go.RowKit Go.Joins Go.Deep
open Go.ChangeMaps (open_string shut_string)
set_option linter.unusedVariables false

theorem own : ownKnob Trym.prog.godebug = none := by kernel_rfl
theorem cells30 : Trym.prog.cellsOf 30 = 4 := by kernel_rfl
theorem cells5 : Trym.prog.cellsOf 5 = 1 := by kernel_rfl
theorem cells26 : Trym.prog.cellsOf 26 = 1 := by kernel_rfl

/-- A group's four cells. -/
theorem group_of {H : Type} {enc : TypeId × Value → H} {w : World} {base : Nat} {sp : Nat → Bool} {held : Bool} {n : Nat} {cs : List Value} {x : DataW H × List MemPlace} (h : DataW.trod enc Trym.prog w base sp held n 30 cs = some x) :
    ∃ v hh q g, cs = [.int .u8 v, .int .u8 hh, .int .u32 q, .int .u32 g] ∧ (Lit.int .u8 hh).wf = true ∧ (Lit.int .u32 q).wf = true ∧ (Lit.int .u32 g).wf = true := by
  obtain ⟨y0, y1, y2, y3, m, _, hl, h0, h1, h2, h3⟩ := trod_struct4 Trym.underlying30 h
  rw [cells30] at hl
  match cs, hl with
  | [c0, c1, c2, c3], _ =>
    simp only [cells5, cells26, List.drop_zero, List.drop_succ_cons, List.take_succ_cons, List.take_zero] at h0 h1 h2 h3
    obtain ⟨a0, e0, _, w0⟩ := DataW.trod_int Trym.underlying5 h0
    obtain ⟨a1, e1, _, w1⟩ := DataW.trod_int Trym.underlying5 h1
    obtain ⟨a2, e2, _, w2⟩ := DataW.trod_int Trym.underlying26 h2
    obtain ⟨a3, e3, _, w3⟩ := DataW.trod_int Trym.underlying26 h3
    simp at e0 e1 e2 e3
    subst e0 e1 e2 e3
    exact ⟨a0, a1, a2, a3, rfl, w1, w2, w3⟩

/-- What the walk is told of the slice. -/
def IsGrp (w : World) (a : Option Addr) (len cap : Nat) : Prop :=
  (a = none ∧ len = 0 ∧ cap = 0) ∨ (len = 0 ∧ ∃ x, a = some x) ∨
  ∃ (b off : Nat) (gv gh gq gn : Nat → Int), a = some ⟨b, off, none⟩ ∧ 0 < len ∧ len ≤ maxLen ∧ b < w.heap.size ∧
    (∀ i, i < len → w.cell? ⟨b, off + i * 4, none⟩ = some (.int .u8 (gv i)) ∧ w.cell? ⟨b, off + i * 4 + 1, none⟩ = some (.int .u8 (gh i)) ∧ w.cell? ⟨b, off + i * 4 + 2, none⟩ = some (.int .u32 (gq i)) ∧ w.cell? ⟨b, off + i * 4 + 3, none⟩ = some (.int .u32 (gn i))) ∧
    ∀ i, i < len → (Lit.int .u8 (gh i)).wf = true ∧ (Lit.int .u32 (gq i)).wf = true ∧ (Lit.int .u32 (gn i)).wf = true

theorem isGrp {H : Type} {enc : TypeId × Value → H} {w : World} {base : Nat} {sp : Nat → Bool} {held : Bool} {fuel : Nat} {a : Option Addr} {len cap : Nat} {x : DataW H × List MemPlace} (h : DataW.trod enc Trym.prog w base sp held fuel 53 [.slice a len cap] = some x) : IsGrp w a len cap := by
  rcases open_slice Trym.underlying53 h with ⟨e, _⟩ | ⟨ad, len', cap', m, n, D, Pl, e, hb, hl, hm, hmm, _, hx⟩
  · simp at e
    exact Or.inl e
  · simp at e
    obtain ⟨rfl, rfl, rfl⟩ := e
    by_cases h0 : len = 0
    · exact Or.inr (Or.inl ⟨h0, ad, rfl⟩)
    · have hle : len ≤ m := by rw [hmm]; split <;> omega
      have hg : ∀ i, i < len → ∃ g : Int × Int × Int × Int, w.cells? base (ad.add (i * 4)) 4 = some [.int .u8 g.1, .int .u8 g.2.1, .int .u32 g.2.2.1, .int .u32 g.2.2.2] ∧ (Lit.int .u8 g.2.1).wf = true ∧ (Lit.int .u32 g.2.2.1).wf = true ∧ (Lit.int .u32 g.2.2.2).wf = true := by
        intro i hi
        obtain ⟨cs, h1, h2⟩ := hx i (by omega)
        rw [cells30] at h1
        obtain ⟨v, hh, q, g, rfl, a1, a2, a3⟩ := group_of h2
        exact ⟨(v, hh, q, g), h1, a1, a2, a3⟩
      obtain ⟨G, hG⟩ := choose_lt (α := Int × Int × Int × Int) (p := fun i g => w.cells? base (ad.add (i * 4)) 4 = some [.int .u8 g.1, .int .u8 g.2.1, .int .u32 g.2.2.1, .int .u32 g.2.2.2] ∧ (Lit.int .u8 g.2.1).wf = true ∧ (Lit.int .u32 g.2.2.1).wf = true ∧ (Lit.int .u32 g.2.2.2).wf = true) hg
      obtain ⟨b, off, spot⟩ := ad
      have c00 := (World.cells?_some (hG 0 (by omega)).1).2.2 0 (by omega)
      have hspot : spot = none := by
        have : w.cell? ⟨b, off, spot⟩ = some (.int .u8 (G 0).1) := by simpa [Addr.add] using c00
        exact World.cell?_spot this
      subst hspot
      have cc : ∀ i, i < len → ∀ j, j < 4 → w.cell? ⟨b, off + i * 4 + j, none⟩ = [Value.int .u8 (G i).1, .int .u8 (G i).2.1, .int .u32 (G i).2.2.1, .int .u32 (G i).2.2.2][j]? := by
        intro i hi j hj
        have := (World.cells?_some (hG i hi).1).2.2 j hj
        rw [add_plain, add_plain] at this
        exact this
      refine Or.inr (Or.inr ⟨b, off, fun i => (G i).1, fun i => (G i).2.1, fun i => (G i).2.2.1, fun i => (G i).2.2.2, rfl, by omega, by omega, ?_, ?_, fun i hi => (hG i hi).2⟩)
      · exact World.block_lt_of_cell? w ⟨b, off + 0 * 4 + 0, none⟩ (cc 0 (by omega) 0 (by omega))
      · intro i hi
        exact ⟨cc i hi 0 (by omega), cc i hi 1 (by omega), cc i hi 2 (by omega), cc i hi 3 (by omega)⟩

theorem walk (a0 : Option Addr) (len0 cap0 : Nat) (w : World) (w0 : IsGrp w a0 len0 cap0) :
    Calls Trym.prog 4 #[.slice a0 len0 cap0] w fun e w' => e = .returned (.bool true) ∧ Below w.heap.size w w' := by
  rcases w0 with ⟨rfl, rfl, rfl⟩ | ⟨rfl, x, rfl⟩ | ⟨b, off, gv, gh, gq, gn, rfl, h0, hm, hb, hc, hw⟩
  · exact run_empty none 0 w (fun _ => rfl)
  · exact run_empty (some x) cap0 w (fun e => by cases e)
  · by_cases hl : len0 ≤ 65536
    · exact run_main b off len0 cap0 gv gh gq gn w h0 hl hb hc hw
    · exact run_long _ len0 cap0 w (by omega) (by unfold maxLen at hm; omega)

set_option maxRecDepth 100000 in
theorem lifted (os : Os) (started : os.Started) (H : Type) (enc : TypeId × Value → H) :
    ReturnsInHanded {} Trym.checked os 4 .any (Rows.fnCounterSequenceRunSpec.pre6 enc Trym.prog Trym.f4 Rows.fnCounterSequenceRunRow.domain false) (Rows.fnCounterSequenceRunSpec.post enc Trym.prog Trym.f4 false true false false) := by
  refine returnsInHanded_of_change (C := Trym.checked) own started (by kernel_rfl) Trym.func4
    (ChangeSpec.witness6 (enc := enc) (C := Trym.checked) false ⟨#[], #[.slice none 0 0], []⟩ 8 (by kernel_rfl) (by kernel_rfl) (by kernel_rfl) (by kernel_rfl)) ?_
  intro W base args ds gs before hval0 hW hcnd _
  have hval : ∀ (j : Nat) t v, Trym.f4.params[j]? = some t → args[j]? = some v → Value.okWide Trym.prog W .any base t v := hval0
  have hW' := hW
  obtain ⟨p, q, hA0, hV, rfl, hfz, hnd⟩ := hW
  have hA : DataW.TrodAll enc Trym.prog W 0 (fun _ => true) true Trym.f4.params.toList args.toList ds p := hA0
  rw [Trym.params4] at hA hval
  obtain ⟨v0, vs0, d0, ds0, p0, q0, hargs, rfl, rfl, h0, r0⟩ := trodAll_cons hA
  obtain ⟨rfl, rfl, rfl⟩ := trodAll_nil r0
  obtain rfl : args = #[v0] := by cases args; simp_all
  obtain ⟨rfl, rfl⟩ := trodVars_none hV
  obtain ⟨a0, len0, cap0, rfl⟩ := okWide_slice Trym.underlying53 (hval 0 53 v0 rfl rfl)
  have k0 := h0
  have lt0 : ∀ x ∈ p0, x.block < W.heap.size := by obtain ⟨m, hm⟩ := k0; exact DataW.trod_lt m _ _ _ hm
  have w0 : IsGrp W a0 len0 cap0 := by
    obtain ⟨fuel, hf⟩ := h0
    exact isGrp hf
  clear hA0 hval0
  refine (walk a0 len0 cap0 W w0).mono fun e W' ⟨he, bel⟩ => ?_
  subst he
  exact ⟨_, rfl, _, _, _, [], _, [], hW', trodAll_mk1 (shut_bool Trym.underlying4 _), (trodAll_cons_mk (Below.trod laidOut (by kernel_rfl) (of_decide_eq_true (by kernel_rfl)) k0 bel lt0) trodAll_mk0), rfl, bel.frame _, fun h => by cases h⟩

theorem over : Rows.fnCounterSequenceRunRow.holds Trym.pinned (OpenSpec.ofChange Rows.fnCounterSequenceRunSpec) :=
  OpenClaim.holds_of_wide 4 Trym.f4 rfl rfl rfl rfl rfl rfl rfl ⟨rfl, rfl, rfl, rfl, rfl⟩ rfl rfl rfl rfl rfl (by kernel_rfl) Trym.func4 (by kernel_rfl)
    (of_decide_eq_true (by kernel_rfl)) (by unfold Func.isWrapper; first | (rw [if_pos (by decide +kernel)]; kernel_rfl) | (rw [if_neg (by decide +kernel)]; exact ⟨rfl, rfl⟩))
    (fun os started H enc _ => lifted os started H enc)

theorem proved : Rows.FnCounterSequenceRunSaid := over
#print axioms proved
end Go.Proofs.Qxb6605559aMods.fnCounterSequenceRun
