import Derived.Test.Qxb6605559aModsRows
import Derived.Test.Qxb6605559aModsY
import Derived.WalkKit
import Derived.ProofKit
import Derived.OpenShut
import Derived.ShutString
import Derived.ChangeOld
import Derived.Below
namespace Go.Proofs.Qxb6605559aMods.fnCounterSequenceStep
open Go.ChangeShapes Go.WideShapes Go.ChangeAt Go.RowKit Go.Joins Go.Deep
open Go.ChangeMaps (open_string shut_string)
set_option linter.unusedVariables false

theorem own : ownKnob Trym.prog.godebug = none := by kernel_rfl

theorem walk (a : Option Addr) (len cap : Nat) (nm : Bool) (r t m u p l e cn ch cs : Int) (hc : Bool) (en eh eq : Nat → Int) (v h s n : Int) (w : World) (hm : len ≤ maxLen) (hsrc : SrcE w a len cap en eh eq)
    (hwf : ∀ i, i < len → (Lit.int .u32 (en i)).wf = true ∧ (Lit.int .u8 (eh i)).wf = true ∧ (Lit.int .u32 (eq i)).wf = true)
    (wl : (Lit.int .u64 l).wf = true) (hn : (Lit.int .u32 n).wf = true) (hh : (Lit.int .u8 h).wf = true) (hs : (Lit.int .u32 s).wf = true) (hcn : (Lit.int .u32 cn).wf = true) (hch : (Lit.int .u8 ch).wf = true) (hcs : (Lit.int .u32 cs).wf = true) :
    Calls Trym.prog 3 #[stV a len cap nm r t m u p l e cn ch cs hc, .agg #[.int .u8 v, .int .u8 h, .int .u32 s, .int .u32 n]] w fun er w' => er = .returned (.bool true) ∧ Below w.heap.size w w' := by
  by_cases hl : len ≤ 65536
  · have := bounds_u64 wl
    exact step_main a len cap nm r t m u p l e cn ch cs hc en eh eq v h s n w hl hsrc hwf hn hh hs hcn hch hcs (by omega) (by omega)
  · exact step_long a len cap nm r t m u p l e cn ch cs hc v h s n w (by omega) (by unfold maxLen at hm; omega)

/-- A group, opened. -/
theorem cells30 : Trym.prog.cellsOf 30 = 4 := by kernel_rfl
theorem open_group {H : Type} {enc : TypeId × Value → H} {w : World} {base b0 : Nat} {r0 : Reach} {sp : Nat → Bool} {held : Bool} {v : Value} {d : DataW H} {ps : List MemPlace} (hv : Value.okWide Trym.prog w r0 b0 30 v) (h : DataW.Trod enc Trym.prog w base sp held 30 v d ps) :
    ∃ x hh q g, v = .agg #[.int .u8 x, .int .u8 hh, .int .u32 q, .int .u32 g] ∧ (Lit.int .u8 hh).wf = true ∧ (Lit.int .u32 q).wf = true ∧ (Lit.int .u32 g).wf = true := by
  obtain ⟨cs, rfl, hsz⟩ := okWide_struct Trym.underlying30 hv
  rw [cells30] at hsz
  obtain ⟨L⟩ := cs
  match L, hsz with
  | [c0, c1, c2, c3], _ =>
    obtain ⟨fuel, hf0⟩ := h
    obtain ⟨y0, y1, y2, y3, m, _, hl, h0, h1, h2, h3⟩ := trod_struct4 Trym.underlying30 hf0
    simp only [Value.cells, cells5, cells26, List.drop_zero, List.drop_succ_cons, List.take_succ_cons, List.take_zero] at h0 h1 h2 h3
    obtain ⟨a0, e0, _, w0⟩ := DataW.trod_int Trym.underlying5 h0
    obtain ⟨a1, e1, _, w1⟩ := DataW.trod_int Trym.underlying5 h1
    obtain ⟨a2, e2, _, w2⟩ := DataW.trod_int Trym.underlying26 h2
    obtain ⟨a3, e3, _, w3⟩ := DataW.trod_int Trym.underlying26 h3
    simp at e0 e1 e2 e3
    subst e0 e1 e2 e3
    exact ⟨a0, a1, a2, a3, rfl, w1, w2, w3⟩

set_option maxRecDepth 100000 in
theorem lifted (os : Os) (started : os.Started) (H : Type) (enc : TypeId × Value → H) :
    ReturnsInHanded {} Trym.checked os 3 .any (Rows.fnCounterSequenceStepSpec.pre6 enc Trym.prog Trym.f3 Rows.fnCounterSequenceStepRow.domain false) (Rows.fnCounterSequenceStepSpec.post enc Trym.prog Trym.f3 false true false false) := by
  refine returnsInHanded_of_change (C := Trym.checked) own started (by kernel_rfl) Trym.func3
    (ChangeSpec.witness6 (enc := enc) (C := Trym.checked) false ⟨#[], #[.agg #[.slice none 0 0, .bool false, .int .u64 0, .int .u64 0, .int .u64 0, .int .u64 0, .int .u64 0, .int .u64 0, .int .u64 0, .int .u32 0, .int .u8 0, .int .u32 0, .bool false], .agg #[.int .u8 0, .int .u8 0, .int .u32 0, .int .u32 0]], []⟩ 8 (by kernel_rfl) (by kernel_rfl) (by kernel_rfl) (by kernel_rfl)) ?_
  intro W base args ds gs before hval0 hW hcnd _
  have hval : ∀ (j : Nat) t v, Trym.f3.params[j]? = some t → args[j]? = some v → Value.okWide Trym.prog W .any base t v := hval0
  have hW' := hW
  obtain ⟨p, q, hA0, hV, rfl, hfz, hnd⟩ := hW
  have hA : DataW.TrodAll enc Trym.prog W 0 (fun _ => true) true Trym.f3.params.toList args.toList ds p := hA0
  rw [Trym.params3] at hA hval
  obtain ⟨v0, vs0, d0, ds0, p0, q0, hargs, rfl, rfl, h0, r0⟩ := trodAll_cons hA
  obtain ⟨v1, vs1, d1, ds1, p1, q1, rfl, rfl, rfl, h1, r1⟩ := trodAll_cons r0
  obtain ⟨rfl, rfl, rfl⟩ := trodAll_nil r1
  obtain rfl : args = #[v0, v1] := by cases args; simp_all
  obtain ⟨rfl, rfl⟩ := trodVars_none hV
  have k1 := h1
  have lt1 : ∀ x ∈ p1, x.block < W.heap.size := by obtain ⟨m, hm⟩ := k1; exact DataW.trod_lt m _ _ _ hm
  obtain ⟨v, h, s, n, rfl, wh, ws, wn⟩ := open_group (hval 1 30 v1 rfl rfl) h1
  have k0 := h0
  have lt0 : ∀ x ∈ p0, x.block < W.heap.size := by obtain ⟨m, hm⟩ := k0; exact DataW.trod_lt m _ _ _ hm
  obtain ⟨a, len, cap, en, eh, eq, nm, r, t, m, u, pp, l, e, cn, ch, cs, hc, rfl, hm, hsrc, hwf, wl, wcn, wch, wcs⟩ := open_state (hval 0 28 v0 rfl rfl) h0
  clear hA0 hval0
  refine (walk a len cap nm r t m u pp l e cn ch cs hc en eh eq v h s n W hm hsrc hwf wl wn wh ws wcn wch wcs).mono fun e W' ⟨he, bel⟩ => ?_
  subst he
  exact ⟨_, rfl, _, _, _, [], _, [], hW', trodAll_mk1 (shut_bool Trym.underlying4 _),
    (trodAll_cons_mk (Below.trod laidOut (by kernel_rfl) (of_decide_eq_true (by kernel_rfl)) k0 bel lt0) (trodAll_cons_mk (Below.trod laidOut (by kernel_rfl) (of_decide_eq_true (by kernel_rfl)) k1 bel lt1) trodAll_mk0)), rfl, bel.frame _, fun h => by cases h⟩

theorem over : Rows.fnCounterSequenceStepRow.holds Trym.pinned (OpenSpec.ofChange Rows.fnCounterSequenceStepSpec) :=
  OpenClaim.holds_of_wide 3 Trym.f3 rfl rfl rfl rfl rfl rfl rfl ⟨rfl, rfl, rfl, rfl, rfl⟩ rfl rfl rfl rfl rfl (by kernel_rfl) Trym.func3 (by kernel_rfl)
    (of_decide_eq_true (by kernel_rfl)) (by unfold Func.isWrapper; first | (rw [if_pos (by decide +kernel)]; kernel_rfl) | (rw [if_neg (by decide +kernel)]; exact ⟨rfl, rfl⟩))
    (fun os started H enc _ => lifted os started H enc)

theorem proved : Rows.FnCounterSequenceStepSaid := over
#print axioms proved
end Go.Proofs.Qxb6605559aMods.fnCounterSequenceStep
