import Derived.Test.Qxb6605559aModsRows
import Derived.Test.Qxb6605559aModsW
import Derived.WalkKit
import Derived.ProofKit
import Derived.OpenShut
import Derived.ShutString
import Derived.ChangeOld
import Derived.Below
namespace Go.Proofs.Qxb6605559aMods.fnCounterRememberExact
open Go.ChangeShapes Go.WideShapes Go.ChangeAt Go.RowKit Go.Joins Go.Deep
open Go.ChangeMaps (open_string shut_string)
set_option linter.unusedVariables false

theorem own : ownKnob Trym.prog.godebug = none := by kernel_rfl

theorem walk (a : Option Addr) (len cap : Nat) (nm : Bool) (r t m u p l e cn ch cs : Int) (hc : Bool) (en eh eq : Nat → Int) (n h s : Int) (w : World) (hm : len ≤ maxLen) (hsrc : SrcE w a len cap en eh eq)
    (hwf : ∀ i, i < len → (Lit.int .u32 (en i)).wf = true ∧ (Lit.int .u8 (eh i)).wf = true ∧ (Lit.int .u32 (eq i)).wf = true)
    (wl : (Lit.int .u64 l).wf = true) (hn : (Lit.int .u32 n).wf = true) (hh : (Lit.int .u8 h).wf = true) (hs : (Lit.int .u32 s).wf = true) :
    Calls Trym.prog 5 #[stV a len cap nm r t m u p l e cn ch cs hc, .int .u32 n, .int .u8 h, .int .u32 s] w fun er w' => er = .returned (.bool true) ∧ Below w.heap.size w w' := by
  by_cases hl : len ≤ 65536
  · have := bounds_u64 wl
    exact rem_main a len cap nm r t m u p l e cn ch cs hc en eh eq n h s w hl hsrc hwf hn hh hs (by omega) (by omega)
  · exact rem_long a len cap nm r t m u p l e cn ch cs hc n h s w (by omega) (by unfold maxLen at hm; omega)

set_option maxRecDepth 100000 in
theorem lifted (os : Os) (started : os.Started) (H : Type) (enc : TypeId × Value → H) :
    ReturnsInHanded {} Trym.checked os 5 .any (Rows.fnCounterRememberExactSpec.pre6 enc Trym.prog Trym.f5 Rows.fnCounterRememberExactRow.domain false) (Rows.fnCounterRememberExactSpec.post enc Trym.prog Trym.f5 false true false false) := by
  refine returnsInHanded_of_change (C := Trym.checked) own started (by kernel_rfl) Trym.func5
    (ChangeSpec.witness6 (enc := enc) (C := Trym.checked) false ⟨#[], #[.agg #[.slice none 0 0, .bool false, .int .u64 0, .int .u64 0, .int .u64 0, .int .u64 0, .int .u64 0, .int .u64 0, .int .u64 0, .int .u32 0, .int .u8 0, .int .u32 0, .bool false], .int .u32 0, .int .u8 0, .int .u32 0], []⟩ 8 (by kernel_rfl) (by kernel_rfl) (by kernel_rfl) (by kernel_rfl)) ?_
  intro W base args ds gs before hval0 hW hcnd _
  have hval : ∀ (j : Nat) t v, Trym.f5.params[j]? = some t → args[j]? = some v → Value.okWide Trym.prog W .any base t v := hval0
  have hW' := hW
  obtain ⟨p, q, hA0, hV, rfl, hfz, hnd⟩ := hW
  have hA : DataW.TrodAll enc Trym.prog W 0 (fun _ => true) true Trym.f5.params.toList args.toList ds p := hA0
  rw [Trym.params5] at hA hval
  obtain ⟨v0, vs0, d0, ds0, p0, q0, hargs, rfl, rfl, h0, r0⟩ := trodAll_cons hA
  obtain ⟨v1, vs1, d1, ds1, p1, q1, rfl, rfl, rfl, h1, r1⟩ := trodAll_cons r0
  obtain ⟨v2, vs2, d2, ds2, p2, q2, rfl, rfl, rfl, h2, r2⟩ := trodAll_cons r1
  obtain ⟨v3, vs3, d3, ds3, p3, q3, rfl, rfl, rfl, h3, r3⟩ := trodAll_cons r2
  obtain ⟨rfl, rfl, rfl⟩ := trodAll_nil r3
  obtain rfl : args = #[v0, v1, v2, v3] := by cases args; simp_all
  obtain ⟨rfl, rfl⟩ := trodVars_none hV
  obtain ⟨n, rfl, rfl, rfl, wn⟩ := open_int Trym.underlying26 (hval 1 26 v1 rfl rfl) h1
  obtain ⟨h, rfl, rfl, rfl, wh⟩ := open_int Trym.underlying5 (hval 2 5 v2 rfl rfl) h2
  obtain ⟨s, rfl, rfl, rfl, ws⟩ := open_int Trym.underlying26 (hval 3 26 v3 rfl rfl) h3
  have k0 := h0
  have lt0 : ∀ x ∈ p0, x.block < W.heap.size := by obtain ⟨m, hm⟩ := k0; exact DataW.trod_lt m _ _ _ hm
  obtain ⟨a, len, cap, en, eh, eq, nm, r, t, m, u, pp, l, e, cn, ch, cs, hc, rfl, hm, hsrc, hwf, wl, _, _, _⟩ := open_state (hval 0 28 v0 rfl rfl) h0
  clear hA0 hval0
  refine (walk a len cap nm r t m u pp l e cn ch cs hc en eh eq n h s W hm hsrc hwf wl wn wh ws).mono fun e W' ⟨he, bel⟩ => ?_
  subst he
  exact ⟨_, rfl, _, _, _, [], _, [], hW', trodAll_mk1 (shut_bool Trym.underlying4 _),
    (trodAll_cons_mk (Below.trod laidOut (by kernel_rfl) (of_decide_eq_true (by kernel_rfl)) k0 bel lt0) (trodAll_cons_mk (shut_int Trym.underlying26 wn) (trodAll_cons_mk (shut_int Trym.underlying5 wh) (trodAll_cons_mk (shut_int Trym.underlying26 ws) trodAll_mk0)))), rfl, bel.frame _, fun h => by cases h⟩

theorem over : Rows.fnCounterRememberExactRow.holds Trym.pinned (OpenSpec.ofChange Rows.fnCounterRememberExactSpec) :=
  OpenClaim.holds_of_wide 5 Trym.f5 rfl rfl rfl rfl rfl rfl rfl ⟨rfl, rfl, rfl, rfl, rfl⟩ rfl rfl rfl rfl rfl (by kernel_rfl) Trym.func5 (by kernel_rfl)
    (of_decide_eq_true (by kernel_rfl)) (by unfold Func.isWrapper; first | (rw [if_pos (by decide +kernel)]; kernel_rfl) | (rw [if_neg (by decide +kernel)]; exact ⟨rfl, rfl⟩))
    (fun os started H enc _ => lifted os started H enc)

theorem proved : Rows.FnCounterRememberExactSaid := over
#print axioms proved
end Go.Proofs.Qxb6605559aMods.fnCounterRememberExact
