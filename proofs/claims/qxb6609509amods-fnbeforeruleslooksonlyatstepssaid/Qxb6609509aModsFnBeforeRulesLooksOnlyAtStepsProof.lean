import Derived.Test.Qxb6609509aModsRows
import Derived.Test.Qxb6609509aModsI
import Derived.WalkKit
import Derived.ProofKit
import Derived.OpenShut
import Derived.ShutString
import Derived.ChangeOld
import Derived.Below
import Derived.SliceStrings
namespace Go.Proofs.Qxb6609509aMods.fnBeforeRulesLooksOnlyAtSteps
open Go.ChangeShapes Go.WideShapes Go.ChangeAt Go.RowKit
open Go.ChangeMaps (open_string shut_string)
set_option linter.unusedVariables false

theorem own : ownKnob Trym.prog.godebug = none := by kernel_rfl
theorem laidOut : laidOutB Trym.prog = true := by kernel_rfl

theorem u8b {c : Int} (h : (Lit.int .u8 c).wf = true) : 0 ≤ c ∧ c ≤ 255 := by
  have := bounds_u8 h
  omega

set_option maxRecDepth 100000 in
theorem lifted (os : Os) (started : os.Started) (H : Type) (enc : TypeId × Value → H) :
    ReturnsInHanded {} Trym.checked os 5 .any (Rows.fnBeforeRulesLooksOnlyAtStepsSpec.pre6 enc Trym.prog Trym.f5 Rows.fnBeforeRulesLooksOnlyAtStepsRow.domain false) (Rows.fnBeforeRulesLooksOnlyAtStepsSpec.post enc Trym.prog Trym.f5 false true false false) := by
  refine returnsInHanded_of_change (C := Trym.checked) own started (by kernel_rfl) Trym.func5
    (ChangeSpec.witness6 (enc := enc) (C := Trym.checked) false ⟨#[], #[.bool false, .bool false, .string ⟨#[]⟩, .slice none 0 0, .bool false, .string ⟨#[]⟩, .int .u8 0, .int .u8 0, .bool false, .int .u8 0, .int .u8 0, .int .u8 0], []⟩ 8 (by kernel_rfl) (by kernel_rfl) (by kernel_rfl) (by kernel_rfl)) ?_
  intro W base args ds gs before hval0 hW hcnd _
  have hval : ∀ (j : Nat) t v, Trym.f5.params[j]? = some t → args[j]? = some v → Value.okWide Trym.prog W .any base t v := hval0
  have hW' := hW
  obtain ⟨p, q, hA0, hV, rfl, hfz, hnd⟩ := hW
  have hA : DataW.TrodAll enc Trym.prog W 0 (fun _ => true) true Trym.f5.params.toList args.toList ds p := hA0
  rw [Trym.params5] at hA hval
  obtain ⟨v0, vs0, d0, ds0, p0, q0, hargs, rfl, rfl, h0, r0⟩ := trodAll_cons hA
  obtain ⟨v1, vs1, d1, ds1, p1, q1, rfl, rfl, rfl, h1, r1⟩ := trodAll_cons r0
  obtain ⟨v2, vs2, d2, ds2, p2, q2, rfl, rfl, rfl, h2, r2⟩ := trodAll_cons r1
  obtain ⟨v3, vs3, d3, ds3, p3, q3, rfl, rfl, rfl, h3, r3⟩ := trodAll_cons r2
  obtain ⟨v4, vs4, d4, ds4, p4, q4, rfl, rfl, rfl, h4, r4⟩ := trodAll_cons r3
  obtain ⟨v5, vs5, d5, ds5, p5, q5, rfl, rfl, rfl, h5, r5⟩ := trodAll_cons r4
  obtain ⟨v6, vs6, d6, ds6, p6, q6, rfl, rfl, rfl, h6, r6⟩ := trodAll_cons r5
  obtain ⟨v7, vs7, d7, ds7, p7, q7, rfl, rfl, rfl, h7, r7⟩ := trodAll_cons r6
  obtain ⟨v8, vs8, d8, ds8, p8, q8, rfl, rfl, rfl, h8, r8⟩ := trodAll_cons r7
  obtain ⟨v9, vs9, d9, ds9, p9, q9, rfl, rfl, rfl, h9, r9⟩ := trodAll_cons r8
  obtain ⟨v10, vs10, d10, ds10, p10, q10, rfl, rfl, rfl, h10, r10⟩ := trodAll_cons r9
  obtain ⟨v11, vs11, d11, ds11, p11, q11, rfl, rfl, rfl, h11, r11⟩ := trodAll_cons r10
  obtain ⟨rfl, rfl, rfl⟩ := trodAll_nil r11
  obtain rfl : args = #[v0, v1, v2, v3, v4, v5, v6, v7, v8, v9, v10, v11] := by cases args; simp_all
  obtain ⟨rfl, rfl⟩ := trodVars_none hV
  obtain ⟨nd, rfl, rfl, rfl⟩ := open_bool Trym.underlying4 (hval 0 4 v0 rfl rfl) h0
  obtain ⟨un, rfl, rfl, rfl⟩ := open_bool Trym.underlying4 (hval 1 4 v1 rfl rfl) h1
  obtain ⟨u, rfl, rfl, rfl, w2⟩ := open_string Trym.underlying9 (hval 2 9 v2 rfl rfl) h2
  obtain ⟨a, len, cap, rfl⟩ := okWide_slice Trym.underlying23 (hval 3 23 v3 rfl rfl)
  have k3 := h3
  have lt3 : ∀ x ∈ p3, x.block < W.heap.size := by obtain ⟨m, hm⟩ := k3; exact DataW.trod_lt m _ _ _ hm
  obtain ⟨ss, hl, hs⟩ : ∃ ss : Nat → ByteArray, len ≤ 9223372036854775807 ∧ Strs W a len ss := by
    obtain ⟨fuel, hf⟩ := h3
    rcases open_strings Trym.underlying23 Trym.underlying9 (by kernel_rfl) hf with ⟨hcs, _⟩ | ⟨x, l, c, zs, hcs, _, hl, hm, hz, _, hcell, hwz⟩
    · simp [Value.cells] at hcs
      obtain ⟨rfl, rfl, rfl⟩ := hcs
      exact ⟨fun _ => ByteArray.empty, by omega, Or.inl rfl⟩
    · simp [Value.cells] at hcs
      obtain ⟨rfl, rfl, rfl⟩ := hcs
      have hz' : zs.length = cap := by simpa using hz
      refine ⟨fun i => zs.getD i ByteArray.empty, by unfold maxLen at hm; omega, ?_⟩
      by_cases h0 : len = 0
      · exact Or.inl h0
      · obtain ⟨b, off, spot⟩ := x
        have c0 := hcell 0 (by omega)
        have hspot : spot = none := World.cell?_spot (a := ⟨b, off, spot⟩) (by simpa [Addr.add] using c0)
        subst hspot
        refine Or.inr ⟨b, off, rfl, fun i hi => ?_⟩
        have := hcell i (by omega)
        by_cases e : i = 0
        · subst e
          simpa [Addr.add] using this
        · simpa [Addr.add, e] using this
  obtain ⟨rc, rfl, rfl, rfl⟩ := open_bool Trym.underlying4 (hval 4 4 v4 rfl rfl) h4
  obtain ⟨md, rfl, rfl, rfl, w5⟩ := open_string Trym.underlying9 (hval 5 9 v5 rfl rfl) h5
  obtain ⟨op, rfl, rfl, rfl, w6⟩ := open_int Trym.underlying5 (hval 6 5 v6 rfl rfl) h6
  obtain ⟨kd, rfl, rfl, rfl, w7⟩ := open_int Trym.underlying5 (hval 7 5 v7 rfl rfl) h7
  obtain ⟨ap, rfl, rfl, rfl⟩ := open_bool Trym.underlying4 (hval 8 4 v8 rfl rfl) h8
  obtain ⟨dn, rfl, rfl, rfl, w9⟩ := open_int Trym.underlying5 (hval 9 5 v9 rfl rfl) h9
  obtain ⟨bd, rfl, rfl, rfl, w10⟩ := open_int Trym.underlying5 (hval 10 5 v10 rfl rfl) h10
  obtain ⟨dr, rfl, rfl, rfl, w11⟩ := open_int Trym.underlying5 (hval 11 5 v11 rfl rfl) h11
  clear hA0 hval0
  refine (lw_any nd un rc ap u md a len cap ss op kd dn bd dr W hl hs (u8b w6).1 (u8b w6).2).mono fun e W' ⟨he, bel⟩ => ?_
  subst he
  exact ⟨_, rfl, _, _, _, [], _, [], hW', trodAll_mk1 (shut_bool Trym.underlying4 _), (trodAll_cons_mk (shut_bool Trym.underlying4 _) (trodAll_cons_mk (shut_bool Trym.underlying4 _) (trodAll_cons_mk (shut_string Trym.underlying9 w2) (trodAll_cons_mk (Below.trod laidOut (by kernel_rfl) (of_decide_eq_true (by kernel_rfl)) k3 bel lt3) (trodAll_cons_mk (shut_bool Trym.underlying4 _) (trodAll_cons_mk (shut_string Trym.underlying9 w5) (trodAll_cons_mk (shut_int Trym.underlying5 w6) (trodAll_cons_mk (shut_int Trym.underlying5 w7) (trodAll_cons_mk (shut_bool Trym.underlying4 _) (trodAll_cons_mk (shut_int Trym.underlying5 w9) (trodAll_cons_mk (shut_int Trym.underlying5 w10) (trodAll_cons_mk (shut_int Trym.underlying5 w11) trodAll_mk0)))))))))))), rfl, bel.frame _, fun h => by cases h⟩

theorem over : Rows.fnBeforeRulesLooksOnlyAtStepsRow.holds Trym.pinned (OpenSpec.ofChange Rows.fnBeforeRulesLooksOnlyAtStepsSpec) :=
  OpenClaim.holds_of_wide 5 Trym.f5 rfl rfl rfl rfl rfl rfl rfl ⟨rfl, rfl, rfl, rfl, rfl⟩ rfl rfl rfl rfl rfl (by kernel_rfl) Trym.func5 (by kernel_rfl)
    (of_decide_eq_true (by kernel_rfl)) (by unfold Func.isWrapper; first | (rw [if_pos (by decide +kernel)]; kernel_rfl) | (rw [if_neg (by decide +kernel)]; exact ⟨rfl, rfl⟩))
    (fun os started H enc _ => lifted os started H enc)

theorem proved : Rows.FnBeforeRulesLooksOnlyAtStepsSaid := over
#print axioms proved
end Go.Proofs.Qxb6609509aMods.fnBeforeRulesLooksOnlyAtSteps
