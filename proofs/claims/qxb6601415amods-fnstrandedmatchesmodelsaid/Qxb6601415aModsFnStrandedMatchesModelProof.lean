import Derived.Test.Qxb6601415aModsRows
import Derived.Test.Qxb6601415aModsZ6
import Derived.Test.Qxb6601415aModsZ7
import Derived.Test.Qxb6601415aModsZ8
import Derived.WalkKit
import Derived.ProofKit
import Derived.OpenShut
import Derived.ShutString
import Derived.ChangeOld
import Derived.Below
namespace Go.Proofs.Qxb6601415aMods.fnStrandedMatchesModel
open Go.ChangeShapes Go.WideShapes Go.ChangeAt Go.RowKit
open Go.ChangeMaps (open_string shut_string)
set_option linter.unusedVariables false

theorem own : ownKnob Trym.prog.godebug = none := by kernel_rfl
theorem laidOut : laidOutB Trym.prog = true := by kernel_rfl

/-- The address of a slice that is handed in is a whole one. -/
theorem spot_none {W : World} {r : Reach} {base t e : Nat} {x : Addr} {len cap : Nat} (ht : Trym.prog.underlying t = some (.slice e)) (h : Value.okWide Trym.prog W r base t (.slice (some x) len cap)) : x.spot = none := by
  unfold Value.okWide at h
  rw [ht] at h
  unfold Cell.okWide at h
  rw [ht] at h
  unfold Cell.ok at h
  rw [ht] at h
  exact h.2.2.2.1

/-- A slice that came in, as 'SlV'. -/
theorem slv {A : Type} {W : World} {r : Reach} {base t e sz : Nat} {a : Option Addr} {len cap : Nat} {rd : A → List Value} {f : Nat → A} (ht : Trym.prog.underlying t = some (.slice e)) (hv : Value.okWide Trym.prog W r base t (.slice a len cap))
    (h : (a = none ∧ len = 0 ∧ cap = 0) ∨ (len = 0 ∧ ∃ x, a = some x) ∨ ∃ b off, a = some ⟨b, off, none⟩ ∧ WRow W b off len sz (fun i => rd (f i))) : SlV W (.slice a len cap) len sz (fun i => rd (f i)) := by
  rcases h with ⟨rfl, rfl, rfl⟩ | ⟨rfl, x, rfl⟩ | ⟨b, off, rfl, hr⟩
  · exact .inl ⟨rfl, rfl⟩
  · have hs := spot_none ht hv
    obtain ⟨b, off, sp⟩ := x
    have hs2 : sp = none := hs
    subst hs2
    exact .inr ⟨b, off, cap, rfl, fun i hi => absurd hi (by omega)⟩
  · exact .inr ⟨b, off, cap, rfl, hr⟩

theorem walk (a0 a1 a2 : Option Addr) (l0 c0 l1 c1 l2 c2 : Nat) (bs : Nat → Bs) (ids : Nat → List UInt8) (wt : Nat → List UInt8 × Int) (w : World)
    (h0 : SlV w (.slice a0 l0 c0) l0 21 (fun i => ent (bs i).id (.slice (bs i).ta (bs i).tn (bs i).tc))) (g0 : ∀ i, i < l0 → (bs i).id.length = 20 ∧ TreesW w (.slice (bs i).ta (bs i).tn (bs i).tc) (bs i).tn (bs i).tt)
    (h1 : SlV w (.slice a1 l1 c1) l1 20 (fun i => idc (ids i))) (g1 : ∀ i, i < l1 → (ids i).length = 20)
    (h2 : SlV w (.slice a2 l2 c2) l2 21 (fun i => ent (wt i).1 (.int .i64 (wt i).2))) (g2 : ∀ i, i < l2 → (wt i).1.length = 20) :
    Calls Trym.prog 5 #[.slice a0 l0 c0, .slice a1 l1 c1, .slice a2 l2 c2] w fun e w' => e = .returned (.bool true) ∧ Below w.heap.size w w' := by
  by_cases hl : l0 ≤ 4096 ∧ l1 ≤ 4096 ∧ l2 ≤ 4096
  · exact law_part _ _ _ l0 l1 l2 (fun i => (bs i).id) ids (fun i => (bs i).ta) (fun i => (bs i).tn) (fun i => (bs i).tc) (fun i => (bs i).tt) (fun i => (wt i).1) (fun i => (wt i).2) w hl.1 hl.2.1 hl.2.2
      ⟨h0, fun i hi => (g0 i hi).1⟩ (fun i hi => (g0 i hi).2) ⟨h1, g1⟩ ⟨h2, g2⟩
  · exact law_over a0 a1 a2 l0 c0 l1 c1 l2 c2 w hl

set_option maxRecDepth 100000 in
theorem lifted (os : Os) (started : os.Started) (H : Type) (enc : TypeId × Value → H) :
    ReturnsInHanded {} Trym.checked os 5 .any (Rows.fnStrandedMatchesModelSpec.pre6 enc Trym.prog Trym.f5 Rows.fnStrandedMatchesModelRow.domain false) (Rows.fnStrandedMatchesModelSpec.post enc Trym.prog Trym.f5 false true false false) := by
  refine returnsInHanded_of_change (C := Trym.checked) own started (by kernel_rfl) Trym.func5
    (ChangeSpec.witness6 (enc := enc) (C := Trym.checked) false ⟨#[], #[.slice none 0 0, .slice none 0 0, .slice none 0 0], []⟩ 8 (by kernel_rfl) (by kernel_rfl) (by kernel_rfl) (by kernel_rfl)) ?_
  intro W base args ds gs before hval0 hW hcnd _
  have hval : ∀ (j : Nat) t v, Trym.f5.params[j]? = some t → args[j]? = some v → Value.okWide Trym.prog W .any base t v := hval0
  have hW' := hW
  obtain ⟨p, q, hA0, hV, rfl, hfz, hnd⟩ := hW
  have hA : DataW.TrodAll enc Trym.prog W 0 (fun _ => true) true Trym.f5.params.toList args.toList ds p := hA0
  rw [Trym.params5] at hA hval
  obtain ⟨v0, vs0, d0, ds0, p0, q0, hargs, rfl, rfl, h0, r0⟩ := trodAll_cons hA
  obtain ⟨v1, vs1, d1, ds1, p1, q1, rfl, rfl, rfl, h1, r1⟩ := trodAll_cons r0
  obtain ⟨v2, vs2, d2, ds2, p2, q2, rfl, rfl, rfl, h2, r2⟩ := trodAll_cons r1
  obtain ⟨rfl, rfl, rfl⟩ := trodAll_nil r2
  obtain rfl : args = #[v0, v1, v2] := by cases args; simp_all
  obtain ⟨rfl, rfl⟩ := trodVars_none hV
  obtain ⟨a0, l0, c0, rfl⟩ := okWide_slice Trym.underlying39 (hval 0 39 v0 rfl rfl)
  obtain ⟨a1, l1, c1, rfl⟩ := okWide_slice Trym.underlying28 (hval 1 28 v1 rfl rfl)
  obtain ⟨a2, l2, c2, rfl⟩ := okWide_slice Trym.underlying40 (hval 2 40 v2 rfl rfl)
  have k0 := h0
  have k1 := h1
  have k2 := h2
  have lt0 : ∀ x ∈ p0, x.block < W.heap.size := by obtain ⟨m, hm⟩ := k0; exact DataW.trod_lt m _ _ _ hm
  have lt1 : ∀ x ∈ p1, x.block < W.heap.size := by obtain ⟨m, hm⟩ := k1; exact DataW.trod_lt m _ _ _ hm
  have lt2 : ∀ x ∈ p2, x.block < W.heap.size := by obtain ⟨m, hm⟩ := k2; exact DataW.trod_lt m _ _ _ hm
  obtain ⟨bs, s0, g0⟩ : ∃ bs : Nat → Bs, SlV W (.slice a0 l0 c0) l0 21 (fun i => ent (bs i).id (.slice (bs i).ta (bs i).tn (bs i).tc)) ∧ ∀ i, i < l0 → (bs i).id.length = 20 ∧ TreesW W (.slice (bs i).ta (bs i).tn (bs i).tc) (bs i).tn (bs i).tt := by
    obtain ⟨fuel, hf⟩ := h0
    obtain ⟨a, len, cap, f, e, hq, hh⟩ := open_wide (A := Bs) (sz := 21) Trym.underlying39 cells50 (by omega) (fun a => ent a.id (.slice a.ta a.tn a.tc)) (fun a => a.id.length = 20 ∧ TreesW W (.slice a.ta a.tn a.tc) a.tn a.tt) (fun m cs x h => open_base h) (c := .slice a0 l0 c0) hf
    cases e
    exact ⟨f, slv (rd := fun a : Bs => ent a.id (.slice a.ta a.tn a.tc)) Trym.underlying39 (hval 0 39 _ rfl rfl) hh, hq⟩
  obtain ⟨ids, s1, g1⟩ : ∃ ids : Nat → List UInt8, SlV W (.slice a1 l1 c1) l1 20 (fun i => idc (ids i)) ∧ ∀ i, i < l1 → (ids i).length = 20 := by
    obtain ⟨fuel, hf⟩ := h1
    obtain ⟨a, len, cap, f, e, hq, hh⟩ := open_wide (A := List UInt8) (sz := 20) Trym.underlying28 cells34 (by omega) (fun a => idc a) (fun a => a.length = 20) (fun m cs x h => (open_id h).imp fun l hl => ⟨hl.2, hl.1⟩) (c := .slice a1 l1 c1) hf
    cases e
    exact ⟨f, slv (rd := fun a : List UInt8 => idc a) Trym.underlying28 (hval 1 28 _ rfl rfl) hh, hq⟩
  obtain ⟨wt, s2, g2⟩ : ∃ wt : Nat → List UInt8 × Int, SlV W (.slice a2 l2 c2) l2 21 (fun i => ent (wt i).1 (.int .i64 (wt i).2)) ∧ ∀ i, i < l2 → (wt i).1.length = 20 := by
    obtain ⟨fuel, hf⟩ := h2
    obtain ⟨a, len, cap, f, e, hq, hh⟩ := open_wide (A := List UInt8 × Int) (sz := 21) Trym.underlying40 cells77 (by omega) (fun a => ent a.1 (.int .i64 a.2)) (fun a => a.1.length = 20) (fun m cs x h => open_wait h) (c := .slice a2 l2 c2) hf
    cases e
    exact ⟨f, slv (rd := fun a : List UInt8 × Int => ent a.1 (.int .i64 a.2)) Trym.underlying40 (hval 2 40 _ rfl rfl) hh, hq⟩
  clear hA0 hval0 hval
  refine (walk a0 a1 a2 l0 c0 l1 c1 l2 c2 bs ids wt W s0 g0 s1 g1 s2 g2).mono fun e W' ⟨he, bel⟩ => ?_
  subst he
  exact ⟨_, rfl, _, _, _, [], _, [], hW', trodAll_mk1 (shut_bool Trym.underlying4 _),
    (trodAll_cons_mk (Below.trod laidOut (by kernel_rfl) (of_decide_eq_true (by kernel_rfl)) k0 bel lt0) (trodAll_cons_mk (Below.trod laidOut (by kernel_rfl) (of_decide_eq_true (by kernel_rfl)) k1 bel lt1) (trodAll_cons_mk (Below.trod laidOut (by kernel_rfl) (of_decide_eq_true (by kernel_rfl)) k2 bel lt2) trodAll_mk0))), rfl, bel.frame _, fun h => by cases h⟩

theorem over : Rows.fnStrandedMatchesModelRow.holds Trym.pinned (OpenSpec.ofChange Rows.fnStrandedMatchesModelSpec) :=
  OpenClaim.holds_of_wide 5 Trym.f5 rfl rfl rfl rfl rfl rfl rfl ⟨rfl, rfl, rfl, rfl, rfl⟩ rfl rfl rfl rfl rfl (by kernel_rfl) Trym.func5 (by kernel_rfl)
    (of_decide_eq_true (by kernel_rfl)) (by unfold Func.isWrapper; first | (rw [if_pos (by decide +kernel)]; kernel_rfl) | (rw [if_neg (by decide +kernel)]; exact ⟨rfl, rfl⟩))
    (fun os started H enc _ => lifted os started H enc)

/-- THE STATEMENT -/
theorem proved : Rows.FnStrandedMatchesModelSaid := over
#print axioms proved
end Go.Proofs.Qxb6601415aMods.fnStrandedMatchesModel
